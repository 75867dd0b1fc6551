import JvmDerived
import JvmDerived.Pilot.@@N@@Statement
import JvmDerived.Pilot.@@N@@Code
set_option linter.unusedVariables false
set_option linter.unusedSimpArgs false
@@BLOCK:NumsL.lean.txt@@
namespace Jvm.Pilot.@@N@@
open Jvm Jvm.ClassFile Sem Op Lib Jvm.Free Jvm.Stand Jvm.LawKit Jvm.RoadKit Bundle Jvm.Pilot.@@N@@.Jvm.D
/-- two roads that come together: the rest is shown once, for every state and value with which they come -/
theorem own_join {p : Program} {l : Launch} {e : Env} {R : Room} {s : State} {m : MethodId} {args : Array Value} {below : List Frame} {meth : Method} {c : Code} {T : State} {locs : List Loc} {cells slots : Nat} {A : State} {P : State → Outcome → Prop}
    (X : Stand p l e R s m args below meth c T locs cells slots) {ι : Type} (Φ : ι → State → Prop) (B : ι → JFrame)
    (rest : ∀ i T', Stand p l e R s m args below meth c T' locs cells slots → Φ i T' → ∃ s₂ o, Steps p.tables e below (T'.setTop (B i)) s₂ ∧ P s₂ o)
    (come : (∀ i T', Stand p l e R s m args below meth c T' locs cells slots → Φ i T' → ∃ s₂ o, Steps p.tables e below (T'.setTop (B i)) s₂ ∧ P s₂ o) → ∃ s₂ o, Steps p.tables e below A s₂ ∧ P s₂ o) : ∃ s₂ o, Steps p.tables e below A s₂ ∧ P s₂ o := come rest
theorem own_joinH {p : Program} {l : Launch} {e : Env} {R : Room} {s : State} {m : MethodId} {args : Array Value} {below : List Frame} {meth : Method} {c : Code} {T : State} {locs : List Loc} {cells slots n0 : Nat} {A : State} {P : State → Outcome → Prop}
    (X : Stand p l e R s m args below meth c T locs cells slots) (N : Fr n0 locs) {ι : Type} (cells' slots' : Nat) (Φ : ι → Heap → Prop) (B : ι → JFrame)
    (rest : ∀ i T' locs', Stand p l e R s m args below meth c T' locs' cells' slots' → Fr n0 locs' → Φ i T'.heap → ∃ s₂ o, Steps p.tables e below (T'.setTop (B i)) s₂ ∧ P s₂ o)
    (come : (∀ i T' locs', Stand p l e R s m args below meth c T' locs' cells' slots' → Fr n0 locs' → Φ i T'.heap → ∃ s₂ o, Steps p.tables e below (T'.setTop (B i)) s₂ ∧ P s₂ o) → ∃ s₂ o, Steps p.tables e below A s₂ ∧ P s₂ o) : ∃ s₂ o, Steps p.tables e below A s₂ ∧ P s₂ o := come rest
theorem own_mono {p : Program} {l : Launch} {e : Env} {R : Room} {s : State} {m : MethodId} {args : Array Value} {below : List Frame} {meth : Method} {c : Code} {T : State} {locs : List Loc} {cells slots cells' slots' : Nat}
    (X : Stand p l e R s m args below meth c T locs cells slots) (h1 : cells ≤ cells') (h2 : slots ≤ slots') : Stand p l e R s m args below meth c T locs cells' slots' := { X with same := X.same.mono h1 h2 }
theorem own_sta_keep {Z : State} {h h' : Heap} {C n d : String} {v : Value} {ws : List Addr} (F : Sta Z h C n d v) (K : Keep h h' ws) (q : ∀ x ∈ ws, ∀ c : Cell, h[x]? = some c → c.vm.isStatics = false) : Sta Z h' C n d v := by
  obtain ⟨cf, i, k, f, st, cell, h1, h2, h3, h4, h5, h6, h7⟩ := F
  refine ⟨cf, i, k, f, st, cell, h1, h2, h3, h4, K.2.1 st cell h5 fun hm => ?_, h6, h7⟩
  rw [q st hm cell h5] at h6
  cases h6
theorem own_arr_keep {Z : State} {h h' : Heap} {a : Addr} {c : Cell} {ty : FieldType} {ws : List Addr} (F : Arr Z h a c ty) (K : Keep h h' ws) (q : a ∉ ws) : Arr Z h' a c ty := ⟨K.2.1 _ _ F.1 q, F.2⟩
theorem own_plain_E {Z : State} {h : Heap} {a : Addr} {C : String} (F : Exa Z h a C) : ∀ c : Cell, h[a]? = some c → c.vm.isStatics = false := by
  obtain ⟨cell, k, h1, h2, h3, h4, h5⟩ := F
  intro c hc
  cases h1.symm.trans hc
  exact h4
theorem own_plain_V {Z : State} {h : Heap} {a : Addr} {k : ClassId} {ty : FieldType} {n : Int32} {vs : List Value} {d : Value} (F : Arv Z h a k ty n vs d) : ∀ c : Cell, h[a]? = some c → c.vm.isStatics = false := by
  obtain ⟨cell, A, -⟩ := F
  intro c hc
  cases A.1.symm.trans hc
  exact A.plain
/-- a stretch of the road, then the rest -/
theorem own_go {tb : Tables} {e : Env} {below : List Frame} {A B : State} {P : State → Outcome → Prop} (h : ∀ t, Steps tb e below B t → Steps tb e below A t) (k : ∃ s₂ o, Steps tb e below B s₂ ∧ P s₂ o) : ∃ s₂ o, Steps tb e below A s₂ ∧ P s₂ o := by
  obtain ⟨s₂, o, h1, h2⟩ := k
  exact ⟨s₂, o, h s₂ h1, h2⟩
theorem own_eqI {args : Array Value} {first s : State} {o : Option Outcome} {idx : List Nat} {t : Term} {k : Int32} (h : (Jvm.Cond.eq t (.int k)).value args first o s idx = some true) : t.eval args first o idx s = some (.int k) := by
  simp only [Jvm.Cond.value, Term.eval] at h
  cases ht : t.eval args first o idx s with
  | none => simp [ht] at h
  | some x => cases x <;> simp [ht] at h ⊢; exact h
theorem own_eqJ {args : Array Value} {first s : State} {o : Option Outcome} {idx : List Nat} {t : Term} {k : Int64} (h : (Jvm.Cond.eq t (.long k)).value args first o s idx = some true) : t.eval args first o idx s = some (.long k) := by
  simp only [Jvm.Cond.value, Term.eval] at h
  cases ht : t.eval args first o idx s with
  | none => simp [ht] at h
  | some x => cases x <;> simp [ht] at h ⊢; exact h
theorem own_eqR {args : Array Value} {first s : State} {o : Option Outcome} {idx : List Nat} {t u : Term} {a : Addr} (h : (Jvm.Cond.eq t u).value args first o s idx = some true) (hu : u.eval args first o idx s = some (.ref a)) : t.eval args first o idx s = some (.ref a) := by
  simp only [Jvm.Cond.value] at h
  cases ht : t.eval args first o idx s with
  | none => simp [ht] at h
  | some x => cases x <;> simp [ht, hu] at h ⊢; exact h
def own_sh (l : Int64) : Int64 := ((l.toUInt64 >>> ((63 : Int32) &&& 0x3f).toInt64.toUInt64).toInt64)
theorem own_sh_eq (l : Int64) : own_sh l = if l < 0 then 1 else 0 := by
  have e : ((63 : Int32) &&& 0x3f).toInt64.toUInt64 = 63 := by decide
  show ((l.toUInt64 >>> ((63 : Int32) &&& 0x3f).toInt64.toUInt64).toInt64) = _
  rw [e, ← Int64.toInt_inj]
  have h1 : (l.toUInt64 >>> (63 : UInt64)).toNat = l.toUInt64.toNat / 2 ^ 63 := by
    rw [UInt64.toNat_shiftRight, Nat.shiftRight_eq_div_pow]; rfl
  have h2 : l.toUInt64.toNat < 2 ^ 64 := l.toUInt64.toNat_lt
  have h3 : l.toInt = if l.toUInt64.toNat < 2 ^ 63 then (l.toUInt64.toNat : Int) else (l.toUInt64.toNat : Int) - 2 ^ 64 := by
    show l.toBitVec.toInt = _
    rw [BitVec.toInt_eq_toNat_cond]
    show (if 2 * l.toBitVec.toNat < 2 ^ 64 then (l.toBitVec.toNat : Int) else (l.toBitVec.toNat : Int) - (2 ^ 64 : Nat)) = if l.toBitVec.toNat < 2 ^ 63 then (l.toBitVec.toNat : Int) else (l.toBitVec.toNat : Int) - 2 ^ 64
    split <;> split <;> omega
  have h4 : ((l.toUInt64 >>> (63 : UInt64)).toInt64).toInt = ((l.toUInt64 >>> (63 : UInt64)).toNat : Int) := by
    show (l.toUInt64 >>> (63 : UInt64)).toBitVec.toInt = _
    rw [BitVec.toInt_eq_toNat_cond]
    have : (l.toUInt64 >>> (63 : UInt64)).toBitVec.toNat = (l.toUInt64 >>> (63 : UInt64)).toNat := rfl
    rw [this, if_pos (by omega)]
  have h0 : (0 : Int64).toInt = 0 := rfl
  have h11 : (1 : Int64).toInt = 1 := rfl
  rw [h4, h1]
  by_cases c : l.toUInt64.toNat < 2 ^ 63
  · rw [if_pos c] at h3
    rw [if_neg (by rw [Int64.lt_iff_toInt_lt, h0]; omega), h0]; omega
  · rw [if_neg c] at h3
    rw [if_pos (by rw [Int64.lt_iff_toInt_lt, h0]; omega), h11]; omega
def own_cn (a d l : Int64) : Int64 := ((a &&& (-(own_sh l))) ||| (d &&& ((-(own_sh l)) ^^^ (-1 : Int64))))
theorem own_cn_eq (a d l : Int64) : own_cn a d l = if l < 0 then a else d := by
  show ((a &&& (-(own_sh l))) ||| (d &&& ((-(own_sh l)) ^^^ (-1 : Int64)))) = _
  rw [own_sh_eq]
  by_cases c : l < 0
  · rw [if_pos c, if_pos c]
    rw [← Int64.toBitVec_inj]
    have e1 : (-(1 : Int64)).toBitVec = BitVec.allOnes 64 := by decide
    have e2 : ((-(1 : Int64)) ^^^ (-1 : Int64)) = 0 := by decide
    rw [e2, Int64.toBitVec_or, Int64.toBitVec_and, Int64.toBitVec_and, e1, BitVec.and_allOnes]
    simp
  · rw [if_neg c, if_neg c]
    rw [← Int64.toBitVec_inj]
    have e1 : (-(0 : Int64)) = 0 := by decide
    have e2 : ((-(0 : Int64)) ^^^ (-1 : Int64)).toBitVec = BitVec.allOnes 64 := by decide
    rw [Int64.toBitVec_or, Int64.toBitVec_and, Int64.toBitVec_and, e2, e1, BitVec.and_allOnes]
    simp
theorem own_or0 (a b : Int64) : a ||| b = 0 ↔ a = 0 ∧ b = 0 := by
  simp only [← Int64.toBitVec_inj, Int64.toBitVec_or]
  exact BitVec.or_eq_zero_iff
theorem own_xor0 (a b : Int64) : a ^^^ b = 0 ↔ a = b := by
  simp only [← Int64.toBitVec_inj, Int64.toBitVec_xor]
  exact BitVec.xor_eq_zero_iff
theorem own_sh_int (l : Int64) : (own_sh l).toInt = if l.toInt < 0 then 1 else 0 := by
  rw [own_sh_eq]
  have h0 : (0 : Int64).toInt = 0 := rfl
  by_cases c : l < 0
  · rw [if_pos c, if_pos (by rw [Int64.lt_iff_toInt_lt] at c; exact c)]; rfl
  · rw [if_neg c, if_neg (by rw [Int64.lt_iff_toInt_lt] at c; exact c)]; rfl
theorem own_mask (l : Int64) : (l &&& (36028797018963967 : Int64)).toInt = l.toInt % 36028797018963968 := Jvm.Kit.i64_mask l 36028797018963967 (k := 55) (by decide) (by decide)
/-- one limb's borrow -/
theorem own_bor (n : Int) (h1 : -36028797018963968 ≤ n) (h2 : n < 36028797018963968) : n % 36028797018963968 = n + 36028797018963968 * (if n < 0 then 1 else 0) := by
  split <;> omega
def own_l0 (a0 : Int64) : Int64 := (a0 - (35747322042231467 : Int64))
def own_l1 (a0 a1 : Int64) : Int64 := ((a1 - (36025922209447795 : Int64)) - own_sh (own_l0 a0))
def own_l2 (a0 a1 a2 : Int64) : Int64 := ((a2 - (1084959616957103 : Int64)) - own_sh (own_l1 a0 a1))
def own_l3 (a0 a1 a2 a3 : Int64) : Int64 := ((a3 - (7925923977987733 : Int64)) - own_sh (own_l2 a0 a1 a2))
def own_l4 (a0 a1 a2 a3 a4 : Int64) : Int64 := ((a4 - (16551456537884751 : Int64)) - own_sh (own_l3 a0 a1 a2 a3))
def own_l5 (a0 a1 a2 a3 a4 a5 : Int64) : Int64 := ((a5 - (23443114579904617 : Int64)) - own_sh (own_l4 a0 a1 a2 a3 a4))
def own_l6 (a0 a1 a2 a3 a4 a5 a6 : Int64) : Int64 := ((a6 - (1829881462546425 : Int64)) - own_sh (own_l5 a0 a1 a2 a3 a4 a5))
def own_c0 (a0 a1 a2 a3 a4 a5 a6 : Int64) : Int64 := own_cn a0 (own_l0 a0 &&& (36028797018963967 : Int64)) (own_l6 a0 a1 a2 a3 a4 a5 a6)
def own_c1 (a0 a1 a2 a3 a4 a5 a6 : Int64) : Int64 := own_cn a1 (own_l1 a0 a1 &&& (36028797018963967 : Int64)) (own_l6 a0 a1 a2 a3 a4 a5 a6)
def own_c2 (a0 a1 a2 a3 a4 a5 a6 : Int64) : Int64 := own_cn a2 (own_l2 a0 a1 a2 &&& (36028797018963967 : Int64)) (own_l6 a0 a1 a2 a3 a4 a5 a6)
def own_c3 (a0 a1 a2 a3 a4 a5 a6 : Int64) : Int64 := own_cn a3 (own_l3 a0 a1 a2 a3 &&& (36028797018963967 : Int64)) (own_l6 a0 a1 a2 a3 a4 a5 a6)
def own_c4 (a0 a1 a2 a3 a4 a5 a6 : Int64) : Int64 := own_cn a4 (own_l4 a0 a1 a2 a3 a4 &&& (36028797018963967 : Int64)) (own_l6 a0 a1 a2 a3 a4 a5 a6)
def own_c5 (a0 a1 a2 a3 a4 a5 a6 : Int64) : Int64 := own_cn a5 (own_l5 a0 a1 a2 a3 a4 a5 &&& (36028797018963967 : Int64)) (own_l6 a0 a1 a2 a3 a4 a5 a6)
def own_c6 (a0 a1 a2 a3 a4 a5 a6 : Int64) : Int64 := own_cn a6 (own_l6 a0 a1 a2 a3 a4 a5 a6 &&& (36028797018963967 : Int64)) (own_l6 a0 a1 a2 a3 a4 a5 a6)
theorem own_l0_int {a0 : Int64} (h : 0 ≤ (a0).toInt ∧ (a0).toInt < 36028797018963968) : (own_l0 a0).toInt = a0.toInt - 35747322042231467 := by
  have hp : (35747322042231467 : Int64).toInt = 35747322042231467 := rfl
  show (a0 - (35747322042231467 : Int64)).toInt = _
  rw [Jvm.Kit.i64_sub (by rw [hp]; omega) (by rw [hp]; omega), hp]
theorem own_l1_int {a0 a1 : Int64} (h : 0 ≤ (a1).toInt ∧ (a1).toInt < 36028797018963968) : (own_l1 a0 a1).toInt = a1.toInt - 36025922209447795 - (if (own_l0 a0).toInt < 0 then 1 else 0) := by
  have hp : (36025922209447795 : Int64).toInt = 36025922209447795 := rfl
  have hs := own_sh_int (own_l0 a0)
  have hd : (a1 - (36025922209447795 : Int64)).toInt = a1.toInt - 36025922209447795 := by rw [Jvm.Kit.i64_sub (by rw [hp]; omega) (by rw [hp]; omega), hp]
  have hb : 0 ≤ (if (own_l0 a0).toInt < 0 then (1 : Int) else 0) ∧ (if (own_l0 a0).toInt < 0 then (1 : Int) else 0) ≤ 1 := by split <;> omega
  show ((a1 - (36025922209447795 : Int64)) - own_sh (own_l0 a0)).toInt = _
  rw [Jvm.Kit.i64_sub (by rw [hd, hs]; omega) (by rw [hd, hs]; omega), hd, hs]
theorem own_l2_int {a0 a1 a2 : Int64} (h : 0 ≤ (a2).toInt ∧ (a2).toInt < 36028797018963968) : (own_l2 a0 a1 a2).toInt = a2.toInt - 1084959616957103 - (if (own_l1 a0 a1).toInt < 0 then 1 else 0) := by
  have hp : (1084959616957103 : Int64).toInt = 1084959616957103 := rfl
  have hs := own_sh_int (own_l1 a0 a1)
  have hd : (a2 - (1084959616957103 : Int64)).toInt = a2.toInt - 1084959616957103 := by rw [Jvm.Kit.i64_sub (by rw [hp]; omega) (by rw [hp]; omega), hp]
  have hb : 0 ≤ (if (own_l1 a0 a1).toInt < 0 then (1 : Int) else 0) ∧ (if (own_l1 a0 a1).toInt < 0 then (1 : Int) else 0) ≤ 1 := by split <;> omega
  show ((a2 - (1084959616957103 : Int64)) - own_sh (own_l1 a0 a1)).toInt = _
  rw [Jvm.Kit.i64_sub (by rw [hd, hs]; omega) (by rw [hd, hs]; omega), hd, hs]
theorem own_l3_int {a0 a1 a2 a3 : Int64} (h : 0 ≤ (a3).toInt ∧ (a3).toInt < 36028797018963968) : (own_l3 a0 a1 a2 a3).toInt = a3.toInt - 7925923977987733 - (if (own_l2 a0 a1 a2).toInt < 0 then 1 else 0) := by
  have hp : (7925923977987733 : Int64).toInt = 7925923977987733 := rfl
  have hs := own_sh_int (own_l2 a0 a1 a2)
  have hd : (a3 - (7925923977987733 : Int64)).toInt = a3.toInt - 7925923977987733 := by rw [Jvm.Kit.i64_sub (by rw [hp]; omega) (by rw [hp]; omega), hp]
  have hb : 0 ≤ (if (own_l2 a0 a1 a2).toInt < 0 then (1 : Int) else 0) ∧ (if (own_l2 a0 a1 a2).toInt < 0 then (1 : Int) else 0) ≤ 1 := by split <;> omega
  show ((a3 - (7925923977987733 : Int64)) - own_sh (own_l2 a0 a1 a2)).toInt = _
  rw [Jvm.Kit.i64_sub (by rw [hd, hs]; omega) (by rw [hd, hs]; omega), hd, hs]
theorem own_l4_int {a0 a1 a2 a3 a4 : Int64} (h : 0 ≤ (a4).toInt ∧ (a4).toInt < 36028797018963968) : (own_l4 a0 a1 a2 a3 a4).toInt = a4.toInt - 16551456537884751 - (if (own_l3 a0 a1 a2 a3).toInt < 0 then 1 else 0) := by
  have hp : (16551456537884751 : Int64).toInt = 16551456537884751 := rfl
  have hs := own_sh_int (own_l3 a0 a1 a2 a3)
  have hd : (a4 - (16551456537884751 : Int64)).toInt = a4.toInt - 16551456537884751 := by rw [Jvm.Kit.i64_sub (by rw [hp]; omega) (by rw [hp]; omega), hp]
  have hb : 0 ≤ (if (own_l3 a0 a1 a2 a3).toInt < 0 then (1 : Int) else 0) ∧ (if (own_l3 a0 a1 a2 a3).toInt < 0 then (1 : Int) else 0) ≤ 1 := by split <;> omega
  show ((a4 - (16551456537884751 : Int64)) - own_sh (own_l3 a0 a1 a2 a3)).toInt = _
  rw [Jvm.Kit.i64_sub (by rw [hd, hs]; omega) (by rw [hd, hs]; omega), hd, hs]
theorem own_l5_int {a0 a1 a2 a3 a4 a5 : Int64} (h : 0 ≤ (a5).toInt ∧ (a5).toInt < 36028797018963968) : (own_l5 a0 a1 a2 a3 a4 a5).toInt = a5.toInt - 23443114579904617 - (if (own_l4 a0 a1 a2 a3 a4).toInt < 0 then 1 else 0) := by
  have hp : (23443114579904617 : Int64).toInt = 23443114579904617 := rfl
  have hs := own_sh_int (own_l4 a0 a1 a2 a3 a4)
  have hd : (a5 - (23443114579904617 : Int64)).toInt = a5.toInt - 23443114579904617 := by rw [Jvm.Kit.i64_sub (by rw [hp]; omega) (by rw [hp]; omega), hp]
  have hb : 0 ≤ (if (own_l4 a0 a1 a2 a3 a4).toInt < 0 then (1 : Int) else 0) ∧ (if (own_l4 a0 a1 a2 a3 a4).toInt < 0 then (1 : Int) else 0) ≤ 1 := by split <;> omega
  show ((a5 - (23443114579904617 : Int64)) - own_sh (own_l4 a0 a1 a2 a3 a4)).toInt = _
  rw [Jvm.Kit.i64_sub (by rw [hd, hs]; omega) (by rw [hd, hs]; omega), hd, hs]
theorem own_l6_int {a0 a1 a2 a3 a4 a5 a6 : Int64} (h : 0 ≤ (a6).toInt ∧ (a6).toInt < 36028797018963968) : (own_l6 a0 a1 a2 a3 a4 a5 a6).toInt = a6.toInt - 1829881462546425 - (if (own_l5 a0 a1 a2 a3 a4 a5).toInt < 0 then 1 else 0) := by
  have hp : (1829881462546425 : Int64).toInt = 1829881462546425 := rfl
  have hs := own_sh_int (own_l5 a0 a1 a2 a3 a4 a5)
  have hd : (a6 - (1829881462546425 : Int64)).toInt = a6.toInt - 1829881462546425 := by rw [Jvm.Kit.i64_sub (by rw [hp]; omega) (by rw [hp]; omega), hp]
  have hb : 0 ≤ (if (own_l5 a0 a1 a2 a3 a4 a5).toInt < 0 then (1 : Int) else 0) ∧ (if (own_l5 a0 a1 a2 a3 a4 a5).toInt < 0 then (1 : Int) else 0) ≤ 1 := by split <;> omega
  show ((a6 - (1829881462546425 : Int64)) - own_sh (own_l5 a0 a1 a2 a3 a4 a5)).toInt = _
  rw [Jvm.Kit.i64_sub (by rw [hd, hs]; omega) (by rw [hd, hs]; omega), hd, hs]
theorem own_chain (a0 b0 d0 a1 b1 d1 a2 b2 d2 a3 b3 d3 a4 b4 d4 a5 b5 d5 a6 b6 d6 : Int)
    (hd0 : d0 = a0 - 35747322042231467 + 36028797018963968 * b0) (hr0 : 0 ≤ d0 ∧ d0 < 36028797018963968) (hd1 : d1 = a1 - 36025922209447795 - b0 + 36028797018963968 * b1) (hr1 : 0 ≤ d1 ∧ d1 < 36028797018963968) (hd2 : d2 = a2 - 1084959616957103 - b1 + 36028797018963968 * b2) (hr2 : 0 ≤ d2 ∧ d2 < 36028797018963968) (hd3 : d3 = a3 - 7925923977987733 - b2 + 36028797018963968 * b3) (hr3 : 0 ≤ d3 ∧ d3 < 36028797018963968) (hd4 : d4 = a4 - 16551456537884751 - b3 + 36028797018963968 * b4) (hr4 : 0 ≤ d4 ∧ d4 < 36028797018963968) (hd5 : d5 = a5 - 23443114579904617 - b4 + 36028797018963968 * b5) (hr5 : 0 ≤ d5 ∧ d5 < 36028797018963968) (hd6 : d6 = a6 - 1829881462546425 - b5 + 36028797018963968 * b6) (hr6 : 0 ≤ d6 ∧ d6 < 36028797018963968) :
    (b6 = 1 → a0 + a1 * 36028797018963968 + a2 * 1298074214633706907132624082305024 + a3 * 46768052394588893382517914646921056628989841375232 + a4 * 1684996666696914987166688442938726917102321526408785780068975640576 + a5 * 60708402882054033466233184588234965832575213720379360039119137804340758912662765568 + a6 * 2187250724783011924372502227117621365353169430893212436425770606409952999199375923223513177023053824 < 4002409555221667393417789825735904156556882819939007885332058136124031650490837864442687629129015664037894272559787) ∧ (b6 = 0 → (d0 + d1 * 36028797018963968 + d2 * 1298074214633706907132624082305024 + d3 * 46768052394588893382517914646921056628989841375232 + d4 * 1684996666696914987166688442938726917102321526408785780068975640576 + d5 * 60708402882054033466233184588234965832575213720379360039119137804340758912662765568 + d6 * 2187250724783011924372502227117621365353169430893212436425770606409952999199375923223513177023053824 = a0 + a1 * 36028797018963968 + a2 * 1298074214633706907132624082305024 + a3 * 46768052394588893382517914646921056628989841375232 + a4 * 1684996666696914987166688442938726917102321526408785780068975640576 + a5 * 60708402882054033466233184588234965832575213720379360039119137804340758912662765568 + a6 * 2187250724783011924372502227117621365353169430893212436425770606409952999199375923223513177023053824 - 4002409555221667393417789825735904156556882819939007885332058136124031650490837864442687629129015664037894272559787) ∧ ¬ (a0 + a1 * 36028797018963968 + a2 * 1298074214633706907132624082305024 + a3 * 46768052394588893382517914646921056628989841375232 + a4 * 1684996666696914987166688442938726917102321526408785780068975640576 + a5 * 60708402882054033466233184588234965832575213720379360039119137804340758912662765568 + a6 * 2187250724783011924372502227117621365353169430893212436425770606409952999199375923223513177023053824 < 4002409555221667393417789825735904156556882819939007885332058136124031650490837864442687629129015664037894272559787)) := by
  have key : d0 + d1 * 36028797018963968 + d2 * 1298074214633706907132624082305024 + d3 * 46768052394588893382517914646921056628989841375232 + d4 * 1684996666696914987166688442938726917102321526408785780068975640576 + d5 * 60708402882054033466233184588234965832575213720379360039119137804340758912662765568 + d6 * 2187250724783011924372502227117621365353169430893212436425770606409952999199375923223513177023053824 = a0 + a1 * 36028797018963968 + a2 * 1298074214633706907132624082305024 + a3 * 46768052394588893382517914646921056628989841375232 + a4 * 1684996666696914987166688442938726917102321526408785780068975640576 + a5 * 60708402882054033466233184588234965832575213720379360039119137804340758912662765568 + a6 * 2187250724783011924372502227117621365353169430893212436425770606409952999199375923223513177023053824 - 4002409555221667393417789825735904156556882819939007885332058136124031650490837864442687629129015664037894272559787 + 78804012392788958424558080200287227610159478540930893335896586808491443542994421222828532509769831281613255980613632 * b6 := by omega
  have lo : 0 ≤ d0 + d1 * 36028797018963968 + d2 * 1298074214633706907132624082305024 + d3 * 46768052394588893382517914646921056628989841375232 + d4 * 1684996666696914987166688442938726917102321526408785780068975640576 + d5 * 60708402882054033466233184588234965832575213720379360039119137804340758912662765568 + d6 * 2187250724783011924372502227117621365353169430893212436425770606409952999199375923223513177023053824 := by omega
  have hi : d0 + d1 * 36028797018963968 + d2 * 1298074214633706907132624082305024 + d3 * 46768052394588893382517914646921056628989841375232 + d4 * 1684996666696914987166688442938726917102321526408785780068975640576 + d5 * 60708402882054033466233184588234965832575213720379360039119137804340758912662765568 + d6 * 2187250724783011924372502227117621365353169430893212436425770606409952999199375923223513177023053824 < 78804012392788958424558080200287227610159478540930893335896586808491443542994421222828532509769831281613255980613632 := by omega
  constructor <;> intro h <;> omega
/-- below p the limbs are kept; else p is taken off -/
theorem own_canon {a0 a1 a2 a3 a4 a5 a6 : Int64} (h0 : 0 ≤ (a0).toInt ∧ (a0).toInt < 36028797018963968) (h1 : 0 ≤ (a1).toInt ∧ (a1).toInt < 36028797018963968) (h2 : 0 ≤ (a2).toInt ∧ (a2).toInt < 36028797018963968) (h3 : 0 ≤ (a3).toInt ∧ (a3).toInt < 36028797018963968) (h4 : 0 ≤ (a4).toInt ∧ (a4).toInt < 36028797018963968) (h5 : 0 ≤ (a5).toInt ∧ (a5).toInt < 36028797018963968) (h6 : 0 ≤ (a6).toInt ∧ (a6).toInt < 36028797018963968) : ((a0).toInt + (a1).toInt * 36028797018963968 + (a2).toInt * 1298074214633706907132624082305024 + (a3).toInt * 46768052394588893382517914646921056628989841375232 + (a4).toInt * 1684996666696914987166688442938726917102321526408785780068975640576 + (a5).toInt * 60708402882054033466233184588234965832575213720379360039119137804340758912662765568 + (a6).toInt * 2187250724783011924372502227117621365353169430893212436425770606409952999199375923223513177023053824 < 4002409555221667393417789825735904156556882819939007885332058136124031650490837864442687629129015664037894272559787 ∧ (own_c0 a0 a1 a2 a3 a4 a5 a6) = a0 ∧ (own_c1 a0 a1 a2 a3 a4 a5 a6) = a1 ∧ (own_c2 a0 a1 a2 a3 a4 a5 a6) = a2 ∧ (own_c3 a0 a1 a2 a3 a4 a5 a6) = a3 ∧ (own_c4 a0 a1 a2 a3 a4 a5 a6) = a4 ∧ (own_c5 a0 a1 a2 a3 a4 a5 a6) = a5 ∧ (own_c6 a0 a1 a2 a3 a4 a5 a6) = a6) ∨ (¬ ((a0).toInt + (a1).toInt * 36028797018963968 + (a2).toInt * 1298074214633706907132624082305024 + (a3).toInt * 46768052394588893382517914646921056628989841375232 + (a4).toInt * 1684996666696914987166688442938726917102321526408785780068975640576 + (a5).toInt * 60708402882054033466233184588234965832575213720379360039119137804340758912662765568 + (a6).toInt * 2187250724783011924372502227117621365353169430893212436425770606409952999199375923223513177023053824 < 4002409555221667393417789825735904156556882819939007885332058136124031650490837864442687629129015664037894272559787) ∧ (own_c0 a0 a1 a2 a3 a4 a5 a6).toInt + (own_c1 a0 a1 a2 a3 a4 a5 a6).toInt * 36028797018963968 + (own_c2 a0 a1 a2 a3 a4 a5 a6).toInt * 1298074214633706907132624082305024 + (own_c3 a0 a1 a2 a3 a4 a5 a6).toInt * 46768052394588893382517914646921056628989841375232 + (own_c4 a0 a1 a2 a3 a4 a5 a6).toInt * 1684996666696914987166688442938726917102321526408785780068975640576 + (own_c5 a0 a1 a2 a3 a4 a5 a6).toInt * 60708402882054033466233184588234965832575213720379360039119137804340758912662765568 + (own_c6 a0 a1 a2 a3 a4 a5 a6).toInt * 2187250724783011924372502227117621365353169430893212436425770606409952999199375923223513177023053824 = (a0).toInt + (a1).toInt * 36028797018963968 + (a2).toInt * 1298074214633706907132624082305024 + (a3).toInt * 46768052394588893382517914646921056628989841375232 + (a4).toInt * 1684996666696914987166688442938726917102321526408785780068975640576 + (a5).toInt * 60708402882054033466233184588234965832575213720379360039119137804340758912662765568 + (a6).toInt * 2187250724783011924372502227117621365353169430893212436425770606409952999199375923223513177023053824 - 4002409555221667393417789825735904156556882819939007885332058136124031650490837864442687629129015664037894272559787 ∧ 0 ≤ (own_c0 a0 a1 a2 a3 a4 a5 a6).toInt ∧ 0 ≤ (own_c1 a0 a1 a2 a3 a4 a5 a6).toInt ∧ 0 ≤ (own_c2 a0 a1 a2 a3 a4 a5 a6).toInt ∧ 0 ≤ (own_c3 a0 a1 a2 a3 a4 a5 a6).toInt ∧ 0 ≤ (own_c4 a0 a1 a2 a3 a4 a5 a6).toInt ∧ 0 ≤ (own_c5 a0 a1 a2 a3 a4 a5 a6).toInt ∧ 0 ≤ (own_c6 a0 a1 a2 a3 a4 a5 a6).toInt) := by
  have e0 := own_l0_int h0
  have e1 := own_l1_int (a0 := a0) h1
  have e2 := own_l2_int (a0 := a0) (a1 := a1) h2
  have e3 := own_l3_int (a0 := a0) (a1 := a1) (a2 := a2) h3
  have e4 := own_l4_int (a0 := a0) (a1 := a1) (a2 := a2) (a3 := a3) h4
  have e5 := own_l5_int (a0 := a0) (a1 := a1) (a2 := a2) (a3 := a3) (a4 := a4) h5
  have e6 := own_l6_int (a0 := a0) (a1 := a1) (a2 := a2) (a3 := a3) (a4 := a4) (a5 := a5) h6
  have m0 := own_mask (own_l0 a0)
  have m1 := own_mask (own_l1 a0 a1)
  have m2 := own_mask (own_l2 a0 a1 a2)
  have m3 := own_mask (own_l3 a0 a1 a2 a3)
  have m4 := own_mask (own_l4 a0 a1 a2 a3 a4)
  have m5 := own_mask (own_l5 a0 a1 a2 a3 a4 a5)
  have m6 := own_mask (own_l6 a0 a1 a2 a3 a4 a5 a6)
  have c0 : (own_c0 a0 a1 a2 a3 a4 a5 a6) = if own_l6 a0 a1 a2 a3 a4 a5 a6 < 0 then a0 else (own_l0 a0 &&& (36028797018963967 : Int64)) := own_cn_eq _ _ _
  have c1 : (own_c1 a0 a1 a2 a3 a4 a5 a6) = if own_l6 a0 a1 a2 a3 a4 a5 a6 < 0 then a1 else (own_l1 a0 a1 &&& (36028797018963967 : Int64)) := own_cn_eq _ _ _
  have c2 : (own_c2 a0 a1 a2 a3 a4 a5 a6) = if own_l6 a0 a1 a2 a3 a4 a5 a6 < 0 then a2 else (own_l2 a0 a1 a2 &&& (36028797018963967 : Int64)) := own_cn_eq _ _ _
  have c3 : (own_c3 a0 a1 a2 a3 a4 a5 a6) = if own_l6 a0 a1 a2 a3 a4 a5 a6 < 0 then a3 else (own_l3 a0 a1 a2 a3 &&& (36028797018963967 : Int64)) := own_cn_eq _ _ _
  have c4 : (own_c4 a0 a1 a2 a3 a4 a5 a6) = if own_l6 a0 a1 a2 a3 a4 a5 a6 < 0 then a4 else (own_l4 a0 a1 a2 a3 a4 &&& (36028797018963967 : Int64)) := own_cn_eq _ _ _
  have c5 : (own_c5 a0 a1 a2 a3 a4 a5 a6) = if own_l6 a0 a1 a2 a3 a4 a5 a6 < 0 then a5 else (own_l5 a0 a1 a2 a3 a4 a5 &&& (36028797018963967 : Int64)) := own_cn_eq _ _ _
  have c6 : (own_c6 a0 a1 a2 a3 a4 a5 a6) = if own_l6 a0 a1 a2 a3 a4 a5 a6 < 0 then a6 else (own_l6 a0 a1 a2 a3 a4 a5 a6 &&& (36028797018963967 : Int64)) := own_cn_eq _ _ _
  have hz : (own_l6 a0 a1 a2 a3 a4 a5 a6 < 0) ↔ (own_l6 a0 a1 a2 a3 a4 a5 a6).toInt < 0 := Int64.lt_iff_toInt_lt
  obtain ⟨b0, hb0⟩ : ∃ b : Int, b = (if (own_l0 a0).toInt < 0 then 1 else 0) := ⟨_, rfl⟩
  have r0 : 0 ≤ b0 ∧ b0 ≤ 1 := by rw [hb0]; split <;> omega
  rw [own_bor _ (by omega) (by omega), ← hb0] at m0
  obtain ⟨b1, hb1⟩ : ∃ b : Int, b = (if (own_l1 a0 a1).toInt < 0 then 1 else 0) := ⟨_, rfl⟩
  have r1 : 0 ≤ b1 ∧ b1 ≤ 1 := by rw [hb1]; split <;> omega
  rw [← hb0] at e1
  rw [own_bor _ (by omega) (by omega), ← hb1] at m1
  obtain ⟨b2, hb2⟩ : ∃ b : Int, b = (if (own_l2 a0 a1 a2).toInt < 0 then 1 else 0) := ⟨_, rfl⟩
  have r2 : 0 ≤ b2 ∧ b2 ≤ 1 := by rw [hb2]; split <;> omega
  rw [← hb1] at e2
  rw [own_bor _ (by omega) (by omega), ← hb2] at m2
  obtain ⟨b3, hb3⟩ : ∃ b : Int, b = (if (own_l3 a0 a1 a2 a3).toInt < 0 then 1 else 0) := ⟨_, rfl⟩
  have r3 : 0 ≤ b3 ∧ b3 ≤ 1 := by rw [hb3]; split <;> omega
  rw [← hb2] at e3
  rw [own_bor _ (by omega) (by omega), ← hb3] at m3
  obtain ⟨b4, hb4⟩ : ∃ b : Int, b = (if (own_l4 a0 a1 a2 a3 a4).toInt < 0 then 1 else 0) := ⟨_, rfl⟩
  have r4 : 0 ≤ b4 ∧ b4 ≤ 1 := by rw [hb4]; split <;> omega
  rw [← hb3] at e4
  rw [own_bor _ (by omega) (by omega), ← hb4] at m4
  obtain ⟨b5, hb5⟩ : ∃ b : Int, b = (if (own_l5 a0 a1 a2 a3 a4 a5).toInt < 0 then 1 else 0) := ⟨_, rfl⟩
  have r5 : 0 ≤ b5 ∧ b5 ≤ 1 := by rw [hb5]; split <;> omega
  rw [← hb4] at e5
  rw [own_bor _ (by omega) (by omega), ← hb5] at m5
  obtain ⟨b6, hb6⟩ : ∃ b : Int, b = (if (own_l6 a0 a1 a2 a3 a4 a5 a6).toInt < 0 then 1 else 0) := ⟨_, rfl⟩
  have r6 : 0 ≤ b6 ∧ b6 ≤ 1 := by rw [hb6]; split <;> omega
  rw [← hb5] at e6
  rw [own_bor _ (by omega) (by omega), ← hb6] at m6
  have ch := own_chain a0.toInt b0 (own_l0 a0 &&& (36028797018963967 : Int64)).toInt a1.toInt b1 (own_l1 a0 a1 &&& (36028797018963967 : Int64)).toInt a2.toInt b2 (own_l2 a0 a1 a2 &&& (36028797018963967 : Int64)).toInt a3.toInt b3 (own_l3 a0 a1 a2 a3 &&& (36028797018963967 : Int64)).toInt a4.toInt b4 (own_l4 a0 a1 a2 a3 a4 &&& (36028797018963967 : Int64)).toInt a5.toInt b5 (own_l5 a0 a1 a2 a3 a4 a5 &&& (36028797018963967 : Int64)).toInt a6.toInt b6 (own_l6 a0 a1 a2 a3 a4 a5 a6 &&& (36028797018963967 : Int64)).toInt (by rw [m0, e0]) (by have := own_mask (own_l0 a0); omega) (by rw [m1, e1]) (by have := own_mask (own_l1 a0 a1); omega) (by rw [m2, e2]) (by have := own_mask (own_l2 a0 a1 a2); omega) (by rw [m3, e3]) (by have := own_mask (own_l3 a0 a1 a2 a3); omega) (by rw [m4, e4]) (by have := own_mask (own_l4 a0 a1 a2 a3 a4); omega) (by rw [m5, e5]) (by have := own_mask (own_l5 a0 a1 a2 a3 a4 a5); omega) (by rw [m6, e6]) (by have := own_mask (own_l6 a0 a1 a2 a3 a4 a5 a6); omega)
  by_cases c : own_l6 a0 a1 a2 a3 a4 a5 a6 < 0
  · refine Or.inl ⟨ch.1 (by rw [hb6, if_pos (hz.mp c)]), by rw [c0, if_pos c], by rw [c1, if_pos c], by rw [c2, if_pos c], by rw [c3, if_pos c], by rw [c4, if_pos c], by rw [c5, if_pos c], by rw [c6, if_pos c]⟩
  · refine Or.inr ?_
    rw [c0, if_neg c, c1, if_neg c, c2, if_neg c, c3, if_neg c, c4, if_neg c, c5, if_neg c, c6, if_neg c]
    obtain ⟨q1, q2⟩ := ch.2 (by rw [hb6, if_neg fun q => c (hz.mpr q)])
    exact ⟨q2, q1, (by have := own_mask (own_l0 a0); omega), (by have := own_mask (own_l1 a0 a1); omega), (by have := own_mask (own_l2 a0 a1 a2); omega), (by have := own_mask (own_l3 a0 a1 a2 a3); omega), (by have := own_mask (own_l4 a0 a1 a2 a3 a4); omega), (by have := own_mask (own_l5 a0 a1 a2 a3 a4 a5); omega), (by have := own_mask (own_l6 a0 a1 a2 a3 a4 a5 a6); omega)⟩
theorem own_zero {a0 a1 a2 a3 a4 a5 a6 : Int64} (h0 : 0 ≤ (a0).toInt ∧ (a0).toInt < 36028797018963968) (h1 : 0 ≤ (a1).toInt ∧ (a1).toInt < 36028797018963968) (h2 : 0 ≤ (a2).toInt ∧ (a2).toInt < 36028797018963968) (h3 : 0 ≤ (a3).toInt ∧ (a3).toInt < 36028797018963968) (h4 : 0 ≤ (a4).toInt ∧ (a4).toInt < 36028797018963968) (h5 : 0 ≤ (a5).toInt ∧ (a5).toInt < 36028797018963968) (h6 : 0 ≤ (a6).toInt ∧ (a6).toInt < 36028797018963968) : (((((((own_c0 a0 a1 a2 a3 a4 a5 a6) ||| (own_c1 a0 a1 a2 a3 a4 a5 a6)) ||| (own_c2 a0 a1 a2 a3 a4 a5 a6)) ||| (own_c3 a0 a1 a2 a3 a4 a5 a6)) ||| (own_c4 a0 a1 a2 a3 a4 a5 a6)) ||| (own_c5 a0 a1 a2 a3 a4 a5 a6)) ||| (own_c6 a0 a1 a2 a3 a4 a5 a6)) = (0 : Int64) ↔ (((((((a0 ||| a1) ||| a2) ||| a3) ||| a4) ||| a5) ||| a6) = (0 : Int64) ∨ (((((((a0 ^^^ (35747322042231467 : Int64)) ||| (a1 ^^^ (36025922209447795 : Int64))) ||| (a2 ^^^ (1084959616957103 : Int64))) ||| (a3 ^^^ (7925923977987733 : Int64))) ||| (a4 ^^^ (16551456537884751 : Int64))) ||| (a5 ^^^ (23443114579904617 : Int64))) ||| (a6 ^^^ (1829881462546425 : Int64))) = (0 : Int64)) := by
  have hc := own_canon h0 h1 h2 h3 h4 h5 h6
  simp only [own_or0, own_xor0]
  have z0 : (0 : Int64).toInt = 0 := rfl
  have p0 : (35747322042231467 : Int64).toInt = 35747322042231467 := rfl
  have p1 : (36025922209447795 : Int64).toInt = 36025922209447795 := rfl
  have p2 : (1084959616957103 : Int64).toInt = 1084959616957103 := rfl
  have p3 : (7925923977987733 : Int64).toInt = 7925923977987733 := rfl
  have p4 : (16551456537884751 : Int64).toInt = 16551456537884751 := rfl
  have p5 : (23443114579904617 : Int64).toInt = 23443114579904617 := rfl
  have p6 : (1829881462546425 : Int64).toInt = 1829881462546425 := rfl
  rcases hc with ⟨q, k0, k1, k2, k3, k4, k5, k6⟩ | ⟨q, qv, k0, k1, k2, k3, k4, k5, k6⟩
  · rw [k0, k1, k2, k3, k4, k5, k6]
    constructor
    · intro h; exact Or.inl h
    · intro h
      rcases h with h | h
      · exact h
      · exfalso
        obtain ⟨⟨⟨⟨⟨⟨j0, j1⟩, j2⟩, j3⟩, j4⟩, j5⟩, j6⟩ := h
        rw [j0, j1, j2, j3, j4, j5, j6, p0, p1, p2, p3, p4, p5, p6] at q
        exact absurd q (by decide)
  · constructor
    · intro h
      obtain ⟨⟨⟨⟨⟨⟨j0, j1⟩, j2⟩, j3⟩, j4⟩, j5⟩, j6⟩ := h
      rw [j0, j1, j2, j3, j4, j5, j6, z0] at qv
      refine Or.inr ⟨⟨⟨⟨⟨⟨?_, ?_⟩, ?_⟩, ?_⟩, ?_⟩, ?_⟩, ?_⟩
      · rw [← Int64.toInt_inj, p0]; omega
      · rw [← Int64.toInt_inj, p1]; omega
      · rw [← Int64.toInt_inj, p2]; omega
      · rw [← Int64.toInt_inj, p3]; omega
      · rw [← Int64.toInt_inj, p4]; omega
      · rw [← Int64.toInt_inj, p5]; omega
      · rw [← Int64.toInt_inj, p6]; omega
    · intro h
      rcases h with h | h
      · exfalso
        obtain ⟨⟨⟨⟨⟨⟨j0, j1⟩, j2⟩, j3⟩, j4⟩, j5⟩, j6⟩ := h
        rw [j0, j1, j2, j3, j4, j5, j6, z0] at q
        exact q (by decide)
      · obtain ⟨⟨⟨⟨⟨⟨j0, j1⟩, j2⟩, j3⟩, j4⟩, j5⟩, j6⟩ := h
        have v0 : a0.toInt = 35747322042231467 := by rw [j0]; exact p0
        have v1 : a1.toInt = 36025922209447795 := by rw [j1]; exact p1
        have v2 : a2.toInt = 1084959616957103 := by rw [j2]; exact p2
        have v3 : a3.toInt = 7925923977987733 := by rw [j3]; exact p3
        have v4 : a4.toInt = 16551456537884751 := by rw [j4]; exact p4
        have v5 : a5.toInt = 23443114579904617 := by rw [j5]; exact p5
        have v6 : a6.toInt = 1829881462546425 := by rw [j6]; exact p6
        refine ⟨⟨⟨⟨⟨⟨?_, ?_⟩, ?_⟩, ?_⟩, ?_⟩, ?_⟩, ?_⟩
        · rw [← Int64.toInt_inj, z0]; omega
        · rw [← Int64.toInt_inj, z0]; omega
        · rw [← Int64.toInt_inj, z0]; omega
        · rw [← Int64.toInt_inj, z0]; omega
        · rw [← Int64.toInt_inj, z0]; omega
        · rw [← Int64.toInt_inj, z0]; omega
        · rw [← Int64.toInt_inj, z0]; omega
theorem ef_1 (m : MethodId)  : entryFrame m #[] 15 = mkF m 0 #[.unset, .unset, .unset, .unset, .unset, .unset, .unset, .unset, .unset, .unset, .unset, .unset, .unset, .unset, .unset] [] := by first | (simp [entryFrame, mkF, argsToLocals, Value.category]; done) | rfl
theorem pn_1 : plainName "com/example/barred_rows/barredrows/crypto/FpIsZeroPinLaw" = true := by first | (simp [plainName, overriddenIn]; done) | decide +kernel
abbrev LS_uuuuuuuuuuuuuuu  : Array Slot := #[.unset, .unset, .unset, .unset, .unset, .unset, .unset, .unset, .unset, .unset, .unset, .unset, .unset, .unset, .unset]
theorem d1_0 : decode method_2_code 0 = .ok (.ldc2_w 7, 3) := by decide +kernel
theorem d1_3 : decode method_2_code 3 = .ok (.lstore_n 0, 1) := by decide +kernel
abbrev LS_Jsuuuuuuuuuuuuu (a0 : Int64) : Array Slot := #[.val (.long a0), .second, .unset, .unset, .unset, .unset, .unset, .unset, .unset, .unset, .unset, .unset, .unset, .unset, .unset]
theorem d1_4 : decode method_2_code 4 = .ok (.ldc2_w 9, 3) := by decide +kernel
theorem d1_7 : decode method_2_code 7 = .ok (.lstore_n 2, 1) := by decide +kernel
abbrev LS_JsJsuuuuuuuuuuu (a0 : Int64) (a1 : Int64) : Array Slot := #[.val (.long a0), .second, .val (.long a1), .second, .unset, .unset, .unset, .unset, .unset, .unset, .unset, .unset, .unset, .unset, .unset]
theorem d1_8 : decode method_2_code 8 = .ok (.ldc2_w 11, 3) := by decide +kernel
theorem d1_11 : decode method_2_code 11 = .ok (.lstore 4, 2) := by decide +kernel
abbrev LS_JsJsJsuuuuuuuuu (a0 : Int64) (a1 : Int64) (a2 : Int64) : Array Slot := #[.val (.long a0), .second, .val (.long a1), .second, .val (.long a2), .second, .unset, .unset, .unset, .unset, .unset, .unset, .unset, .unset, .unset]
theorem d1_13 : decode method_2_code 13 = .ok (.ldc2_w 13, 3) := by decide +kernel
theorem d1_16 : decode method_2_code 16 = .ok (.lstore 6, 2) := by decide +kernel
abbrev LS_JsJsJsJsuuuuuuu (a0 : Int64) (a1 : Int64) (a2 : Int64) (a3 : Int64) : Array Slot := #[.val (.long a0), .second, .val (.long a1), .second, .val (.long a2), .second, .val (.long a3), .second, .unset, .unset, .unset, .unset, .unset, .unset, .unset]
theorem d1_18 : decode method_2_code 18 = .ok (.ldc2_w 15, 3) := by decide +kernel
theorem d1_21 : decode method_2_code 21 = .ok (.lstore 8, 2) := by decide +kernel
abbrev LS_JsJsJsJsJsuuuuu (a0 : Int64) (a1 : Int64) (a2 : Int64) (a3 : Int64) (a4 : Int64) : Array Slot := #[.val (.long a0), .second, .val (.long a1), .second, .val (.long a2), .second, .val (.long a3), .second, .val (.long a4), .second, .unset, .unset, .unset, .unset, .unset]
theorem d1_23 : decode method_2_code 23 = .ok (.ldc2_w 17, 3) := by decide +kernel
theorem d1_26 : decode method_2_code 26 = .ok (.lstore 10, 2) := by decide +kernel
abbrev LS_JsJsJsJsJsJsuuu (a0 : Int64) (a1 : Int64) (a2 : Int64) (a3 : Int64) (a4 : Int64) (a5 : Int64) : Array Slot := #[.val (.long a0), .second, .val (.long a1), .second, .val (.long a2), .second, .val (.long a3), .second, .val (.long a4), .second, .val (.long a5), .second, .unset, .unset, .unset]
theorem d1_28 : decode method_2_code 28 = .ok (.ldc2_w 19, 3) := by decide +kernel
theorem d1_31 : decode method_2_code 31 = .ok (.lstore 12, 2) := by decide +kernel
abbrev LS_JsJsJsJsJsJsJsu (a0 : Int64) (a1 : Int64) (a2 : Int64) (a3 : Int64) (a4 : Int64) (a5 : Int64) (a6 : Int64) : Array Slot := #[.val (.long a0), .second, .val (.long a1), .second, .val (.long a2), .second, .val (.long a3), .second, .val (.long a4), .second, .val (.long a5), .second, .val (.long a6), .second, .unset]
theorem d1_33 : decode method_2_code 33 = .ok (.bipush 7, 2) := by decide +kernel
theorem d1_35 : decode method_2_code 35 = .ok (.newarray .long, 2) := by decide +kernel
theorem d1_37 : decode method_2_code 37 = .ok (.astore 14, 2) := by decide +kernel
abbrev LS_JsJsJsJsJsJsJsR (a0 : Int64) (a1 : Int64) (a2 : Int64) (a3 : Int64) (a4 : Int64) (a5 : Int64) (a6 : Int64) (a7 : Addr) : Array Slot := #[.val (.long a0), .second, .val (.long a1), .second, .val (.long a2), .second, .val (.long a3), .second, .val (.long a4), .second, .val (.long a5), .second, .val (.long a6), .second, .val (.ref a7)]
theorem d1_39 : decode method_2_code 39 = .ok (.aload 14, 2) := by decide +kernel
theorem d1_41 : decode method_2_code 41 = .ok (.iconst 0, 1) := by decide +kernel
theorem d1_42 : decode method_2_code 42 = .ok (.lload_n 2, 1) := by decide +kernel
theorem d1_43 : decode method_2_code 43 = .ok (.lload_n 0, 1) := by decide +kernel
theorem d1_44 : decode method_2_code 44 = .ok (.land, 1) := by decide +kernel
theorem d1_45 : decode method_2_code 45 = .ok (.lastore, 1) := by decide +kernel
theorem d1_46 : decode method_2_code 46 = .ok (.aload 14, 2) := by decide +kernel
theorem d1_48 : decode method_2_code 48 = .ok (.iconst 1, 1) := by decide +kernel
theorem d1_49 : decode method_2_code 49 = .ok (.lload_n 2, 1) := by decide +kernel
theorem d1_50 : decode method_2_code 50 = .ok (.bipush 55, 2) := by decide +kernel
theorem d1_52 : decode method_2_code 52 = .ok (.lushr, 1) := by decide +kernel
theorem d1_53 : decode method_2_code 53 = .ok (.lload 4, 2) := by decide +kernel
theorem d1_55 : decode method_2_code 55 = .ok (.bipush 9, 2) := by decide +kernel
theorem d1_57 : decode method_2_code 57 = .ok (.lshl, 1) := by decide +kernel
theorem d1_58 : decode method_2_code 58 = .ok (.lor, 1) := by decide +kernel
theorem d1_59 : decode method_2_code 59 = .ok (.lload_n 0, 1) := by decide +kernel
theorem d1_60 : decode method_2_code 60 = .ok (.land, 1) := by decide +kernel
theorem d1_61 : decode method_2_code 61 = .ok (.lastore, 1) := by decide +kernel
theorem d1_62 : decode method_2_code 62 = .ok (.aload 14, 2) := by decide +kernel
theorem d1_64 : decode method_2_code 64 = .ok (.iconst 2, 1) := by decide +kernel
theorem d1_65 : decode method_2_code 65 = .ok (.lload 4, 2) := by decide +kernel
theorem d1_67 : decode method_2_code 67 = .ok (.bipush 46, 2) := by decide +kernel
theorem d1_69 : decode method_2_code 69 = .ok (.lushr, 1) := by decide +kernel
theorem d1_70 : decode method_2_code 70 = .ok (.lload 6, 2) := by decide +kernel
theorem d1_72 : decode method_2_code 72 = .ok (.bipush 18, 2) := by decide +kernel
theorem d1_74 : decode method_2_code 74 = .ok (.lshl, 1) := by decide +kernel
theorem d1_75 : decode method_2_code 75 = .ok (.lor, 1) := by decide +kernel
theorem d1_76 : decode method_2_code 76 = .ok (.lload_n 0, 1) := by decide +kernel
theorem d1_77 : decode method_2_code 77 = .ok (.land, 1) := by decide +kernel
theorem d1_78 : decode method_2_code 78 = .ok (.lastore, 1) := by decide +kernel
theorem d1_79 : decode method_2_code 79 = .ok (.aload 14, 2) := by decide +kernel
theorem d1_81 : decode method_2_code 81 = .ok (.iconst 3, 1) := by decide +kernel
theorem d1_82 : decode method_2_code 82 = .ok (.lload 6, 2) := by decide +kernel
theorem d1_84 : decode method_2_code 84 = .ok (.bipush 37, 2) := by decide +kernel
theorem d1_86 : decode method_2_code 86 = .ok (.lushr, 1) := by decide +kernel
theorem d1_87 : decode method_2_code 87 = .ok (.lload 8, 2) := by decide +kernel
theorem d1_89 : decode method_2_code 89 = .ok (.bipush 27, 2) := by decide +kernel
theorem d1_91 : decode method_2_code 91 = .ok (.lshl, 1) := by decide +kernel
theorem d1_92 : decode method_2_code 92 = .ok (.lor, 1) := by decide +kernel
theorem d1_93 : decode method_2_code 93 = .ok (.lload_n 0, 1) := by decide +kernel
theorem d1_94 : decode method_2_code 94 = .ok (.land, 1) := by decide +kernel
theorem d1_95 : decode method_2_code 95 = .ok (.lastore, 1) := by decide +kernel
theorem d1_96 : decode method_2_code 96 = .ok (.aload 14, 2) := by decide +kernel
theorem d1_98 : decode method_2_code 98 = .ok (.iconst 4, 1) := by decide +kernel
theorem d1_99 : decode method_2_code 99 = .ok (.lload 8, 2) := by decide +kernel
theorem d1_101 : decode method_2_code 101 = .ok (.bipush 28, 2) := by decide +kernel
theorem d1_103 : decode method_2_code 103 = .ok (.lushr, 1) := by decide +kernel
theorem d1_104 : decode method_2_code 104 = .ok (.lload 10, 2) := by decide +kernel
theorem d1_106 : decode method_2_code 106 = .ok (.bipush 36, 2) := by decide +kernel
theorem d1_108 : decode method_2_code 108 = .ok (.lshl, 1) := by decide +kernel
theorem d1_109 : decode method_2_code 109 = .ok (.lor, 1) := by decide +kernel
theorem d1_110 : decode method_2_code 110 = .ok (.lload_n 0, 1) := by decide +kernel
theorem d1_111 : decode method_2_code 111 = .ok (.land, 1) := by decide +kernel
theorem d1_112 : decode method_2_code 112 = .ok (.lastore, 1) := by decide +kernel
theorem d1_113 : decode method_2_code 113 = .ok (.aload 14, 2) := by decide +kernel
theorem d1_115 : decode method_2_code 115 = .ok (.iconst 5, 1) := by decide +kernel
theorem d1_116 : decode method_2_code 116 = .ok (.lload 10, 2) := by decide +kernel
theorem d1_118 : decode method_2_code 118 = .ok (.bipush 19, 2) := by decide +kernel
theorem d1_120 : decode method_2_code 120 = .ok (.lushr, 1) := by decide +kernel
theorem d1_121 : decode method_2_code 121 = .ok (.lload 12, 2) := by decide +kernel
theorem d1_123 : decode method_2_code 123 = .ok (.bipush 45, 2) := by decide +kernel
theorem d1_125 : decode method_2_code 125 = .ok (.lshl, 1) := by decide +kernel
theorem d1_126 : decode method_2_code 126 = .ok (.lor, 1) := by decide +kernel
theorem d1_127 : decode method_2_code 127 = .ok (.lload_n 0, 1) := by decide +kernel
theorem d1_128 : decode method_2_code 128 = .ok (.land, 1) := by decide +kernel
theorem d1_129 : decode method_2_code 129 = .ok (.lastore, 1) := by decide +kernel
theorem d1_130 : decode method_2_code 130 = .ok (.aload 14, 2) := by decide +kernel
theorem d1_132 : decode method_2_code 132 = .ok (.bipush 6, 2) := by decide +kernel
theorem d1_134 : decode method_2_code 134 = .ok (.lload 12, 2) := by decide +kernel
theorem d1_136 : decode method_2_code 136 = .ok (.bipush 10, 2) := by decide +kernel
theorem d1_138 : decode method_2_code 138 = .ok (.lushr, 1) := by decide +kernel
theorem d1_139 : decode method_2_code 139 = .ok (.lastore, 1) := by decide +kernel
theorem d1_140 : decode method_2_code 140 = .ok (.aload 14, 2) := by decide +kernel
theorem d1_142 : decode method_2_code 142 = .ok (.areturn, 1) := by decide +kernel
def Q1 (Z : State)  (h0 : Heap) (n0 : Nat) (v : Option Value) (h : Heap) (L : List Loc) : Prop := ∃ (r : Addr) (k : ClassId), v = some (.ref r) ∧ Fr n0 L ∧ h0.size ≤ r ∧ Keep h0 h [] ∧ Arv Z h r k .long (7 : Int32) [(.long (35747322042231467 : Int64)), (.long (36025922209447795 : Int64)), (.long (1084959616957103 : Int64)), (.long (7925923977987733 : Int64)), (.long (16551456537884751 : Int64)), (.long (23443114579904617 : Int64)), (.long (1829881462546425 : Int64))] (.long (0 : Int64))
set_option maxRecDepth 65536 in
set_option maxHeartbeats 40000000 in
theorem rm1 (l : Launch) (Z : State) (a0 : Array Value) (hw : ∀ d ∈ tables_1, d.before a0 Z = true) (ws : List Jvm.Cond)  (h0 : Heap) (n0 : Nat) (Z0 : n0 ≤ h0.size) :
    MetFree l (⟨"com/example/barred_rows/barredrows/crypto/FpIsZeroPinLaw", "modulus", "()[J"⟩ : MethodName) (head1 (Jvm.Cond.code (⟨"com/example/barred_rows/barredrows/crypto/FpIsZeroPinLaw", "modulus", "()[J"⟩ : MethodName) method_2_code 15 (some (.array .long)) :: ws) ({ frames := 0, cells := 1, slots := 7, locals := 0 } : Room)) (fun a U => a = #[] ∧ Z.Warmed39 U.vm ∧ U.heap = h0) (fun _ _ _ _ _ => True) (fun _ U o U' => ∃ v L, o = .returned v ∧ Q1 Z  h0 n0 v U'.heap L ∧ FrameEnd U o U' L ({ frames := 0, cells := 1, slots := 7, locals := 0 } : Room).cells ({ frames := 0, cells := 1, slots := 7, locals := 0 } : Room).slots) := by
  refine MetFree.of_bodySF (plainFor_of_name pn_1) hisR ?_
  intro p e s m args below meth c s₁ Bd hml0 hP hK
  obtain ⟨rfl, hZ, hh⟩ := hP
  have hx := Bd.exec
  have hby := Bd.bytes
  have hml : c.maxLocals = 15 := hml0
  have hown : s.vm.findClass "com/example/barred_rows/barredrows/crypto/FpIsZeroPinLaw" = some m.cls := findClass_of_methodNamed Bd.named
  have hnm := (name_of_methodNamed Bd.named Bd.method).1
  have X0 : Stand p l e ({ frames := 0, cells := 1, slots := 7, locals := 0 } : Room) s m #[] below meth c s₁ [] 0 0 := Stand.of_body Bd
  have e0 : s₁.heap = h0 := by rw [← hh, Bd.state]; rfl
  have N0 := Fr.nil n0
  refine own_go (B := s₁.setTop (mkF m 0 LS_uuuuuuuuuuuuuuu [])) (fun t k => castTop (ef_1 m ) k) ?_
  have K0 : Keep h0 h0 [] := Keep.refl _ _
  refine own_go (B := s₁.setTop (mkF m 35 (LS_JsJsJsJsJsJsJsu (36028797018963967 : Int64) (-5044313057631688021 : Int64) (2210141511517208575 : Int64) (7435674573564081700 : Int64) (7239337960414712511 : Int64) (5412103778470702295 : Int64) (1873798617647539866 : Int64)) [(.int (7 : Int32))])) (fun t k => ?_) ?_
  · show Steps p.tables e below (s₁.setTop (mkF m 0 LS_uuuuuuuuuuuuuuu [])) _
    refine X0.ldc2Long hx hown (mvT hZ (hw _ (List.mem_of_getElem? (i := 0) rfl))) (g := (mkF m 0 LS_uuuuuuuuuuuuuuu [])) rfl (hb hby d1_0) _ ?_
    show Steps p.tables e below (s₁.setTop (mkF m 3 LS_uuuuuuuuuuuuuuu [(.long (36028797018963967 : Int64))])) _
    refine XS.lstoreN X0.here hx rfl (hb hby d1_3) rfl (l' := (LS_Jsuuuuuuuuuuuuu (36028797018963967 : Int64))) rfl ?_
    show Steps p.tables e below (s₁.setTop (mkF m 4 (LS_Jsuuuuuuuuuuuuu (36028797018963967 : Int64)) [])) _
    refine X0.ldc2Long hx hown (mvT hZ (hw _ (List.mem_of_getElem? (i := 5) rfl))) (g := (mkF m 4 (LS_Jsuuuuuuuuuuuuu (36028797018963967 : Int64)) [])) rfl (hb hby d1_4) _ ?_
    show Steps p.tables e below (s₁.setTop (mkF m 7 (LS_Jsuuuuuuuuuuuuu (36028797018963967 : Int64)) [(.long (-5044313057631688021 : Int64))])) _
    refine XS.lstoreN X0.here hx rfl (hb hby d1_7) rfl (l' := (LS_JsJsuuuuuuuuuuu (36028797018963967 : Int64) (-5044313057631688021 : Int64))) rfl ?_
    show Steps p.tables e below (s₁.setTop (mkF m 8 (LS_JsJsuuuuuuuuuuu (36028797018963967 : Int64) (-5044313057631688021 : Int64)) [])) _
    refine X0.ldc2Long hx hown (mvT hZ (hw _ (List.mem_of_getElem? (i := 6) rfl))) (g := (mkF m 8 (LS_JsJsuuuuuuuuuuu (36028797018963967 : Int64) (-5044313057631688021 : Int64)) [])) rfl (hb hby d1_8) _ ?_
    show Steps p.tables e below (s₁.setTop (mkF m 11 (LS_JsJsuuuuuuuuuuu (36028797018963967 : Int64) (-5044313057631688021 : Int64)) [(.long (2210141511517208575 : Int64))])) _
    refine XS.lstore X0.here hx rfl (hb hby d1_11) rfl (l' := (LS_JsJsJsuuuuuuuuu (36028797018963967 : Int64) (-5044313057631688021 : Int64) (2210141511517208575 : Int64))) rfl ?_
    show Steps p.tables e below (s₁.setTop (mkF m 13 (LS_JsJsJsuuuuuuuuu (36028797018963967 : Int64) (-5044313057631688021 : Int64) (2210141511517208575 : Int64)) [])) _
    refine X0.ldc2Long hx hown (mvT hZ (hw _ (List.mem_of_getElem? (i := 7) rfl))) (g := (mkF m 13 (LS_JsJsJsuuuuuuuuu (36028797018963967 : Int64) (-5044313057631688021 : Int64) (2210141511517208575 : Int64)) [])) rfl (hb hby d1_13) _ ?_
    show Steps p.tables e below (s₁.setTop (mkF m 16 (LS_JsJsJsuuuuuuuuu (36028797018963967 : Int64) (-5044313057631688021 : Int64) (2210141511517208575 : Int64)) [(.long (7435674573564081700 : Int64))])) _
    refine XS.lstore X0.here hx rfl (hb hby d1_16) rfl (l' := (LS_JsJsJsJsuuuuuuu (36028797018963967 : Int64) (-5044313057631688021 : Int64) (2210141511517208575 : Int64) (7435674573564081700 : Int64))) rfl ?_
    show Steps p.tables e below (s₁.setTop (mkF m 18 (LS_JsJsJsJsuuuuuuu (36028797018963967 : Int64) (-5044313057631688021 : Int64) (2210141511517208575 : Int64) (7435674573564081700 : Int64)) [])) _
    refine X0.ldc2Long hx hown (mvT hZ (hw _ (List.mem_of_getElem? (i := 8) rfl))) (g := (mkF m 18 (LS_JsJsJsJsuuuuuuu (36028797018963967 : Int64) (-5044313057631688021 : Int64) (2210141511517208575 : Int64) (7435674573564081700 : Int64)) [])) rfl (hb hby d1_18) _ ?_
    show Steps p.tables e below (s₁.setTop (mkF m 21 (LS_JsJsJsJsuuuuuuu (36028797018963967 : Int64) (-5044313057631688021 : Int64) (2210141511517208575 : Int64) (7435674573564081700 : Int64)) [(.long (7239337960414712511 : Int64))])) _
    refine XS.lstore X0.here hx rfl (hb hby d1_21) rfl (l' := (LS_JsJsJsJsJsuuuuu (36028797018963967 : Int64) (-5044313057631688021 : Int64) (2210141511517208575 : Int64) (7435674573564081700 : Int64) (7239337960414712511 : Int64))) rfl ?_
    show Steps p.tables e below (s₁.setTop (mkF m 23 (LS_JsJsJsJsJsuuuuu (36028797018963967 : Int64) (-5044313057631688021 : Int64) (2210141511517208575 : Int64) (7435674573564081700 : Int64) (7239337960414712511 : Int64)) [])) _
    refine X0.ldc2Long hx hown (mvT hZ (hw _ (List.mem_of_getElem? (i := 9) rfl))) (g := (mkF m 23 (LS_JsJsJsJsJsuuuuu (36028797018963967 : Int64) (-5044313057631688021 : Int64) (2210141511517208575 : Int64) (7435674573564081700 : Int64) (7239337960414712511 : Int64)) [])) rfl (hb hby d1_23) _ ?_
    show Steps p.tables e below (s₁.setTop (mkF m 26 (LS_JsJsJsJsJsuuuuu (36028797018963967 : Int64) (-5044313057631688021 : Int64) (2210141511517208575 : Int64) (7435674573564081700 : Int64) (7239337960414712511 : Int64)) [(.long (5412103778470702295 : Int64))])) _
    refine XS.lstore X0.here hx rfl (hb hby d1_26) rfl (l' := (LS_JsJsJsJsJsJsuuu (36028797018963967 : Int64) (-5044313057631688021 : Int64) (2210141511517208575 : Int64) (7435674573564081700 : Int64) (7239337960414712511 : Int64) (5412103778470702295 : Int64))) rfl ?_
    show Steps p.tables e below (s₁.setTop (mkF m 28 (LS_JsJsJsJsJsJsuuu (36028797018963967 : Int64) (-5044313057631688021 : Int64) (2210141511517208575 : Int64) (7435674573564081700 : Int64) (7239337960414712511 : Int64) (5412103778470702295 : Int64)) [])) _
    refine X0.ldc2Long hx hown (mvT hZ (hw _ (List.mem_of_getElem? (i := 10) rfl))) (g := (mkF m 28 (LS_JsJsJsJsJsJsuuu (36028797018963967 : Int64) (-5044313057631688021 : Int64) (2210141511517208575 : Int64) (7435674573564081700 : Int64) (7239337960414712511 : Int64) (5412103778470702295 : Int64)) [])) rfl (hb hby d1_28) _ ?_
    show Steps p.tables e below (s₁.setTop (mkF m 31 (LS_JsJsJsJsJsJsuuu (36028797018963967 : Int64) (-5044313057631688021 : Int64) (2210141511517208575 : Int64) (7435674573564081700 : Int64) (7239337960414712511 : Int64) (5412103778470702295 : Int64)) [(.long (1873798617647539866 : Int64))])) _
    refine XS.lstore X0.here hx rfl (hb hby d1_31) rfl (l' := (LS_JsJsJsJsJsJsJsu (36028797018963967 : Int64) (-5044313057631688021 : Int64) (2210141511517208575 : Int64) (7435674573564081700 : Int64) (7239337960414712511 : Int64) (5412103778470702295 : Int64) (1873798617647539866 : Int64))) rfl ?_
    show Steps p.tables e below (s₁.setTop (mkF m 33 (LS_JsJsJsJsJsJsJsu (36028797018963967 : Int64) (-5044313057631688021 : Int64) (2210141511517208575 : Int64) (7435674573564081700 : Int64) (7239337960414712511 : Int64) (5412103778470702295 : Int64) (1873798617647539866 : Int64)) [])) _
    refine XS.bipush X0.here hx rfl (hb hby d1_33) ?_
    exact k
  obtain ⟨T1, h1, k1, X1, e1, E1, A1, st1⟩ := newP X0 hx hZ (hw _ (List.mem_of_getElem? (i := 11) rfl)) e0 (g := (mkF m 35 (LS_JsJsJsJsJsJsJsu (36028797018963967 : Int64) (-5044313057631688021 : Int64) (2210141511517208575 : Int64) (7435674573564081700 : Int64) (7239337960414712511 : Int64) (5412103778470702295 : Int64) (1873798617647539866 : Int64)) [(.int (7 : Int32))])) rfl (hb hby d1_35) rfl (by decide) (cap := 7) (by decide) (by decide) (by decide) (by decide)
  obtain ⟨b1, g1⟩ : ∃ z, z = h0.size := ⟨_, rfl⟩
  rw [← g1] at A1 st1
  have g_b1 : n0 ≤ b1 := Nat.le_trans Z0 (Nat.le_of_eq g1.symm)
  have sz_b1 : h0.size ≤ b1 := Nat.le_trans K0.1 (Nat.le_of_eq g1.symm)
  have V1 : Arv Z h1 b1 k1 .long (7 : Int32) [(.long (0 : Int64)), (.long (0 : Int64)), (.long (0 : Int64)), (.long (0 : Int64)), (.long (0 : Int64)), (.long (0 : Int64)), (.long (0 : Int64))] (.long (0 : Int64)) := (Arv.new A1 (by decide)).pad (pad_rep [] (.long (0 : Int64)) 7)
  refine own_go (B := T1.setTop (mkF m 37 (LS_JsJsJsJsJsJsJsu (36028797018963967 : Int64) (-5044313057631688021 : Int64) (2210141511517208575 : Int64) (7435674573564081700 : Int64) (7239337960414712511 : Int64) (5412103778470702295 : Int64) (1873798617647539866 : Int64)) [(.ref b1)])) (fun t k => st1 _ k) ?_
  refine own_go (B := T1.setTop (mkF m 45 (LS_JsJsJsJsJsJsJsR (36028797018963967 : Int64) (-5044313057631688021 : Int64) (2210141511517208575 : Int64) (7435674573564081700 : Int64) (7239337960414712511 : Int64) (5412103778470702295 : Int64) (1873798617647539866 : Int64) b1) [(.long (35747322042231467 : Int64)), (.int (0 : Int32)), (.ref b1)])) (fun t k => ?_) ?_
  · show Steps p.tables e below (T1.setTop (mkF m 37 (LS_JsJsJsJsJsJsJsu (36028797018963967 : Int64) (-5044313057631688021 : Int64) (2210141511517208575 : Int64) (7435674573564081700 : Int64) (7239337960414712511 : Int64) (5412103778470702295 : Int64) (1873798617647539866 : Int64)) [(.ref b1)])) _
    refine XS.astore X1.here hx rfl (hb hby d1_37) rfl rfl (l' := (LS_JsJsJsJsJsJsJsR (36028797018963967 : Int64) (-5044313057631688021 : Int64) (2210141511517208575 : Int64) (7435674573564081700 : Int64) (7239337960414712511 : Int64) (5412103778470702295 : Int64) (1873798617647539866 : Int64) b1)) rfl ?_
    show Steps p.tables e below (T1.setTop (mkF m 39 (LS_JsJsJsJsJsJsJsR (36028797018963967 : Int64) (-5044313057631688021 : Int64) (2210141511517208575 : Int64) (7435674573564081700 : Int64) (7239337960414712511 : Int64) (5412103778470702295 : Int64) (1873798617647539866 : Int64) b1) [])) _
    refine XS.aload X1.here hx rfl (hb hby d1_39) rfl rfl ?_
    show Steps p.tables e below (T1.setTop (mkF m 41 (LS_JsJsJsJsJsJsJsR (36028797018963967 : Int64) (-5044313057631688021 : Int64) (2210141511517208575 : Int64) (7435674573564081700 : Int64) (7239337960414712511 : Int64) (5412103778470702295 : Int64) (1873798617647539866 : Int64) b1) [(.ref b1)])) _
    refine XS.iconst X1.here hx rfl (hb hby d1_41) ?_
    show Steps p.tables e below (T1.setTop (mkF m 42 (LS_JsJsJsJsJsJsJsR (36028797018963967 : Int64) (-5044313057631688021 : Int64) (2210141511517208575 : Int64) (7435674573564081700 : Int64) (7239337960414712511 : Int64) (5412103778470702295 : Int64) (1873798617647539866 : Int64) b1) [(.int (0 : Int32)), (.ref b1)])) _
    refine XS.lloadN X1.here hx rfl (hb hby d1_42) rfl ?_
    show Steps p.tables e below (T1.setTop (mkF m 43 (LS_JsJsJsJsJsJsJsR (36028797018963967 : Int64) (-5044313057631688021 : Int64) (2210141511517208575 : Int64) (7435674573564081700 : Int64) (7239337960414712511 : Int64) (5412103778470702295 : Int64) (1873798617647539866 : Int64) b1) [(.long (-5044313057631688021 : Int64)), (.int (0 : Int32)), (.ref b1)])) _
    refine XS.lloadN X1.here hx rfl (hb hby d1_43) rfl ?_
    show Steps p.tables e below (T1.setTop (mkF m 44 (LS_JsJsJsJsJsJsJsR (36028797018963967 : Int64) (-5044313057631688021 : Int64) (2210141511517208575 : Int64) (7435674573564081700 : Int64) (7239337960414712511 : Int64) (5412103778470702295 : Int64) (1873798617647539866 : Int64) b1) [(.long (36028797018963967 : Int64)), (.long (-5044313057631688021 : Int64)), (.int (0 : Int32)), (.ref b1)])) _
    refine XS.land X1.here hx rfl (hb hby d1_44) rfl ?_
    rw [show ((-5044313057631688021 : Int64) &&& (36028797018963967 : Int64)) = (35747322042231467 : Int64) from by decide]
    exact k
  obtain ⟨cl2, Ar2, qa2, Sa2, Na2, Ha2, Ga2⟩ := id V1
  have hin3 : ¬ ((0 : Int32) < 0 ∨ cl2.slots.size ≤ ((0 : Int32)).toNatClampNeg) := inb_of Sa2 ⟨by decide, by decide⟩
  obtain ⟨T3, h3, X3, e3, W3, st3⟩ := stJ X1 hx hZ e1 Ar2 (j := (0 : Int32)) hin3 (g := (mkF m 45 (LS_JsJsJsJsJsJsJsR (36028797018963967 : Int64) (-5044313057631688021 : Int64) (2210141511517208575 : Int64) (7435674573564081700 : Int64) (7239337960414712511 : Int64) (5412103778470702295 : Int64) (1873798617647539866 : Int64) b1) [(.long (35747322042231467 : Int64)), (.int (0 : Int32)), (.ref b1)])) rfl rfl (hb hby d1_45)
  have N3 := Fr.snoc X3 N0 g_b1
  have V3 : Arv Z h3 b1 k1 .long (7 : Int32) [(.long (35747322042231467 : Int64)), (.long (0 : Int64)), (.long (0 : Int64)), (.long (0 : Int64)), (.long (0 : Int64)), (.long (0 : Int64)), (.long (0 : Int64))] (.long (0 : Int64)) := Arv.set Ar2 qa2 Sa2 Na2 Ha2 Ga2 rfl W3 0 rfl (Nat.le_of_ble_eq_true rfl)
  refine own_go (B := T3.setTop (mkF m 46 (LS_JsJsJsJsJsJsJsR (36028797018963967 : Int64) (-5044313057631688021 : Int64) (2210141511517208575 : Int64) (7435674573564081700 : Int64) (7239337960414712511 : Int64) (5412103778470702295 : Int64) (1873798617647539866 : Int64) b1) [])) (fun t k => st3 _ k) ?_
  refine own_go (B := T3.setTop (mkF m 61 (LS_JsJsJsJsJsJsJsR (36028797018963967 : Int64) (-5044313057631688021 : Int64) (2210141511517208575 : Int64) (7435674573564081700 : Int64) (7239337960414712511 : Int64) (5412103778470702295 : Int64) (1873798617647539866 : Int64) b1) [(.long (36025922209447795 : Int64)), (.int (1 : Int32)), (.ref b1)])) (fun t k => ?_) ?_
  · show Steps p.tables e below (T3.setTop (mkF m 46 (LS_JsJsJsJsJsJsJsR (36028797018963967 : Int64) (-5044313057631688021 : Int64) (2210141511517208575 : Int64) (7435674573564081700 : Int64) (7239337960414712511 : Int64) (5412103778470702295 : Int64) (1873798617647539866 : Int64) b1) [])) _
    refine XS.aload X3.here hx rfl (hb hby d1_46) rfl rfl ?_
    show Steps p.tables e below (T3.setTop (mkF m 48 (LS_JsJsJsJsJsJsJsR (36028797018963967 : Int64) (-5044313057631688021 : Int64) (2210141511517208575 : Int64) (7435674573564081700 : Int64) (7239337960414712511 : Int64) (5412103778470702295 : Int64) (1873798617647539866 : Int64) b1) [(.ref b1)])) _
    refine XS.iconst X3.here hx rfl (hb hby d1_48) ?_
    show Steps p.tables e below (T3.setTop (mkF m 49 (LS_JsJsJsJsJsJsJsR (36028797018963967 : Int64) (-5044313057631688021 : Int64) (2210141511517208575 : Int64) (7435674573564081700 : Int64) (7239337960414712511 : Int64) (5412103778470702295 : Int64) (1873798617647539866 : Int64) b1) [(.int (1 : Int32)), (.ref b1)])) _
    refine XS.lloadN X3.here hx rfl (hb hby d1_49) rfl ?_
    show Steps p.tables e below (T3.setTop (mkF m 50 (LS_JsJsJsJsJsJsJsR (36028797018963967 : Int64) (-5044313057631688021 : Int64) (2210141511517208575 : Int64) (7435674573564081700 : Int64) (7239337960414712511 : Int64) (5412103778470702295 : Int64) (1873798617647539866 : Int64) b1) [(.long (-5044313057631688021 : Int64)), (.int (1 : Int32)), (.ref b1)])) _
    refine XS.bipush X3.here hx rfl (hb hby d1_50) ?_
    show Steps p.tables e below (T3.setTop (mkF m 52 (LS_JsJsJsJsJsJsJsR (36028797018963967 : Int64) (-5044313057631688021 : Int64) (2210141511517208575 : Int64) (7435674573564081700 : Int64) (7239337960414712511 : Int64) (5412103778470702295 : Int64) (1873798617647539866 : Int64) b1) [(.int (55 : Int32)), (.long (-5044313057631688021 : Int64)), (.int (1 : Int32)), (.ref b1)])) _
    refine XS.lushr X3.here hx rfl (hb hby d1_52) rfl ?_
    rw [show (((-5044313057631688021 : Int64).toUInt64 >>> ((55 : Int32) &&& 0x3f).toInt64.toUInt64).toInt64) = (371 : Int64) from by decide]
    show Steps p.tables e below (T3.setTop (mkF m 53 (LS_JsJsJsJsJsJsJsR (36028797018963967 : Int64) (-5044313057631688021 : Int64) (2210141511517208575 : Int64) (7435674573564081700 : Int64) (7239337960414712511 : Int64) (5412103778470702295 : Int64) (1873798617647539866 : Int64) b1) [(.long (371 : Int64)), (.int (1 : Int32)), (.ref b1)])) _
    refine XS.lload X3.here hx rfl (hb hby d1_53) rfl ?_
    show Steps p.tables e below (T3.setTop (mkF m 55 (LS_JsJsJsJsJsJsJsR (36028797018963967 : Int64) (-5044313057631688021 : Int64) (2210141511517208575 : Int64) (7435674573564081700 : Int64) (7239337960414712511 : Int64) (5412103778470702295 : Int64) (1873798617647539866 : Int64) b1) [(.long (2210141511517208575 : Int64)), (.long (371 : Int64)), (.int (1 : Int32)), (.ref b1)])) _
    refine XS.bipush X3.here hx rfl (hb hby d1_55) ?_
    show Steps p.tables e below (T3.setTop (mkF m 57 (LS_JsJsJsJsJsJsJsR (36028797018963967 : Int64) (-5044313057631688021 : Int64) (2210141511517208575 : Int64) (7435674573564081700 : Int64) (7239337960414712511 : Int64) (5412103778470702295 : Int64) (1873798617647539866 : Int64) b1) [(.int (9 : Int32)), (.long (2210141511517208575 : Int64)), (.long (371 : Int64)), (.int (1 : Int32)), (.ref b1)])) _
    refine XS.lshl X3.here hx rfl (hb hby d1_57) rfl ?_
    rw [show ((2210141511517208575 : Int64) <<< ((9 : Int32) &&& 0x3f).toInt64) = (6341065400528141824 : Int64) from by decide]
    show Steps p.tables e below (T3.setTop (mkF m 58 (LS_JsJsJsJsJsJsJsR (36028797018963967 : Int64) (-5044313057631688021 : Int64) (2210141511517208575 : Int64) (7435674573564081700 : Int64) (7239337960414712511 : Int64) (5412103778470702295 : Int64) (1873798617647539866 : Int64) b1) [(.long (6341065400528141824 : Int64)), (.long (371 : Int64)), (.int (1 : Int32)), (.ref b1)])) _
    refine XS.lor X3.here hx rfl (hb hby d1_58) rfl ?_
    rw [show ((371 : Int64) ||| (6341065400528141824 : Int64)) = (6341065400528142195 : Int64) from by decide]
    show Steps p.tables e below (T3.setTop (mkF m 59 (LS_JsJsJsJsJsJsJsR (36028797018963967 : Int64) (-5044313057631688021 : Int64) (2210141511517208575 : Int64) (7435674573564081700 : Int64) (7239337960414712511 : Int64) (5412103778470702295 : Int64) (1873798617647539866 : Int64) b1) [(.long (6341065400528142195 : Int64)), (.int (1 : Int32)), (.ref b1)])) _
    refine XS.lloadN X3.here hx rfl (hb hby d1_59) rfl ?_
    show Steps p.tables e below (T3.setTop (mkF m 60 (LS_JsJsJsJsJsJsJsR (36028797018963967 : Int64) (-5044313057631688021 : Int64) (2210141511517208575 : Int64) (7435674573564081700 : Int64) (7239337960414712511 : Int64) (5412103778470702295 : Int64) (1873798617647539866 : Int64) b1) [(.long (36028797018963967 : Int64)), (.long (6341065400528142195 : Int64)), (.int (1 : Int32)), (.ref b1)])) _
    refine XS.land X3.here hx rfl (hb hby d1_60) rfl ?_
    rw [show ((6341065400528142195 : Int64) &&& (36028797018963967 : Int64)) = (36025922209447795 : Int64) from by decide]
    exact k
  obtain ⟨cl4, Ar4, qa4, Sa4, Na4, Ha4, Ga4⟩ := id V3
  have hin5 : ¬ ((1 : Int32) < 0 ∨ cl4.slots.size ≤ ((1 : Int32)).toNatClampNeg) := inb_of Sa4 ⟨by decide, by decide⟩
  obtain ⟨T5, h5, X5, e5, W5, st5⟩ := stJ X3 hx hZ e3 Ar4 (j := (1 : Int32)) hin5 (g := (mkF m 61 (LS_JsJsJsJsJsJsJsR (36028797018963967 : Int64) (-5044313057631688021 : Int64) (2210141511517208575 : Int64) (7435674573564081700 : Int64) (7239337960414712511 : Int64) (5412103778470702295 : Int64) (1873798617647539866 : Int64) b1) [(.long (36025922209447795 : Int64)), (.int (1 : Int32)), (.ref b1)])) rfl rfl (hb hby d1_61)
  have N5 := Fr.snoc X5 N3 g_b1
  have V5 : Arv Z h5 b1 k1 .long (7 : Int32) [(.long (35747322042231467 : Int64)), (.long (36025922209447795 : Int64)), (.long (0 : Int64)), (.long (0 : Int64)), (.long (0 : Int64)), (.long (0 : Int64)), (.long (0 : Int64))] (.long (0 : Int64)) := Arv.set Ar4 qa4 Sa4 Na4 Ha4 Ga4 rfl W5 1 rfl (Nat.le_of_ble_eq_true rfl)
  refine own_go (B := T5.setTop (mkF m 62 (LS_JsJsJsJsJsJsJsR (36028797018963967 : Int64) (-5044313057631688021 : Int64) (2210141511517208575 : Int64) (7435674573564081700 : Int64) (7239337960414712511 : Int64) (5412103778470702295 : Int64) (1873798617647539866 : Int64) b1) [])) (fun t k => st5 _ k) ?_
  refine own_go (B := T5.setTop (mkF m 78 (LS_JsJsJsJsJsJsJsR (36028797018963967 : Int64) (-5044313057631688021 : Int64) (2210141511517208575 : Int64) (7435674573564081700 : Int64) (7239337960414712511 : Int64) (5412103778470702295 : Int64) (1873798617647539866 : Int64) b1) [(.long (1084959616957103 : Int64)), (.int (2 : Int32)), (.ref b1)])) (fun t k => ?_) ?_
  · show Steps p.tables e below (T5.setTop (mkF m 62 (LS_JsJsJsJsJsJsJsR (36028797018963967 : Int64) (-5044313057631688021 : Int64) (2210141511517208575 : Int64) (7435674573564081700 : Int64) (7239337960414712511 : Int64) (5412103778470702295 : Int64) (1873798617647539866 : Int64) b1) [])) _
    refine XS.aload X5.here hx rfl (hb hby d1_62) rfl rfl ?_
    show Steps p.tables e below (T5.setTop (mkF m 64 (LS_JsJsJsJsJsJsJsR (36028797018963967 : Int64) (-5044313057631688021 : Int64) (2210141511517208575 : Int64) (7435674573564081700 : Int64) (7239337960414712511 : Int64) (5412103778470702295 : Int64) (1873798617647539866 : Int64) b1) [(.ref b1)])) _
    refine XS.iconst X5.here hx rfl (hb hby d1_64) ?_
    show Steps p.tables e below (T5.setTop (mkF m 65 (LS_JsJsJsJsJsJsJsR (36028797018963967 : Int64) (-5044313057631688021 : Int64) (2210141511517208575 : Int64) (7435674573564081700 : Int64) (7239337960414712511 : Int64) (5412103778470702295 : Int64) (1873798617647539866 : Int64) b1) [(.int (2 : Int32)), (.ref b1)])) _
    refine XS.lload X5.here hx rfl (hb hby d1_65) rfl ?_
    show Steps p.tables e below (T5.setTop (mkF m 67 (LS_JsJsJsJsJsJsJsR (36028797018963967 : Int64) (-5044313057631688021 : Int64) (2210141511517208575 : Int64) (7435674573564081700 : Int64) (7239337960414712511 : Int64) (5412103778470702295 : Int64) (1873798617647539866 : Int64) b1) [(.long (2210141511517208575 : Int64)), (.int (2 : Int32)), (.ref b1)])) _
    refine XS.bipush X5.here hx rfl (hb hby d1_67) ?_
    show Steps p.tables e below (T5.setTop (mkF m 69 (LS_JsJsJsJsJsJsJsR (36028797018963967 : Int64) (-5044313057631688021 : Int64) (2210141511517208575 : Int64) (7435674573564081700 : Int64) (7239337960414712511 : Int64) (5412103778470702295 : Int64) (1873798617647539866 : Int64) b1) [(.int (46 : Int32)), (.long (2210141511517208575 : Int64)), (.int (2 : Int32)), (.ref b1)])) _
    refine XS.lushr X5.here hx rfl (hb hby d1_69) rfl ?_
    rw [show (((2210141511517208575 : Int64).toUInt64 >>> ((46 : Int32) &&& 0x3f).toInt64.toUInt64).toInt64) = (31407 : Int64) from by decide]
    show Steps p.tables e below (T5.setTop (mkF m 70 (LS_JsJsJsJsJsJsJsR (36028797018963967 : Int64) (-5044313057631688021 : Int64) (2210141511517208575 : Int64) (7435674573564081700 : Int64) (7239337960414712511 : Int64) (5412103778470702295 : Int64) (1873798617647539866 : Int64) b1) [(.long (31407 : Int64)), (.int (2 : Int32)), (.ref b1)])) _
    refine XS.lload X5.here hx rfl (hb hby d1_70) rfl ?_
    show Steps p.tables e below (T5.setTop (mkF m 72 (LS_JsJsJsJsJsJsJsR (36028797018963967 : Int64) (-5044313057631688021 : Int64) (2210141511517208575 : Int64) (7435674573564081700 : Int64) (7239337960414712511 : Int64) (5412103778470702295 : Int64) (1873798617647539866 : Int64) b1) [(.long (7435674573564081700 : Int64)), (.long (31407 : Int64)), (.int (2 : Int32)), (.ref b1)])) _
    refine XS.bipush X5.here hx rfl (hb hby d1_72) ?_
    show Steps p.tables e below (T5.setTop (mkF m 74 (LS_JsJsJsJsJsJsJsR (36028797018963967 : Int64) (-5044313057631688021 : Int64) (2210141511517208575 : Int64) (7435674573564081700 : Int64) (7239337960414712511 : Int64) (5412103778470702295 : Int64) (1873798617647539866 : Int64) b1) [(.int (18 : Int32)), (.long (7435674573564081700 : Int64)), (.long (31407 : Int64)), (.int (2 : Int32)), (.ref b1)])) _
    refine XS.lshl X5.here hx rfl (hb hby d1_74) rfl ?_
    rw [show ((7435674573564081700 : Int64) <<< ((18 : Int32) &&& 0x3f).toInt64) = (5369375715442556928 : Int64) from by decide]
    show Steps p.tables e below (T5.setTop (mkF m 75 (LS_JsJsJsJsJsJsJsR (36028797018963967 : Int64) (-5044313057631688021 : Int64) (2210141511517208575 : Int64) (7435674573564081700 : Int64) (7239337960414712511 : Int64) (5412103778470702295 : Int64) (1873798617647539866 : Int64) b1) [(.long (5369375715442556928 : Int64)), (.long (31407 : Int64)), (.int (2 : Int32)), (.ref b1)])) _
    refine XS.lor X5.here hx rfl (hb hby d1_75) rfl ?_
    rw [show ((31407 : Int64) ||| (5369375715442556928 : Int64)) = (5369375715442588335 : Int64) from by decide]
    show Steps p.tables e below (T5.setTop (mkF m 76 (LS_JsJsJsJsJsJsJsR (36028797018963967 : Int64) (-5044313057631688021 : Int64) (2210141511517208575 : Int64) (7435674573564081700 : Int64) (7239337960414712511 : Int64) (5412103778470702295 : Int64) (1873798617647539866 : Int64) b1) [(.long (5369375715442588335 : Int64)), (.int (2 : Int32)), (.ref b1)])) _
    refine XS.lloadN X5.here hx rfl (hb hby d1_76) rfl ?_
    show Steps p.tables e below (T5.setTop (mkF m 77 (LS_JsJsJsJsJsJsJsR (36028797018963967 : Int64) (-5044313057631688021 : Int64) (2210141511517208575 : Int64) (7435674573564081700 : Int64) (7239337960414712511 : Int64) (5412103778470702295 : Int64) (1873798617647539866 : Int64) b1) [(.long (36028797018963967 : Int64)), (.long (5369375715442588335 : Int64)), (.int (2 : Int32)), (.ref b1)])) _
    refine XS.land X5.here hx rfl (hb hby d1_77) rfl ?_
    rw [show ((5369375715442588335 : Int64) &&& (36028797018963967 : Int64)) = (1084959616957103 : Int64) from by decide]
    exact k
  obtain ⟨cl6, Ar6, qa6, Sa6, Na6, Ha6, Ga6⟩ := id V5
  have hin7 : ¬ ((2 : Int32) < 0 ∨ cl6.slots.size ≤ ((2 : Int32)).toNatClampNeg) := inb_of Sa6 ⟨by decide, by decide⟩
  obtain ⟨T7, h7, X7, e7, W7, st7⟩ := stJ X5 hx hZ e5 Ar6 (j := (2 : Int32)) hin7 (g := (mkF m 78 (LS_JsJsJsJsJsJsJsR (36028797018963967 : Int64) (-5044313057631688021 : Int64) (2210141511517208575 : Int64) (7435674573564081700 : Int64) (7239337960414712511 : Int64) (5412103778470702295 : Int64) (1873798617647539866 : Int64) b1) [(.long (1084959616957103 : Int64)), (.int (2 : Int32)), (.ref b1)])) rfl rfl (hb hby d1_78)
  have N7 := Fr.snoc X7 N5 g_b1
  have V7 : Arv Z h7 b1 k1 .long (7 : Int32) [(.long (35747322042231467 : Int64)), (.long (36025922209447795 : Int64)), (.long (1084959616957103 : Int64)), (.long (0 : Int64)), (.long (0 : Int64)), (.long (0 : Int64)), (.long (0 : Int64))] (.long (0 : Int64)) := Arv.set Ar6 qa6 Sa6 Na6 Ha6 Ga6 rfl W7 2 rfl (Nat.le_of_ble_eq_true rfl)
  refine own_go (B := T7.setTop (mkF m 79 (LS_JsJsJsJsJsJsJsR (36028797018963967 : Int64) (-5044313057631688021 : Int64) (2210141511517208575 : Int64) (7435674573564081700 : Int64) (7239337960414712511 : Int64) (5412103778470702295 : Int64) (1873798617647539866 : Int64) b1) [])) (fun t k => st7 _ k) ?_
  refine own_go (B := T7.setTop (mkF m 95 (LS_JsJsJsJsJsJsJsR (36028797018963967 : Int64) (-5044313057631688021 : Int64) (2210141511517208575 : Int64) (7435674573564081700 : Int64) (7239337960414712511 : Int64) (5412103778470702295 : Int64) (1873798617647539866 : Int64) b1) [(.long (7925923977987733 : Int64)), (.int (3 : Int32)), (.ref b1)])) (fun t k => ?_) ?_
  · show Steps p.tables e below (T7.setTop (mkF m 79 (LS_JsJsJsJsJsJsJsR (36028797018963967 : Int64) (-5044313057631688021 : Int64) (2210141511517208575 : Int64) (7435674573564081700 : Int64) (7239337960414712511 : Int64) (5412103778470702295 : Int64) (1873798617647539866 : Int64) b1) [])) _
    refine XS.aload X7.here hx rfl (hb hby d1_79) rfl rfl ?_
    show Steps p.tables e below (T7.setTop (mkF m 81 (LS_JsJsJsJsJsJsJsR (36028797018963967 : Int64) (-5044313057631688021 : Int64) (2210141511517208575 : Int64) (7435674573564081700 : Int64) (7239337960414712511 : Int64) (5412103778470702295 : Int64) (1873798617647539866 : Int64) b1) [(.ref b1)])) _
    refine XS.iconst X7.here hx rfl (hb hby d1_81) ?_
    show Steps p.tables e below (T7.setTop (mkF m 82 (LS_JsJsJsJsJsJsJsR (36028797018963967 : Int64) (-5044313057631688021 : Int64) (2210141511517208575 : Int64) (7435674573564081700 : Int64) (7239337960414712511 : Int64) (5412103778470702295 : Int64) (1873798617647539866 : Int64) b1) [(.int (3 : Int32)), (.ref b1)])) _
    refine XS.lload X7.here hx rfl (hb hby d1_82) rfl ?_
    show Steps p.tables e below (T7.setTop (mkF m 84 (LS_JsJsJsJsJsJsJsR (36028797018963967 : Int64) (-5044313057631688021 : Int64) (2210141511517208575 : Int64) (7435674573564081700 : Int64) (7239337960414712511 : Int64) (5412103778470702295 : Int64) (1873798617647539866 : Int64) b1) [(.long (7435674573564081700 : Int64)), (.int (3 : Int32)), (.ref b1)])) _
    refine XS.bipush X7.here hx rfl (hb hby d1_84) ?_
    show Steps p.tables e below (T7.setTop (mkF m 86 (LS_JsJsJsJsJsJsJsR (36028797018963967 : Int64) (-5044313057631688021 : Int64) (2210141511517208575 : Int64) (7435674573564081700 : Int64) (7239337960414712511 : Int64) (5412103778470702295 : Int64) (1873798617647539866 : Int64) b1) [(.int (37 : Int32)), (.long (7435674573564081700 : Int64)), (.int (3 : Int32)), (.ref b1)])) _
    refine XS.lushr X7.here hx rfl (hb hby d1_86) rfl ?_
    rw [show (((7435674573564081700 : Int64).toUInt64 >>> ((37 : Int32) &&& 0x3f).toInt64.toUInt64).toInt64) = (54101653 : Int64) from by decide]
    show Steps p.tables e below (T7.setTop (mkF m 87 (LS_JsJsJsJsJsJsJsR (36028797018963967 : Int64) (-5044313057631688021 : Int64) (2210141511517208575 : Int64) (7435674573564081700 : Int64) (7239337960414712511 : Int64) (5412103778470702295 : Int64) (1873798617647539866 : Int64) b1) [(.long (54101653 : Int64)), (.int (3 : Int32)), (.ref b1)])) _
    refine XS.lload X7.here hx rfl (hb hby d1_87) rfl ?_
    show Steps p.tables e below (T7.setTop (mkF m 89 (LS_JsJsJsJsJsJsJsR (36028797018963967 : Int64) (-5044313057631688021 : Int64) (2210141511517208575 : Int64) (7435674573564081700 : Int64) (7239337960414712511 : Int64) (5412103778470702295 : Int64) (1873798617647539866 : Int64) b1) [(.long (7239337960414712511 : Int64)), (.long (54101653 : Int64)), (.int (3 : Int32)), (.ref b1)])) _
    refine XS.bipush X7.here hx rfl (hb hby d1_89) ?_
    show Steps p.tables e below (T7.setTop (mkF m 91 (LS_JsJsJsJsJsJsJsR (36028797018963967 : Int64) (-5044313057631688021 : Int64) (2210141511517208575 : Int64) (7435674573564081700 : Int64) (7239337960414712511 : Int64) (5412103778470702295 : Int64) (1873798617647539866 : Int64) b1) [(.int (27 : Int32)), (.long (7239337960414712511 : Int64)), (.long (54101653 : Int64)), (.int (3 : Int32)), (.ref b1)])) _
    refine XS.lshl X7.here hx rfl (hb hby d1_91) rfl ?_
    rw [show ((7239337960414712511 : Int64) <<< ((27 : Int32) &&& 0x3f).toInt64) = (2854200888422039552 : Int64) from by decide]
    show Steps p.tables e below (T7.setTop (mkF m 92 (LS_JsJsJsJsJsJsJsR (36028797018963967 : Int64) (-5044313057631688021 : Int64) (2210141511517208575 : Int64) (7435674573564081700 : Int64) (7239337960414712511 : Int64) (5412103778470702295 : Int64) (1873798617647539866 : Int64) b1) [(.long (2854200888422039552 : Int64)), (.long (54101653 : Int64)), (.int (3 : Int32)), (.ref b1)])) _
    refine XS.lor X7.here hx rfl (hb hby d1_92) rfl ?_
    rw [show ((54101653 : Int64) ||| (2854200888422039552 : Int64)) = (2854200888476141205 : Int64) from by decide]
    show Steps p.tables e below (T7.setTop (mkF m 93 (LS_JsJsJsJsJsJsJsR (36028797018963967 : Int64) (-5044313057631688021 : Int64) (2210141511517208575 : Int64) (7435674573564081700 : Int64) (7239337960414712511 : Int64) (5412103778470702295 : Int64) (1873798617647539866 : Int64) b1) [(.long (2854200888476141205 : Int64)), (.int (3 : Int32)), (.ref b1)])) _
    refine XS.lloadN X7.here hx rfl (hb hby d1_93) rfl ?_
    show Steps p.tables e below (T7.setTop (mkF m 94 (LS_JsJsJsJsJsJsJsR (36028797018963967 : Int64) (-5044313057631688021 : Int64) (2210141511517208575 : Int64) (7435674573564081700 : Int64) (7239337960414712511 : Int64) (5412103778470702295 : Int64) (1873798617647539866 : Int64) b1) [(.long (36028797018963967 : Int64)), (.long (2854200888476141205 : Int64)), (.int (3 : Int32)), (.ref b1)])) _
    refine XS.land X7.here hx rfl (hb hby d1_94) rfl ?_
    rw [show ((2854200888476141205 : Int64) &&& (36028797018963967 : Int64)) = (7925923977987733 : Int64) from by decide]
    exact k
  obtain ⟨cl8, Ar8, qa8, Sa8, Na8, Ha8, Ga8⟩ := id V7
  have hin9 : ¬ ((3 : Int32) < 0 ∨ cl8.slots.size ≤ ((3 : Int32)).toNatClampNeg) := inb_of Sa8 ⟨by decide, by decide⟩
  obtain ⟨T9, h9, X9, e9, W9, st9⟩ := stJ X7 hx hZ e7 Ar8 (j := (3 : Int32)) hin9 (g := (mkF m 95 (LS_JsJsJsJsJsJsJsR (36028797018963967 : Int64) (-5044313057631688021 : Int64) (2210141511517208575 : Int64) (7435674573564081700 : Int64) (7239337960414712511 : Int64) (5412103778470702295 : Int64) (1873798617647539866 : Int64) b1) [(.long (7925923977987733 : Int64)), (.int (3 : Int32)), (.ref b1)])) rfl rfl (hb hby d1_95)
  have N9 := Fr.snoc X9 N7 g_b1
  have V9 : Arv Z h9 b1 k1 .long (7 : Int32) [(.long (35747322042231467 : Int64)), (.long (36025922209447795 : Int64)), (.long (1084959616957103 : Int64)), (.long (7925923977987733 : Int64)), (.long (0 : Int64)), (.long (0 : Int64)), (.long (0 : Int64))] (.long (0 : Int64)) := Arv.set Ar8 qa8 Sa8 Na8 Ha8 Ga8 rfl W9 3 rfl (Nat.le_of_ble_eq_true rfl)
  refine own_go (B := T9.setTop (mkF m 96 (LS_JsJsJsJsJsJsJsR (36028797018963967 : Int64) (-5044313057631688021 : Int64) (2210141511517208575 : Int64) (7435674573564081700 : Int64) (7239337960414712511 : Int64) (5412103778470702295 : Int64) (1873798617647539866 : Int64) b1) [])) (fun t k => st9 _ k) ?_
  refine own_go (B := T9.setTop (mkF m 112 (LS_JsJsJsJsJsJsJsR (36028797018963967 : Int64) (-5044313057631688021 : Int64) (2210141511517208575 : Int64) (7435674573564081700 : Int64) (7239337960414712511 : Int64) (5412103778470702295 : Int64) (1873798617647539866 : Int64) b1) [(.long (16551456537884751 : Int64)), (.int (4 : Int32)), (.ref b1)])) (fun t k => ?_) ?_
  · show Steps p.tables e below (T9.setTop (mkF m 96 (LS_JsJsJsJsJsJsJsR (36028797018963967 : Int64) (-5044313057631688021 : Int64) (2210141511517208575 : Int64) (7435674573564081700 : Int64) (7239337960414712511 : Int64) (5412103778470702295 : Int64) (1873798617647539866 : Int64) b1) [])) _
    refine XS.aload X9.here hx rfl (hb hby d1_96) rfl rfl ?_
    show Steps p.tables e below (T9.setTop (mkF m 98 (LS_JsJsJsJsJsJsJsR (36028797018963967 : Int64) (-5044313057631688021 : Int64) (2210141511517208575 : Int64) (7435674573564081700 : Int64) (7239337960414712511 : Int64) (5412103778470702295 : Int64) (1873798617647539866 : Int64) b1) [(.ref b1)])) _
    refine XS.iconst X9.here hx rfl (hb hby d1_98) ?_
    show Steps p.tables e below (T9.setTop (mkF m 99 (LS_JsJsJsJsJsJsJsR (36028797018963967 : Int64) (-5044313057631688021 : Int64) (2210141511517208575 : Int64) (7435674573564081700 : Int64) (7239337960414712511 : Int64) (5412103778470702295 : Int64) (1873798617647539866 : Int64) b1) [(.int (4 : Int32)), (.ref b1)])) _
    refine XS.lload X9.here hx rfl (hb hby d1_99) rfl ?_
    show Steps p.tables e below (T9.setTop (mkF m 101 (LS_JsJsJsJsJsJsJsR (36028797018963967 : Int64) (-5044313057631688021 : Int64) (2210141511517208575 : Int64) (7435674573564081700 : Int64) (7239337960414712511 : Int64) (5412103778470702295 : Int64) (1873798617647539866 : Int64) b1) [(.long (7239337960414712511 : Int64)), (.int (4 : Int32)), (.ref b1)])) _
    refine XS.bipush X9.here hx rfl (hb hby d1_101) ?_
    show Steps p.tables e below (T9.setTop (mkF m 103 (LS_JsJsJsJsJsJsJsR (36028797018963967 : Int64) (-5044313057631688021 : Int64) (2210141511517208575 : Int64) (7435674573564081700 : Int64) (7239337960414712511 : Int64) (5412103778470702295 : Int64) (1873798617647539866 : Int64) b1) [(.int (28 : Int32)), (.long (7239337960414712511 : Int64)), (.int (4 : Int32)), (.ref b1)])) _
    refine XS.lushr X9.here hx rfl (hb hby d1_103) rfl ?_
    rw [show (((7239337960414712511 : Int64).toUInt64 >>> ((28 : Int32) &&& 0x3f).toInt64.toUInt64).toInt64) = (26968635471 : Int64) from by decide]
    show Steps p.tables e below (T9.setTop (mkF m 104 (LS_JsJsJsJsJsJsJsR (36028797018963967 : Int64) (-5044313057631688021 : Int64) (2210141511517208575 : Int64) (7435674573564081700 : Int64) (7239337960414712511 : Int64) (5412103778470702295 : Int64) (1873798617647539866 : Int64) b1) [(.long (26968635471 : Int64)), (.int (4 : Int32)), (.ref b1)])) _
    refine XS.lload X9.here hx rfl (hb hby d1_104) rfl ?_
    show Steps p.tables e below (T9.setTop (mkF m 106 (LS_JsJsJsJsJsJsJsR (36028797018963967 : Int64) (-5044313057631688021 : Int64) (2210141511517208575 : Int64) (7435674573564081700 : Int64) (7239337960414712511 : Int64) (5412103778470702295 : Int64) (1873798617647539866 : Int64) b1) [(.long (5412103778470702295 : Int64)), (.long (26968635471 : Int64)), (.int (4 : Int32)), (.ref b1)])) _
    refine XS.bipush X9.here hx rfl (hb hby d1_106) ?_
    show Steps p.tables e below (T9.setTop (mkF m 108 (LS_JsJsJsJsJsJsJsR (36028797018963967 : Int64) (-5044313057631688021 : Int64) (2210141511517208575 : Int64) (7435674573564081700 : Int64) (7239337960414712511 : Int64) (5412103778470702295 : Int64) (1873798617647539866 : Int64) b1) [(.int (36 : Int32)), (.long (5412103778470702295 : Int64)), (.long (26968635471 : Int64)), (.int (4 : Int32)), (.ref b1)])) _
    refine XS.lshl X9.here hx rfl (hb hby d1_108) rfl ?_
    rw [show ((5412103778470702295 : Int64) <<< ((36 : Int32) &&& 0x3f).toInt64) = (3799575116560465920 : Int64) from by decide]
    show Steps p.tables e below (T9.setTop (mkF m 109 (LS_JsJsJsJsJsJsJsR (36028797018963967 : Int64) (-5044313057631688021 : Int64) (2210141511517208575 : Int64) (7435674573564081700 : Int64) (7239337960414712511 : Int64) (5412103778470702295 : Int64) (1873798617647539866 : Int64) b1) [(.long (3799575116560465920 : Int64)), (.long (26968635471 : Int64)), (.int (4 : Int32)), (.ref b1)])) _
    refine XS.lor X9.here hx rfl (hb hby d1_109) rfl ?_
    rw [show ((26968635471 : Int64) ||| (3799575116560465920 : Int64)) = (3799575143529101391 : Int64) from by decide]
    show Steps p.tables e below (T9.setTop (mkF m 110 (LS_JsJsJsJsJsJsJsR (36028797018963967 : Int64) (-5044313057631688021 : Int64) (2210141511517208575 : Int64) (7435674573564081700 : Int64) (7239337960414712511 : Int64) (5412103778470702295 : Int64) (1873798617647539866 : Int64) b1) [(.long (3799575143529101391 : Int64)), (.int (4 : Int32)), (.ref b1)])) _
    refine XS.lloadN X9.here hx rfl (hb hby d1_110) rfl ?_
    show Steps p.tables e below (T9.setTop (mkF m 111 (LS_JsJsJsJsJsJsJsR (36028797018963967 : Int64) (-5044313057631688021 : Int64) (2210141511517208575 : Int64) (7435674573564081700 : Int64) (7239337960414712511 : Int64) (5412103778470702295 : Int64) (1873798617647539866 : Int64) b1) [(.long (36028797018963967 : Int64)), (.long (3799575143529101391 : Int64)), (.int (4 : Int32)), (.ref b1)])) _
    refine XS.land X9.here hx rfl (hb hby d1_111) rfl ?_
    rw [show ((3799575143529101391 : Int64) &&& (36028797018963967 : Int64)) = (16551456537884751 : Int64) from by decide]
    exact k
  obtain ⟨cl10, Ar10, qa10, Sa10, Na10, Ha10, Ga10⟩ := id V9
  have hin11 : ¬ ((4 : Int32) < 0 ∨ cl10.slots.size ≤ ((4 : Int32)).toNatClampNeg) := inb_of Sa10 ⟨by decide, by decide⟩
  obtain ⟨T11, h11, X11, e11, W11, st11⟩ := stJ X9 hx hZ e9 Ar10 (j := (4 : Int32)) hin11 (g := (mkF m 112 (LS_JsJsJsJsJsJsJsR (36028797018963967 : Int64) (-5044313057631688021 : Int64) (2210141511517208575 : Int64) (7435674573564081700 : Int64) (7239337960414712511 : Int64) (5412103778470702295 : Int64) (1873798617647539866 : Int64) b1) [(.long (16551456537884751 : Int64)), (.int (4 : Int32)), (.ref b1)])) rfl rfl (hb hby d1_112)
  have N11 := Fr.snoc X11 N9 g_b1
  have V11 : Arv Z h11 b1 k1 .long (7 : Int32) [(.long (35747322042231467 : Int64)), (.long (36025922209447795 : Int64)), (.long (1084959616957103 : Int64)), (.long (7925923977987733 : Int64)), (.long (16551456537884751 : Int64)), (.long (0 : Int64)), (.long (0 : Int64))] (.long (0 : Int64)) := Arv.set Ar10 qa10 Sa10 Na10 Ha10 Ga10 rfl W11 4 rfl (Nat.le_of_ble_eq_true rfl)
  refine own_go (B := T11.setTop (mkF m 113 (LS_JsJsJsJsJsJsJsR (36028797018963967 : Int64) (-5044313057631688021 : Int64) (2210141511517208575 : Int64) (7435674573564081700 : Int64) (7239337960414712511 : Int64) (5412103778470702295 : Int64) (1873798617647539866 : Int64) b1) [])) (fun t k => st11 _ k) ?_
  refine own_go (B := T11.setTop (mkF m 129 (LS_JsJsJsJsJsJsJsR (36028797018963967 : Int64) (-5044313057631688021 : Int64) (2210141511517208575 : Int64) (7435674573564081700 : Int64) (7239337960414712511 : Int64) (5412103778470702295 : Int64) (1873798617647539866 : Int64) b1) [(.long (23443114579904617 : Int64)), (.int (5 : Int32)), (.ref b1)])) (fun t k => ?_) ?_
  · show Steps p.tables e below (T11.setTop (mkF m 113 (LS_JsJsJsJsJsJsJsR (36028797018963967 : Int64) (-5044313057631688021 : Int64) (2210141511517208575 : Int64) (7435674573564081700 : Int64) (7239337960414712511 : Int64) (5412103778470702295 : Int64) (1873798617647539866 : Int64) b1) [])) _
    refine XS.aload X11.here hx rfl (hb hby d1_113) rfl rfl ?_
    show Steps p.tables e below (T11.setTop (mkF m 115 (LS_JsJsJsJsJsJsJsR (36028797018963967 : Int64) (-5044313057631688021 : Int64) (2210141511517208575 : Int64) (7435674573564081700 : Int64) (7239337960414712511 : Int64) (5412103778470702295 : Int64) (1873798617647539866 : Int64) b1) [(.ref b1)])) _
    refine XS.iconst X11.here hx rfl (hb hby d1_115) ?_
    show Steps p.tables e below (T11.setTop (mkF m 116 (LS_JsJsJsJsJsJsJsR (36028797018963967 : Int64) (-5044313057631688021 : Int64) (2210141511517208575 : Int64) (7435674573564081700 : Int64) (7239337960414712511 : Int64) (5412103778470702295 : Int64) (1873798617647539866 : Int64) b1) [(.int (5 : Int32)), (.ref b1)])) _
    refine XS.lload X11.here hx rfl (hb hby d1_116) rfl ?_
    show Steps p.tables e below (T11.setTop (mkF m 118 (LS_JsJsJsJsJsJsJsR (36028797018963967 : Int64) (-5044313057631688021 : Int64) (2210141511517208575 : Int64) (7435674573564081700 : Int64) (7239337960414712511 : Int64) (5412103778470702295 : Int64) (1873798617647539866 : Int64) b1) [(.long (5412103778470702295 : Int64)), (.int (5 : Int32)), (.ref b1)])) _
    refine XS.bipush X11.here hx rfl (hb hby d1_118) ?_
    show Steps p.tables e below (T11.setTop (mkF m 120 (LS_JsJsJsJsJsJsJsR (36028797018963967 : Int64) (-5044313057631688021 : Int64) (2210141511517208575 : Int64) (7435674573564081700 : Int64) (7239337960414712511 : Int64) (5412103778470702295 : Int64) (1873798617647539866 : Int64) b1) [(.int (19 : Int32)), (.long (5412103778470702295 : Int64)), (.int (5 : Int32)), (.ref b1)])) _
    refine XS.lushr X11.here hx rfl (hb hby d1_120) rfl ?_
    rw [show (((5412103778470702295 : Int64).toUInt64 >>> ((19 : Int32) &&& 0x3f).toInt64.toUInt64).toInt64) = (10322768742505 : Int64) from by decide]
    show Steps p.tables e below (T11.setTop (mkF m 121 (LS_JsJsJsJsJsJsJsR (36028797018963967 : Int64) (-5044313057631688021 : Int64) (2210141511517208575 : Int64) (7435674573564081700 : Int64) (7239337960414712511 : Int64) (5412103778470702295 : Int64) (1873798617647539866 : Int64) b1) [(.long (10322768742505 : Int64)), (.int (5 : Int32)), (.ref b1)])) _
    refine XS.lload X11.here hx rfl (hb hby d1_121) rfl ?_
    show Steps p.tables e below (T11.setTop (mkF m 123 (LS_JsJsJsJsJsJsJsR (36028797018963967 : Int64) (-5044313057631688021 : Int64) (2210141511517208575 : Int64) (7435674573564081700 : Int64) (7239337960414712511 : Int64) (5412103778470702295 : Int64) (1873798617647539866 : Int64) b1) [(.long (1873798617647539866 : Int64)), (.long (10322768742505 : Int64)), (.int (5 : Int32)), (.ref b1)])) _
    refine XS.bipush X11.here hx rfl (hb hby d1_123) ?_
    show Steps p.tables e below (T11.setTop (mkF m 125 (LS_JsJsJsJsJsJsJsR (36028797018963967 : Int64) (-5044313057631688021 : Int64) (2210141511517208575 : Int64) (7435674573564081700 : Int64) (7239337960414712511 : Int64) (5412103778470702295 : Int64) (1873798617647539866 : Int64) b1) [(.int (45 : Int32)), (.long (1873798617647539866 : Int64)), (.long (10322768742505 : Int64)), (.int (5 : Int32)), (.ref b1)])) _
    refine XS.lshl X11.here hx rfl (hb hby d1_125) rfl ?_
    rw [show ((1873798617647539866 : Int64) <<< ((45 : Int32) &&& 0x3f).toInt64) = (-228768787321585664 : Int64) from by decide]
    show Steps p.tables e below (T11.setTop (mkF m 126 (LS_JsJsJsJsJsJsJsR (36028797018963967 : Int64) (-5044313057631688021 : Int64) (2210141511517208575 : Int64) (7435674573564081700 : Int64) (7239337960414712511 : Int64) (5412103778470702295 : Int64) (1873798617647539866 : Int64) b1) [(.long (-228768787321585664 : Int64)), (.long (10322768742505 : Int64)), (.int (5 : Int32)), (.ref b1)])) _
    refine XS.lor X11.here hx rfl (hb hby d1_126) rfl ?_
    rw [show ((10322768742505 : Int64) ||| (-228768787321585664 : Int64)) = (-228758464552843159 : Int64) from by decide]
    show Steps p.tables e below (T11.setTop (mkF m 127 (LS_JsJsJsJsJsJsJsR (36028797018963967 : Int64) (-5044313057631688021 : Int64) (2210141511517208575 : Int64) (7435674573564081700 : Int64) (7239337960414712511 : Int64) (5412103778470702295 : Int64) (1873798617647539866 : Int64) b1) [(.long (-228758464552843159 : Int64)), (.int (5 : Int32)), (.ref b1)])) _
    refine XS.lloadN X11.here hx rfl (hb hby d1_127) rfl ?_
    show Steps p.tables e below (T11.setTop (mkF m 128 (LS_JsJsJsJsJsJsJsR (36028797018963967 : Int64) (-5044313057631688021 : Int64) (2210141511517208575 : Int64) (7435674573564081700 : Int64) (7239337960414712511 : Int64) (5412103778470702295 : Int64) (1873798617647539866 : Int64) b1) [(.long (36028797018963967 : Int64)), (.long (-228758464552843159 : Int64)), (.int (5 : Int32)), (.ref b1)])) _
    refine XS.land X11.here hx rfl (hb hby d1_128) rfl ?_
    rw [show ((-228758464552843159 : Int64) &&& (36028797018963967 : Int64)) = (23443114579904617 : Int64) from by decide]
    exact k
  obtain ⟨cl12, Ar12, qa12, Sa12, Na12, Ha12, Ga12⟩ := id V11
  have hin13 : ¬ ((5 : Int32) < 0 ∨ cl12.slots.size ≤ ((5 : Int32)).toNatClampNeg) := inb_of Sa12 ⟨by decide, by decide⟩
  obtain ⟨T13, h13, X13, e13, W13, st13⟩ := stJ X11 hx hZ e11 Ar12 (j := (5 : Int32)) hin13 (g := (mkF m 129 (LS_JsJsJsJsJsJsJsR (36028797018963967 : Int64) (-5044313057631688021 : Int64) (2210141511517208575 : Int64) (7435674573564081700 : Int64) (7239337960414712511 : Int64) (5412103778470702295 : Int64) (1873798617647539866 : Int64) b1) [(.long (23443114579904617 : Int64)), (.int (5 : Int32)), (.ref b1)])) rfl rfl (hb hby d1_129)
  have N13 := Fr.snoc X13 N11 g_b1
  have V13 : Arv Z h13 b1 k1 .long (7 : Int32) [(.long (35747322042231467 : Int64)), (.long (36025922209447795 : Int64)), (.long (1084959616957103 : Int64)), (.long (7925923977987733 : Int64)), (.long (16551456537884751 : Int64)), (.long (23443114579904617 : Int64)), (.long (0 : Int64))] (.long (0 : Int64)) := Arv.set Ar12 qa12 Sa12 Na12 Ha12 Ga12 rfl W13 5 rfl (Nat.le_of_ble_eq_true rfl)
  refine own_go (B := T13.setTop (mkF m 130 (LS_JsJsJsJsJsJsJsR (36028797018963967 : Int64) (-5044313057631688021 : Int64) (2210141511517208575 : Int64) (7435674573564081700 : Int64) (7239337960414712511 : Int64) (5412103778470702295 : Int64) (1873798617647539866 : Int64) b1) [])) (fun t k => st13 _ k) ?_
  refine own_go (B := T13.setTop (mkF m 139 (LS_JsJsJsJsJsJsJsR (36028797018963967 : Int64) (-5044313057631688021 : Int64) (2210141511517208575 : Int64) (7435674573564081700 : Int64) (7239337960414712511 : Int64) (5412103778470702295 : Int64) (1873798617647539866 : Int64) b1) [(.long (1829881462546425 : Int64)), (.int (6 : Int32)), (.ref b1)])) (fun t k => ?_) ?_
  · show Steps p.tables e below (T13.setTop (mkF m 130 (LS_JsJsJsJsJsJsJsR (36028797018963967 : Int64) (-5044313057631688021 : Int64) (2210141511517208575 : Int64) (7435674573564081700 : Int64) (7239337960414712511 : Int64) (5412103778470702295 : Int64) (1873798617647539866 : Int64) b1) [])) _
    refine XS.aload X13.here hx rfl (hb hby d1_130) rfl rfl ?_
    show Steps p.tables e below (T13.setTop (mkF m 132 (LS_JsJsJsJsJsJsJsR (36028797018963967 : Int64) (-5044313057631688021 : Int64) (2210141511517208575 : Int64) (7435674573564081700 : Int64) (7239337960414712511 : Int64) (5412103778470702295 : Int64) (1873798617647539866 : Int64) b1) [(.ref b1)])) _
    refine XS.bipush X13.here hx rfl (hb hby d1_132) ?_
    show Steps p.tables e below (T13.setTop (mkF m 134 (LS_JsJsJsJsJsJsJsR (36028797018963967 : Int64) (-5044313057631688021 : Int64) (2210141511517208575 : Int64) (7435674573564081700 : Int64) (7239337960414712511 : Int64) (5412103778470702295 : Int64) (1873798617647539866 : Int64) b1) [(.int (6 : Int32)), (.ref b1)])) _
    refine XS.lload X13.here hx rfl (hb hby d1_134) rfl ?_
    show Steps p.tables e below (T13.setTop (mkF m 136 (LS_JsJsJsJsJsJsJsR (36028797018963967 : Int64) (-5044313057631688021 : Int64) (2210141511517208575 : Int64) (7435674573564081700 : Int64) (7239337960414712511 : Int64) (5412103778470702295 : Int64) (1873798617647539866 : Int64) b1) [(.long (1873798617647539866 : Int64)), (.int (6 : Int32)), (.ref b1)])) _
    refine XS.bipush X13.here hx rfl (hb hby d1_136) ?_
    show Steps p.tables e below (T13.setTop (mkF m 138 (LS_JsJsJsJsJsJsJsR (36028797018963967 : Int64) (-5044313057631688021 : Int64) (2210141511517208575 : Int64) (7435674573564081700 : Int64) (7239337960414712511 : Int64) (5412103778470702295 : Int64) (1873798617647539866 : Int64) b1) [(.int (10 : Int32)), (.long (1873798617647539866 : Int64)), (.int (6 : Int32)), (.ref b1)])) _
    refine XS.lushr X13.here hx rfl (hb hby d1_138) rfl ?_
    rw [show (((1873798617647539866 : Int64).toUInt64 >>> ((10 : Int32) &&& 0x3f).toInt64.toUInt64).toInt64) = (1829881462546425 : Int64) from by decide]
    exact k
  obtain ⟨cl14, Ar14, qa14, Sa14, Na14, Ha14, Ga14⟩ := id V13
  have hin15 : ¬ ((6 : Int32) < 0 ∨ cl14.slots.size ≤ ((6 : Int32)).toNatClampNeg) := inb_of Sa14 ⟨by decide, by decide⟩
  obtain ⟨T15, h15, X15, e15, W15, st15⟩ := stJ X13 hx hZ e13 Ar14 (j := (6 : Int32)) hin15 (g := (mkF m 139 (LS_JsJsJsJsJsJsJsR (36028797018963967 : Int64) (-5044313057631688021 : Int64) (2210141511517208575 : Int64) (7435674573564081700 : Int64) (7239337960414712511 : Int64) (5412103778470702295 : Int64) (1873798617647539866 : Int64) b1) [(.long (1829881462546425 : Int64)), (.int (6 : Int32)), (.ref b1)])) rfl rfl (hb hby d1_139)
  have N15 := Fr.snoc X15 N13 g_b1
  have V15 : Arv Z h15 b1 k1 .long (7 : Int32) [(.long (35747322042231467 : Int64)), (.long (36025922209447795 : Int64)), (.long (1084959616957103 : Int64)), (.long (7925923977987733 : Int64)), (.long (16551456537884751 : Int64)), (.long (23443114579904617 : Int64)), (.long (1829881462546425 : Int64))] (.long (0 : Int64)) := Arv.set Ar14 qa14 Sa14 Na14 Ha14 Ga14 rfl W15 6 rfl (Nat.le_of_ble_eq_true rfl)
  refine own_go (B := T15.setTop (mkF m 140 (LS_JsJsJsJsJsJsJsR (36028797018963967 : Int64) (-5044313057631688021 : Int64) (2210141511517208575 : Int64) (7435674573564081700 : Int64) (7239337960414712511 : Int64) (5412103778470702295 : Int64) (1873798617647539866 : Int64) b1) [])) (fun t k => st15 _ k) ?_
  refine own_go (B := T15.setTop (mkF m 142 (LS_JsJsJsJsJsJsJsR (36028797018963967 : Int64) (-5044313057631688021 : Int64) (2210141511517208575 : Int64) (7435674573564081700 : Int64) (7239337960414712511 : Int64) (5412103778470702295 : Int64) (1873798617647539866 : Int64) b1) [(.ref b1)])) (fun t k => ?_) ?_
  · show Steps p.tables e below (T15.setTop (mkF m 140 (LS_JsJsJsJsJsJsJsR (36028797018963967 : Int64) (-5044313057631688021 : Int64) (2210141511517208575 : Int64) (7435674573564081700 : Int64) (7239337960414712511 : Int64) (5412103778470702295 : Int64) (1873798617647539866 : Int64) b1) [])) _
    refine XS.aload X15.here hx rfl (hb hby d1_140) rfl rfl ?_
    exact k
  obtain ⟨fs, hr, hrun, hended, hW, hsame⟩ := X15.leave (v := some (.ref b1)) (fun h => by rw [Bd.returns] at h; cases h)
  refine ⟨_, _, ?_, hrun, hended, _, _, rfl, ?_, ⟨_, rfl⟩, hW, hsame.mono (by decide) (by decide)⟩
  · show Steps p.tables e below (T15.setTop (mkF m 142 (LS_JsJsJsJsJsJsJsR (36028797018963967 : Int64) (-5044313057631688021 : Int64) (2210141511517208575 : Int64) (7435674573564081700 : Int64) (7239337960414712511 : Int64) (5412103778470702295 : Int64) (1873798617647539866 : Int64) b1) [(.ref b1)])) _
    exact retOut X15 hx Bd.returns rfl (Or.inr (Or.inr (Or.inr (Or.inr ⟨rfl, rfl, rfl⟩)))) (hb hby d1_142) hr
  · show Q1 Z  h0 n0 _ T15.heap _
    rw [e15]
    have K0_v16 := K0.ext E1
    have K0_v17 := K0_v16.wr W3 (Or.inr sz_b1)
    have K0_v18 := K0_v17.wr W5 (Or.inr sz_b1)
    have K0_v19 := K0_v18.wr W7 (Or.inr sz_b1)
    have K0_v20 := K0_v19.wr W9 (Or.inr sz_b1)
    have K0_v21 := K0_v20.wr W11 (Or.inr sz_b1)
    have K0_v22 := K0_v21.wr W13 (Or.inr sz_b1)
    have K0_v23 := K0_v22.wr W15 (Or.inr sz_b1)
    exact ⟨b1, k1, rfl, N15, sz_b1, K0_v23, V15⟩
theorem own_mrng (x : Int64) : 0 ≤ ((x &&& (36028797018963967 : Int64))).toInt ∧ ((x &&& (36028797018963967 : Int64))).toInt < 36028797018963968 := by
  have := own_mask x
  omega
theorem own_zrng : 0 ≤ ((0 : Int64)).toInt ∧ ((0 : Int64)).toInt < 36028797018963968 := by decide
theorem ef_5 (m : MethodId) (r0 : Addr) (r1 : Addr) : entryFrame m #[(.ref r0), (.ref r1)] 7 = mkF m 0 #[.val (.ref r0), .val (.ref r1), .unset, .unset, .unset, .unset, .unset] [] := by first | (simp [entryFrame, mkF, argsToLocals, Value.category]; done) | rfl
theorem pn_5 : plainName "com/example/barred_rows/barredrows/crypto/FpIsZeroPinLaw" = true := by first | (simp [plainName, overriddenIn]; done) | decide +kernel
abbrev LS_RRuuuuu (a0 : Addr) (a1 : Addr) : Array Slot := #[.val (.ref a0), .val (.ref a1), .unset, .unset, .unset, .unset, .unset]
theorem d5_0 : decode method_3_code 0 = .ok (.ldc2_w 7, 3) := by decide +kernel
theorem d5_3 : decode method_3_code 3 = .ok (.lstore_n 2, 1) := by decide +kernel
abbrev LS_RRJsuuu (a0 : Addr) (a1 : Addr) (a2 : Int64) : Array Slot := #[.val (.ref a0), .val (.ref a1), .val (.long a2), .second, .unset, .unset, .unset]
theorem d5_4 : decode method_3_code 4 = .ok (.bipush 7, 2) := by decide +kernel
theorem d5_6 : decode method_3_code 6 = .ok (.newarray .long, 2) := by decide +kernel
theorem d5_8 : decode method_3_code 8 = .ok (.astore 4, 2) := by decide +kernel
abbrev LS_RRJsRuu (a0 : Addr) (a1 : Addr) (a2 : Int64) (a3 : Addr) : Array Slot := #[.val (.ref a0), .val (.ref a1), .val (.long a2), .second, .val (.ref a3), .unset, .unset]
theorem d5_10 : decode method_3_code 10 = .ok (.aload_n 0, 1) := by decide +kernel
theorem d5_11 : decode method_3_code 11 = .ok (.iconst 0, 1) := by decide +kernel
theorem d5_12 : decode method_3_code 12 = .ok (.laload, 1) := by decide +kernel
theorem d5_13 : decode method_3_code 13 = .ok (.aload_n 1, 1) := by decide +kernel
theorem d5_14 : decode method_3_code 14 = .ok (.iconst 0, 1) := by decide +kernel
theorem d5_15 : decode method_3_code 15 = .ok (.laload, 1) := by decide +kernel
theorem d5_16 : decode method_3_code 16 = .ok (.ladd, 1) := by decide +kernel
theorem d5_17 : decode method_3_code 17 = .ok (.lstore 5, 2) := by decide +kernel
abbrev LS_RRJsRJs (a0 : Addr) (a1 : Addr) (a2 : Int64) (a3 : Addr) (a4 : Int64) : Array Slot := #[.val (.ref a0), .val (.ref a1), .val (.long a2), .second, .val (.ref a3), .val (.long a4), .second]
theorem d5_19 : decode method_3_code 19 = .ok (.aload 4, 2) := by decide +kernel
theorem d5_21 : decode method_3_code 21 = .ok (.iconst 0, 1) := by decide +kernel
theorem d5_22 : decode method_3_code 22 = .ok (.lload 5, 2) := by decide +kernel
theorem d5_24 : decode method_3_code 24 = .ok (.lload_n 2, 1) := by decide +kernel
theorem d5_25 : decode method_3_code 25 = .ok (.land, 1) := by decide +kernel
theorem d5_26 : decode method_3_code 26 = .ok (.lastore, 1) := by decide +kernel
theorem d5_27 : decode method_3_code 27 = .ok (.aload_n 0, 1) := by decide +kernel
theorem d5_28 : decode method_3_code 28 = .ok (.iconst 1, 1) := by decide +kernel
theorem d5_29 : decode method_3_code 29 = .ok (.laload, 1) := by decide +kernel
theorem d5_30 : decode method_3_code 30 = .ok (.aload_n 1, 1) := by decide +kernel
theorem d5_31 : decode method_3_code 31 = .ok (.iconst 1, 1) := by decide +kernel
theorem d5_32 : decode method_3_code 32 = .ok (.laload, 1) := by decide +kernel
theorem d5_33 : decode method_3_code 33 = .ok (.ladd, 1) := by decide +kernel
theorem d5_34 : decode method_3_code 34 = .ok (.lload 5, 2) := by decide +kernel
theorem d5_36 : decode method_3_code 36 = .ok (.bipush 55, 2) := by decide +kernel
theorem d5_38 : decode method_3_code 38 = .ok (.lushr, 1) := by decide +kernel
theorem d5_39 : decode method_3_code 39 = .ok (.ladd, 1) := by decide +kernel
theorem d5_40 : decode method_3_code 40 = .ok (.lstore 5, 2) := by decide +kernel
theorem d5_42 : decode method_3_code 42 = .ok (.aload 4, 2) := by decide +kernel
theorem d5_44 : decode method_3_code 44 = .ok (.iconst 1, 1) := by decide +kernel
theorem d5_45 : decode method_3_code 45 = .ok (.lload 5, 2) := by decide +kernel
theorem d5_47 : decode method_3_code 47 = .ok (.lload_n 2, 1) := by decide +kernel
theorem d5_48 : decode method_3_code 48 = .ok (.land, 1) := by decide +kernel
theorem d5_49 : decode method_3_code 49 = .ok (.lastore, 1) := by decide +kernel
theorem d5_50 : decode method_3_code 50 = .ok (.aload_n 0, 1) := by decide +kernel
theorem d5_51 : decode method_3_code 51 = .ok (.iconst 2, 1) := by decide +kernel
theorem d5_52 : decode method_3_code 52 = .ok (.laload, 1) := by decide +kernel
theorem d5_53 : decode method_3_code 53 = .ok (.aload_n 1, 1) := by decide +kernel
theorem d5_54 : decode method_3_code 54 = .ok (.iconst 2, 1) := by decide +kernel
theorem d5_55 : decode method_3_code 55 = .ok (.laload, 1) := by decide +kernel
theorem d5_56 : decode method_3_code 56 = .ok (.ladd, 1) := by decide +kernel
theorem d5_57 : decode method_3_code 57 = .ok (.lload 5, 2) := by decide +kernel
theorem d5_59 : decode method_3_code 59 = .ok (.bipush 55, 2) := by decide +kernel
theorem d5_61 : decode method_3_code 61 = .ok (.lushr, 1) := by decide +kernel
theorem d5_62 : decode method_3_code 62 = .ok (.ladd, 1) := by decide +kernel
theorem d5_63 : decode method_3_code 63 = .ok (.lstore 5, 2) := by decide +kernel
theorem d5_65 : decode method_3_code 65 = .ok (.aload 4, 2) := by decide +kernel
theorem d5_67 : decode method_3_code 67 = .ok (.iconst 2, 1) := by decide +kernel
theorem d5_68 : decode method_3_code 68 = .ok (.lload 5, 2) := by decide +kernel
theorem d5_70 : decode method_3_code 70 = .ok (.lload_n 2, 1) := by decide +kernel
theorem d5_71 : decode method_3_code 71 = .ok (.land, 1) := by decide +kernel
theorem d5_72 : decode method_3_code 72 = .ok (.lastore, 1) := by decide +kernel
theorem d5_73 : decode method_3_code 73 = .ok (.aload_n 0, 1) := by decide +kernel
theorem d5_74 : decode method_3_code 74 = .ok (.iconst 3, 1) := by decide +kernel
theorem d5_75 : decode method_3_code 75 = .ok (.laload, 1) := by decide +kernel
theorem d5_76 : decode method_3_code 76 = .ok (.aload_n 1, 1) := by decide +kernel
theorem d5_77 : decode method_3_code 77 = .ok (.iconst 3, 1) := by decide +kernel
theorem d5_78 : decode method_3_code 78 = .ok (.laload, 1) := by decide +kernel
theorem d5_79 : decode method_3_code 79 = .ok (.ladd, 1) := by decide +kernel
theorem d5_80 : decode method_3_code 80 = .ok (.lload 5, 2) := by decide +kernel
theorem d5_82 : decode method_3_code 82 = .ok (.bipush 55, 2) := by decide +kernel
theorem d5_84 : decode method_3_code 84 = .ok (.lushr, 1) := by decide +kernel
theorem d5_85 : decode method_3_code 85 = .ok (.ladd, 1) := by decide +kernel
theorem d5_86 : decode method_3_code 86 = .ok (.lstore 5, 2) := by decide +kernel
theorem d5_88 : decode method_3_code 88 = .ok (.aload 4, 2) := by decide +kernel
theorem d5_90 : decode method_3_code 90 = .ok (.iconst 3, 1) := by decide +kernel
theorem d5_91 : decode method_3_code 91 = .ok (.lload 5, 2) := by decide +kernel
theorem d5_93 : decode method_3_code 93 = .ok (.lload_n 2, 1) := by decide +kernel
theorem d5_94 : decode method_3_code 94 = .ok (.land, 1) := by decide +kernel
theorem d5_95 : decode method_3_code 95 = .ok (.lastore, 1) := by decide +kernel
theorem d5_96 : decode method_3_code 96 = .ok (.aload_n 0, 1) := by decide +kernel
theorem d5_97 : decode method_3_code 97 = .ok (.iconst 4, 1) := by decide +kernel
theorem d5_98 : decode method_3_code 98 = .ok (.laload, 1) := by decide +kernel
theorem d5_99 : decode method_3_code 99 = .ok (.aload_n 1, 1) := by decide +kernel
theorem d5_100 : decode method_3_code 100 = .ok (.iconst 4, 1) := by decide +kernel
theorem d5_101 : decode method_3_code 101 = .ok (.laload, 1) := by decide +kernel
theorem d5_102 : decode method_3_code 102 = .ok (.ladd, 1) := by decide +kernel
theorem d5_103 : decode method_3_code 103 = .ok (.lload 5, 2) := by decide +kernel
theorem d5_105 : decode method_3_code 105 = .ok (.bipush 55, 2) := by decide +kernel
theorem d5_107 : decode method_3_code 107 = .ok (.lushr, 1) := by decide +kernel
theorem d5_108 : decode method_3_code 108 = .ok (.ladd, 1) := by decide +kernel
theorem d5_109 : decode method_3_code 109 = .ok (.lstore 5, 2) := by decide +kernel
theorem d5_111 : decode method_3_code 111 = .ok (.aload 4, 2) := by decide +kernel
theorem d5_113 : decode method_3_code 113 = .ok (.iconst 4, 1) := by decide +kernel
theorem d5_114 : decode method_3_code 114 = .ok (.lload 5, 2) := by decide +kernel
theorem d5_116 : decode method_3_code 116 = .ok (.lload_n 2, 1) := by decide +kernel
theorem d5_117 : decode method_3_code 117 = .ok (.land, 1) := by decide +kernel
theorem d5_118 : decode method_3_code 118 = .ok (.lastore, 1) := by decide +kernel
theorem d5_119 : decode method_3_code 119 = .ok (.aload_n 0, 1) := by decide +kernel
theorem d5_120 : decode method_3_code 120 = .ok (.iconst 5, 1) := by decide +kernel
theorem d5_121 : decode method_3_code 121 = .ok (.laload, 1) := by decide +kernel
theorem d5_122 : decode method_3_code 122 = .ok (.aload_n 1, 1) := by decide +kernel
theorem d5_123 : decode method_3_code 123 = .ok (.iconst 5, 1) := by decide +kernel
theorem d5_124 : decode method_3_code 124 = .ok (.laload, 1) := by decide +kernel
theorem d5_125 : decode method_3_code 125 = .ok (.ladd, 1) := by decide +kernel
theorem d5_126 : decode method_3_code 126 = .ok (.lload 5, 2) := by decide +kernel
theorem d5_128 : decode method_3_code 128 = .ok (.bipush 55, 2) := by decide +kernel
theorem d5_130 : decode method_3_code 130 = .ok (.lushr, 1) := by decide +kernel
theorem d5_131 : decode method_3_code 131 = .ok (.ladd, 1) := by decide +kernel
theorem d5_132 : decode method_3_code 132 = .ok (.lstore 5, 2) := by decide +kernel
theorem d5_134 : decode method_3_code 134 = .ok (.aload 4, 2) := by decide +kernel
theorem d5_136 : decode method_3_code 136 = .ok (.iconst 5, 1) := by decide +kernel
theorem d5_137 : decode method_3_code 137 = .ok (.lload 5, 2) := by decide +kernel
theorem d5_139 : decode method_3_code 139 = .ok (.lload_n 2, 1) := by decide +kernel
theorem d5_140 : decode method_3_code 140 = .ok (.land, 1) := by decide +kernel
theorem d5_141 : decode method_3_code 141 = .ok (.lastore, 1) := by decide +kernel
theorem d5_142 : decode method_3_code 142 = .ok (.aload_n 0, 1) := by decide +kernel
theorem d5_143 : decode method_3_code 143 = .ok (.bipush 6, 2) := by decide +kernel
theorem d5_145 : decode method_3_code 145 = .ok (.laload, 1) := by decide +kernel
theorem d5_146 : decode method_3_code 146 = .ok (.aload_n 1, 1) := by decide +kernel
theorem d5_147 : decode method_3_code 147 = .ok (.bipush 6, 2) := by decide +kernel
theorem d5_149 : decode method_3_code 149 = .ok (.laload, 1) := by decide +kernel
theorem d5_150 : decode method_3_code 150 = .ok (.ladd, 1) := by decide +kernel
theorem d5_151 : decode method_3_code 151 = .ok (.lload 5, 2) := by decide +kernel
theorem d5_153 : decode method_3_code 153 = .ok (.bipush 55, 2) := by decide +kernel
theorem d5_155 : decode method_3_code 155 = .ok (.lushr, 1) := by decide +kernel
theorem d5_156 : decode method_3_code 156 = .ok (.ladd, 1) := by decide +kernel
theorem d5_157 : decode method_3_code 157 = .ok (.lstore 5, 2) := by decide +kernel
theorem d5_159 : decode method_3_code 159 = .ok (.aload 4, 2) := by decide +kernel
theorem d5_161 : decode method_3_code 161 = .ok (.bipush 6, 2) := by decide +kernel
theorem d5_163 : decode method_3_code 163 = .ok (.lload 5, 2) := by decide +kernel
theorem d5_165 : decode method_3_code 165 = .ok (.lload_n 2, 1) := by decide +kernel
theorem d5_166 : decode method_3_code 166 = .ok (.land, 1) := by decide +kernel
theorem d5_167 : decode method_3_code 167 = .ok (.lastore, 1) := by decide +kernel
theorem d5_168 : decode method_3_code 168 = .ok (.aload 4, 2) := by decide +kernel
theorem d5_170 : decode method_3_code 170 = .ok (.areturn, 1) := by decide +kernel
def Q5 (Z : State) (r0 : Addr) (r1 : Addr) (kq1 kq2 : ClassId) (x0 x1 x2 x3 x4 x5 x6 y0 y1 y2 y3 y4 y5 y6 : Int64) (h0 : Heap) (n0 : Nat) (v : Option Value) (h : Heap) (L : List Loc) : Prop := ∃ (r : Addr) (k : ClassId) (z0 z1 z2 z3 z4 z5 z6 : Int64), v = some (.ref r) ∧ Fr n0 L ∧ h0.size ≤ r ∧ Keep h0 h [] ∧ Arv Z h r k .long (7 : Int32) [(.long z0), (.long z1), (.long z2), (.long z3), (.long z4), (.long z5), (.long z6)] (.long (0 : Int64)) ∧ (0 ≤ (z0).toInt ∧ (z0).toInt < 36028797018963968) ∧ (0 ≤ (z1).toInt ∧ (z1).toInt < 36028797018963968) ∧ (0 ≤ (z2).toInt ∧ (z2).toInt < 36028797018963968) ∧ (0 ≤ (z3).toInt ∧ (z3).toInt < 36028797018963968) ∧ (0 ≤ (z4).toInt ∧ (z4).toInt < 36028797018963968) ∧ (0 ≤ (z5).toInt ∧ (z5).toInt < 36028797018963968) ∧ (0 ≤ (z6).toInt ∧ (z6).toInt < 36028797018963968)
set_option maxRecDepth 65536 in
set_option maxHeartbeats 40000000 in
theorem rm5 (l : Launch) (Z : State) (a0 : Array Value) (hw : ∀ d ∈ tables_1, d.before a0 Z = true) (ws : List Jvm.Cond) (r0 : Addr) (r1 : Addr) (kq1 kq2 : ClassId) (x0 x1 x2 x3 x4 x5 x6 y0 y1 y2 y3 y4 y5 y6 : Int64) (h0 : Heap) (n0 : Nat) (Z0 : n0 ≤ h0.size) (Vq1 : Arv Z h0 r0 kq1 .long (7 : Int32) [(.long x0), (.long x1), (.long x2), (.long x3), (.long x4), (.long x5), (.long x6)] (.long (0 : Int64))) (Vq2 : Arv Z h0 r1 kq2 .long (7 : Int32) [(.long y0), (.long y1), (.long y2), (.long y3), (.long y4), (.long y5), (.long y6)] (.long (0 : Int64))) :
    MetFree l (⟨"com/example/barred_rows/barredrows/crypto/FpIsZeroPinLaw", "add", "([J[J)[J"⟩ : MethodName) (head1 (Jvm.Cond.code (⟨"com/example/barred_rows/barredrows/crypto/FpIsZeroPinLaw", "add", "([J[J)[J"⟩ : MethodName) method_3_code 7 (some (.array .long)) :: ws) ({ frames := 0, cells := 1, slots := 7, locals := 0 } : Room)) (fun a U => a = #[(.ref r0), (.ref r1)] ∧ Z.Warmed39 U.vm ∧ U.heap = h0) (fun _ _ _ _ _ => True) (fun _ U o U' => ∃ v L, o = .returned v ∧ Q5 Z r0 r1 kq1 kq2 x0 x1 x2 x3 x4 x5 x6 y0 y1 y2 y3 y4 y5 y6 h0 n0 v U'.heap L ∧ FrameEnd U o U' L ({ frames := 0, cells := 1, slots := 7, locals := 0 } : Room).cells ({ frames := 0, cells := 1, slots := 7, locals := 0 } : Room).slots) := by
  refine MetFree.of_bodySF (plainFor_of_name pn_5) hisR ?_
  intro p e s m args below meth c s₁ Bd hml0 hP hK
  obtain ⟨rfl, hZ, hh⟩ := hP
  have hx := Bd.exec
  have hby := Bd.bytes
  have hml : c.maxLocals = 7 := hml0
  have hown : s.vm.findClass "com/example/barred_rows/barredrows/crypto/FpIsZeroPinLaw" = some m.cls := findClass_of_methodNamed Bd.named
  have hnm := (name_of_methodNamed Bd.named Bd.method).1
  have X0 : Stand p l e ({ frames := 0, cells := 1, slots := 7, locals := 0 } : Room) s m #[(.ref r0), (.ref r1)] below meth c s₁ [] 0 0 := Stand.of_body Bd
  have e0 : s₁.heap = h0 := by rw [← hh, Bd.state]; rfl
  have N0 := Fr.nil n0
  refine own_go (B := s₁.setTop (mkF m 0 (LS_RRuuuuu r0 r1) [])) (fun t k => castTop (ef_5 m r0 r1) k) ?_
  have K0 : Keep h0 h0 [] := Keep.refl _ _
  refine own_go (B := s₁.setTop (mkF m 6 (LS_RRJsuuu r0 r1 (36028797018963967 : Int64)) [(.int (7 : Int32))])) (fun t k => ?_) ?_
  · show Steps p.tables e below (s₁.setTop (mkF m 0 (LS_RRuuuuu r0 r1) [])) _
    refine X0.ldc2Long hx hown (mvT hZ (hw _ (List.mem_of_getElem? (i := 0) rfl))) (g := (mkF m 0 (LS_RRuuuuu r0 r1) [])) rfl (hb hby d5_0) _ ?_
    show Steps p.tables e below (s₁.setTop (mkF m 3 (LS_RRuuuuu r0 r1) [(.long (36028797018963967 : Int64))])) _
    refine XS.lstoreN X0.here hx rfl (hb hby d5_3) rfl (l' := (LS_RRJsuuu r0 r1 (36028797018963967 : Int64))) rfl ?_
    show Steps p.tables e below (s₁.setTop (mkF m 4 (LS_RRJsuuu r0 r1 (36028797018963967 : Int64)) [])) _
    refine XS.bipush X0.here hx rfl (hb hby d5_4) ?_
    exact k
  obtain ⟨T1, h1, k1, X1, e1, E1, A1, st1⟩ := newP X0 hx hZ (hw _ (List.mem_of_getElem? (i := 11) rfl)) e0 (g := (mkF m 6 (LS_RRJsuuu r0 r1 (36028797018963967 : Int64)) [(.int (7 : Int32))])) rfl (hb hby d5_6) rfl (by decide) (cap := 7) (by decide) (by decide) (by decide) (by decide)
  obtain ⟨b1, g1⟩ : ∃ z, z = h0.size := ⟨_, rfl⟩
  rw [← g1] at A1 st1
  have g_b1 : n0 ≤ b1 := Nat.le_trans Z0 (Nat.le_of_eq g1.symm)
  have sz_b1 : h0.size ≤ b1 := Nat.le_trans K0.1 (Nat.le_of_eq g1.symm)
  have V1 : Arv Z h1 b1 k1 .long (7 : Int32) [(.long (0 : Int64)), (.long (0 : Int64)), (.long (0 : Int64)), (.long (0 : Int64)), (.long (0 : Int64)), (.long (0 : Int64)), (.long (0 : Int64))] (.long (0 : Int64)) := (Arv.new A1 (by decide)).pad (pad_rep [] (.long (0 : Int64)) 7)
  refine own_go (B := T1.setTop (mkF m 8 (LS_RRJsuuu r0 r1 (36028797018963967 : Int64)) [(.ref b1)])) (fun t k => st1 _ k) ?_
  have Vq1_v3 := Vq1.ext E1
  obtain ⟨cl2, Ar2, qa2, Sa2, Na2, Ha2, Ga2⟩ := id Vq1_v3
  have hin4 : ¬ ((0 : Int32) < 0 ∨ cl2.slots.size ≤ ((0 : Int32)).toNatClampNeg) := inb_of Sa2 ⟨by decide, by decide⟩
  have hat4 : cl2.slots[((0 : Int32)).toNatClampNeg]? = some (.long x0) := Has.at Ha2 hin4 rfl
  have Vq2_v6 := Vq2.ext E1
  obtain ⟨cl5, Ar5, qa5, Sa5, Na5, Ha5, Ga5⟩ := id Vq2_v6
  have hin7 : ¬ ((0 : Int32) < 0 ∨ cl5.slots.size ≤ ((0 : Int32)).toNatClampNeg) := inb_of Sa5 ⟨by decide, by decide⟩
  have hat7 : cl5.slots[((0 : Int32)).toNatClampNeg]? = some (.long y0) := Has.at Ha5 hin7 rfl
  refine own_go (B := T1.setTop (mkF m 19 (LS_RRJsRJs r0 r1 (36028797018963967 : Int64) b1 (x0 + y0)) [])) (fun t k => ?_) ?_
  · show Steps p.tables e below (T1.setTop (mkF m 8 (LS_RRJsuuu r0 r1 (36028797018963967 : Int64)) [(.ref b1)])) _
    refine XS.astore X1.here hx rfl (hb hby d5_8) rfl rfl (l' := (LS_RRJsRuu r0 r1 (36028797018963967 : Int64) b1)) rfl ?_
    show Steps p.tables e below (T1.setTop (mkF m 10 (LS_RRJsRuu r0 r1 (36028797018963967 : Int64) b1) [])) _
    refine XS.aloadN X1.here hx rfl (hb hby d5_10) rfl rfl ?_
    show Steps p.tables e below (T1.setTop (mkF m 11 (LS_RRJsRuu r0 r1 (36028797018963967 : Int64) b1) [(.ref r0)])) _
    refine XS.iconst X1.here hx rfl (hb hby d5_11) ?_
    show Steps p.tables e below (T1.setTop (mkF m 12 (LS_RRJsRuu r0 r1 (36028797018963967 : Int64) b1) [(.int (0 : Int32)), (.ref r0)])) _
    refine X1.laload hx (j := (0 : Int32)) (v := (.long x0)) (by rw [e1]; exact Ar2.1) (State.isArrayOf_alike hZ.alike Ar2.2.1) Ar2.2.2 hin4 hat4 (g := (mkF m 12 (LS_RRJsRuu r0 r1 (36028797018963967 : Int64) b1) [(.int (0 : Int32)), (.ref r0)])) rfl rfl (hb hby d5_12) _ ?_
    show Steps p.tables e below (T1.setTop (mkF m 13 (LS_RRJsRuu r0 r1 (36028797018963967 : Int64) b1) [(.long x0)])) _
    refine XS.aloadN X1.here hx rfl (hb hby d5_13) rfl rfl ?_
    show Steps p.tables e below (T1.setTop (mkF m 14 (LS_RRJsRuu r0 r1 (36028797018963967 : Int64) b1) [(.ref r1), (.long x0)])) _
    refine XS.iconst X1.here hx rfl (hb hby d5_14) ?_
    show Steps p.tables e below (T1.setTop (mkF m 15 (LS_RRJsRuu r0 r1 (36028797018963967 : Int64) b1) [(.int (0 : Int32)), (.ref r1), (.long x0)])) _
    refine X1.laload hx (j := (0 : Int32)) (v := (.long y0)) (by rw [e1]; exact Ar5.1) (State.isArrayOf_alike hZ.alike Ar5.2.1) Ar5.2.2 hin7 hat7 (g := (mkF m 15 (LS_RRJsRuu r0 r1 (36028797018963967 : Int64) b1) [(.int (0 : Int32)), (.ref r1), (.long x0)])) rfl rfl (hb hby d5_15) _ ?_
    show Steps p.tables e below (T1.setTop (mkF m 16 (LS_RRJsRuu r0 r1 (36028797018963967 : Int64) b1) [(.long y0), (.long x0)])) _
    refine XS.ladd X1.here hx rfl (hb hby d5_16) rfl ?_
    show Steps p.tables e below (T1.setTop (mkF m 17 (LS_RRJsRuu r0 r1 (36028797018963967 : Int64) b1) [(.long (x0 + y0))])) _
    refine XS.lstore X1.here hx rfl (hb hby d5_17) rfl (l' := (LS_RRJsRJs r0 r1 (36028797018963967 : Int64) b1 (x0 + y0))) rfl ?_
    exact k
  obtain ⟨z8, hz8⟩ : ∃ z, z = (x0 + y0) := ⟨_, rfl⟩
  refine own_go (B := T1.setTop (mkF m 19 (LS_RRJsRJs r0 r1 (36028797018963967 : Int64) b1 z8) [])) (fun t k => by rw [hz8] at k; exact k) ?_
  refine own_go (B := T1.setTop (mkF m 26 (LS_RRJsRJs r0 r1 (36028797018963967 : Int64) b1 z8) [(.long (z8 &&& (36028797018963967 : Int64))), (.int (0 : Int32)), (.ref b1)])) (fun t k => ?_) ?_
  · show Steps p.tables e below (T1.setTop (mkF m 19 (LS_RRJsRJs r0 r1 (36028797018963967 : Int64) b1 z8) [])) _
    refine XS.aload X1.here hx rfl (hb hby d5_19) rfl rfl ?_
    show Steps p.tables e below (T1.setTop (mkF m 21 (LS_RRJsRJs r0 r1 (36028797018963967 : Int64) b1 z8) [(.ref b1)])) _
    refine XS.iconst X1.here hx rfl (hb hby d5_21) ?_
    show Steps p.tables e below (T1.setTop (mkF m 22 (LS_RRJsRJs r0 r1 (36028797018963967 : Int64) b1 z8) [(.int (0 : Int32)), (.ref b1)])) _
    refine XS.lload X1.here hx rfl (hb hby d5_22) rfl ?_
    show Steps p.tables e below (T1.setTop (mkF m 24 (LS_RRJsRJs r0 r1 (36028797018963967 : Int64) b1 z8) [(.long z8), (.int (0 : Int32)), (.ref b1)])) _
    refine XS.lloadN X1.here hx rfl (hb hby d5_24) rfl ?_
    show Steps p.tables e below (T1.setTop (mkF m 25 (LS_RRJsRJs r0 r1 (36028797018963967 : Int64) b1 z8) [(.long (36028797018963967 : Int64)), (.long z8), (.int (0 : Int32)), (.ref b1)])) _
    refine XS.land X1.here hx rfl (hb hby d5_25) rfl ?_
    exact k
  obtain ⟨cl9, Ar9, qa9, Sa9, Na9, Ha9, Ga9⟩ := id V1
  have hin10 : ¬ ((0 : Int32) < 0 ∨ cl9.slots.size ≤ ((0 : Int32)).toNatClampNeg) := inb_of Sa9 ⟨by decide, by decide⟩
  obtain ⟨T10, h10, X10, e10, W10, st10⟩ := stJ X1 hx hZ e1 Ar9 (j := (0 : Int32)) hin10 (g := (mkF m 26 (LS_RRJsRJs r0 r1 (36028797018963967 : Int64) b1 z8) [(.long (z8 &&& (36028797018963967 : Int64))), (.int (0 : Int32)), (.ref b1)])) rfl rfl (hb hby d5_26)
  have N10 := Fr.snoc X10 N0 g_b1
  have V10 : Arv Z h10 b1 k1 .long (7 : Int32) [(.long (z8 &&& (36028797018963967 : Int64))), (.long (0 : Int64)), (.long (0 : Int64)), (.long (0 : Int64)), (.long (0 : Int64)), (.long (0 : Int64)), (.long (0 : Int64))] (.long (0 : Int64)) := Arv.set Ar9 qa9 Sa9 Na9 Ha9 Ga9 rfl W10 0 rfl (Nat.le_of_ble_eq_true rfl)
  refine own_go (B := T10.setTop (mkF m 27 (LS_RRJsRJs r0 r1 (36028797018963967 : Int64) b1 z8) [])) (fun t k => st10 _ k) ?_
  have ne13 : r0 ≠ b1 := Nat.ne_of_lt (Nat.lt_of_lt_of_le Vq1.lt (Nat.le_of_eq g1.symm))
  have Vq1_v12 := Vq1_v3.other W10 ne13
  obtain ⟨cl11, Ar11, qa11, Sa11, Na11, Ha11, Ga11⟩ := id Vq1_v12
  have hin14 : ¬ ((1 : Int32) < 0 ∨ cl11.slots.size ≤ ((1 : Int32)).toNatClampNeg) := inb_of Sa11 ⟨by decide, by decide⟩
  have hat14 : cl11.slots[((1 : Int32)).toNatClampNeg]? = some (.long x1) := Has.at Ha11 hin14 rfl
  have ne17 : r1 ≠ b1 := Nat.ne_of_lt (Nat.lt_of_lt_of_le Vq2.lt (Nat.le_of_eq g1.symm))
  have Vq2_v16 := Vq2_v6.other W10 ne17
  obtain ⟨cl15, Ar15, qa15, Sa15, Na15, Ha15, Ga15⟩ := id Vq2_v16
  have hin18 : ¬ ((1 : Int32) < 0 ∨ cl15.slots.size ≤ ((1 : Int32)).toNatClampNeg) := inb_of Sa15 ⟨by decide, by decide⟩
  have hat18 : cl15.slots[((1 : Int32)).toNatClampNeg]? = some (.long y1) := Has.at Ha15 hin18 rfl
  refine own_go (B := T10.setTop (mkF m 42 (LS_RRJsRJs r0 r1 (36028797018963967 : Int64) b1 ((x1 + y1) + ((z8.toUInt64 >>> ((55 : Int32) &&& 0x3f).toInt64.toUInt64).toInt64))) [])) (fun t k => ?_) ?_
  · show Steps p.tables e below (T10.setTop (mkF m 27 (LS_RRJsRJs r0 r1 (36028797018963967 : Int64) b1 z8) [])) _
    refine XS.aloadN X10.here hx rfl (hb hby d5_27) rfl rfl ?_
    show Steps p.tables e below (T10.setTop (mkF m 28 (LS_RRJsRJs r0 r1 (36028797018963967 : Int64) b1 z8) [(.ref r0)])) _
    refine XS.iconst X10.here hx rfl (hb hby d5_28) ?_
    show Steps p.tables e below (T10.setTop (mkF m 29 (LS_RRJsRJs r0 r1 (36028797018963967 : Int64) b1 z8) [(.int (1 : Int32)), (.ref r0)])) _
    refine X10.laload hx (j := (1 : Int32)) (v := (.long x1)) (by rw [e10]; exact Ar11.1) (State.isArrayOf_alike hZ.alike Ar11.2.1) Ar11.2.2 hin14 hat14 (g := (mkF m 29 (LS_RRJsRJs r0 r1 (36028797018963967 : Int64) b1 z8) [(.int (1 : Int32)), (.ref r0)])) rfl rfl (hb hby d5_29) _ ?_
    show Steps p.tables e below (T10.setTop (mkF m 30 (LS_RRJsRJs r0 r1 (36028797018963967 : Int64) b1 z8) [(.long x1)])) _
    refine XS.aloadN X10.here hx rfl (hb hby d5_30) rfl rfl ?_
    show Steps p.tables e below (T10.setTop (mkF m 31 (LS_RRJsRJs r0 r1 (36028797018963967 : Int64) b1 z8) [(.ref r1), (.long x1)])) _
    refine XS.iconst X10.here hx rfl (hb hby d5_31) ?_
    show Steps p.tables e below (T10.setTop (mkF m 32 (LS_RRJsRJs r0 r1 (36028797018963967 : Int64) b1 z8) [(.int (1 : Int32)), (.ref r1), (.long x1)])) _
    refine X10.laload hx (j := (1 : Int32)) (v := (.long y1)) (by rw [e10]; exact Ar15.1) (State.isArrayOf_alike hZ.alike Ar15.2.1) Ar15.2.2 hin18 hat18 (g := (mkF m 32 (LS_RRJsRJs r0 r1 (36028797018963967 : Int64) b1 z8) [(.int (1 : Int32)), (.ref r1), (.long x1)])) rfl rfl (hb hby d5_32) _ ?_
    show Steps p.tables e below (T10.setTop (mkF m 33 (LS_RRJsRJs r0 r1 (36028797018963967 : Int64) b1 z8) [(.long y1), (.long x1)])) _
    refine XS.ladd X10.here hx rfl (hb hby d5_33) rfl ?_
    show Steps p.tables e below (T10.setTop (mkF m 34 (LS_RRJsRJs r0 r1 (36028797018963967 : Int64) b1 z8) [(.long (x1 + y1))])) _
    refine XS.lload X10.here hx rfl (hb hby d5_34) rfl ?_
    show Steps p.tables e below (T10.setTop (mkF m 36 (LS_RRJsRJs r0 r1 (36028797018963967 : Int64) b1 z8) [(.long z8), (.long (x1 + y1))])) _
    refine XS.bipush X10.here hx rfl (hb hby d5_36) ?_
    show Steps p.tables e below (T10.setTop (mkF m 38 (LS_RRJsRJs r0 r1 (36028797018963967 : Int64) b1 z8) [(.int (55 : Int32)), (.long z8), (.long (x1 + y1))])) _
    refine XS.lushr X10.here hx rfl (hb hby d5_38) rfl ?_
    show Steps p.tables e below (T10.setTop (mkF m 39 (LS_RRJsRJs r0 r1 (36028797018963967 : Int64) b1 z8) [(.long ((z8.toUInt64 >>> ((55 : Int32) &&& 0x3f).toInt64.toUInt64).toInt64)), (.long (x1 + y1))])) _
    refine XS.ladd X10.here hx rfl (hb hby d5_39) rfl ?_
    show Steps p.tables e below (T10.setTop (mkF m 40 (LS_RRJsRJs r0 r1 (36028797018963967 : Int64) b1 z8) [(.long ((x1 + y1) + ((z8.toUInt64 >>> ((55 : Int32) &&& 0x3f).toInt64.toUInt64).toInt64)))])) _
    refine XS.lstore X10.here hx rfl (hb hby d5_40) rfl (l' := (LS_RRJsRJs r0 r1 (36028797018963967 : Int64) b1 ((x1 + y1) + ((z8.toUInt64 >>> ((55 : Int32) &&& 0x3f).toInt64.toUInt64).toInt64)))) rfl ?_
    exact k
  obtain ⟨z19, hz19⟩ : ∃ z, z = ((x1 + y1) + ((z8.toUInt64 >>> ((55 : Int32) &&& 0x3f).toInt64.toUInt64).toInt64)) := ⟨_, rfl⟩
  refine own_go (B := T10.setTop (mkF m 42 (LS_RRJsRJs r0 r1 (36028797018963967 : Int64) b1 z19) [])) (fun t k => by rw [hz19] at k; exact k) ?_
  refine own_go (B := T10.setTop (mkF m 49 (LS_RRJsRJs r0 r1 (36028797018963967 : Int64) b1 z19) [(.long (z19 &&& (36028797018963967 : Int64))), (.int (1 : Int32)), (.ref b1)])) (fun t k => ?_) ?_
  · show Steps p.tables e below (T10.setTop (mkF m 42 (LS_RRJsRJs r0 r1 (36028797018963967 : Int64) b1 z19) [])) _
    refine XS.aload X10.here hx rfl (hb hby d5_42) rfl rfl ?_
    show Steps p.tables e below (T10.setTop (mkF m 44 (LS_RRJsRJs r0 r1 (36028797018963967 : Int64) b1 z19) [(.ref b1)])) _
    refine XS.iconst X10.here hx rfl (hb hby d5_44) ?_
    show Steps p.tables e below (T10.setTop (mkF m 45 (LS_RRJsRJs r0 r1 (36028797018963967 : Int64) b1 z19) [(.int (1 : Int32)), (.ref b1)])) _
    refine XS.lload X10.here hx rfl (hb hby d5_45) rfl ?_
    show Steps p.tables e below (T10.setTop (mkF m 47 (LS_RRJsRJs r0 r1 (36028797018963967 : Int64) b1 z19) [(.long z19), (.int (1 : Int32)), (.ref b1)])) _
    refine XS.lloadN X10.here hx rfl (hb hby d5_47) rfl ?_
    show Steps p.tables e below (T10.setTop (mkF m 48 (LS_RRJsRJs r0 r1 (36028797018963967 : Int64) b1 z19) [(.long (36028797018963967 : Int64)), (.long z19), (.int (1 : Int32)), (.ref b1)])) _
    refine XS.land X10.here hx rfl (hb hby d5_48) rfl ?_
    exact k
  obtain ⟨cl20, Ar20, qa20, Sa20, Na20, Ha20, Ga20⟩ := id V10
  have hin21 : ¬ ((1 : Int32) < 0 ∨ cl20.slots.size ≤ ((1 : Int32)).toNatClampNeg) := inb_of Sa20 ⟨by decide, by decide⟩
  obtain ⟨T21, h21, X21, e21, W21, st21⟩ := stJ X10 hx hZ e10 Ar20 (j := (1 : Int32)) hin21 (g := (mkF m 49 (LS_RRJsRJs r0 r1 (36028797018963967 : Int64) b1 z19) [(.long (z19 &&& (36028797018963967 : Int64))), (.int (1 : Int32)), (.ref b1)])) rfl rfl (hb hby d5_49)
  have N21 := Fr.snoc X21 N10 g_b1
  have V21 : Arv Z h21 b1 k1 .long (7 : Int32) [(.long (z8 &&& (36028797018963967 : Int64))), (.long (z19 &&& (36028797018963967 : Int64))), (.long (0 : Int64)), (.long (0 : Int64)), (.long (0 : Int64)), (.long (0 : Int64)), (.long (0 : Int64))] (.long (0 : Int64)) := Arv.set Ar20 qa20 Sa20 Na20 Ha20 Ga20 rfl W21 1 rfl (Nat.le_of_ble_eq_true rfl)
  refine own_go (B := T21.setTop (mkF m 50 (LS_RRJsRJs r0 r1 (36028797018963967 : Int64) b1 z19) [])) (fun t k => st21 _ k) ?_
  have Vq1_v23 := Vq1_v3.other W10 ne13
  have Vq1_v24 := Vq1_v23.other W21 ne13
  obtain ⟨cl22, Ar22, qa22, Sa22, Na22, Ha22, Ga22⟩ := id Vq1_v24
  have hin25 : ¬ ((2 : Int32) < 0 ∨ cl22.slots.size ≤ ((2 : Int32)).toNatClampNeg) := inb_of Sa22 ⟨by decide, by decide⟩
  have hat25 : cl22.slots[((2 : Int32)).toNatClampNeg]? = some (.long x2) := Has.at Ha22 hin25 rfl
  have Vq2_v27 := Vq2_v6.other W10 ne17
  have Vq2_v28 := Vq2_v27.other W21 ne17
  obtain ⟨cl26, Ar26, qa26, Sa26, Na26, Ha26, Ga26⟩ := id Vq2_v28
  have hin29 : ¬ ((2 : Int32) < 0 ∨ cl26.slots.size ≤ ((2 : Int32)).toNatClampNeg) := inb_of Sa26 ⟨by decide, by decide⟩
  have hat29 : cl26.slots[((2 : Int32)).toNatClampNeg]? = some (.long y2) := Has.at Ha26 hin29 rfl
  refine own_go (B := T21.setTop (mkF m 65 (LS_RRJsRJs r0 r1 (36028797018963967 : Int64) b1 ((x2 + y2) + ((z19.toUInt64 >>> ((55 : Int32) &&& 0x3f).toInt64.toUInt64).toInt64))) [])) (fun t k => ?_) ?_
  · show Steps p.tables e below (T21.setTop (mkF m 50 (LS_RRJsRJs r0 r1 (36028797018963967 : Int64) b1 z19) [])) _
    refine XS.aloadN X21.here hx rfl (hb hby d5_50) rfl rfl ?_
    show Steps p.tables e below (T21.setTop (mkF m 51 (LS_RRJsRJs r0 r1 (36028797018963967 : Int64) b1 z19) [(.ref r0)])) _
    refine XS.iconst X21.here hx rfl (hb hby d5_51) ?_
    show Steps p.tables e below (T21.setTop (mkF m 52 (LS_RRJsRJs r0 r1 (36028797018963967 : Int64) b1 z19) [(.int (2 : Int32)), (.ref r0)])) _
    refine X21.laload hx (j := (2 : Int32)) (v := (.long x2)) (by rw [e21]; exact Ar22.1) (State.isArrayOf_alike hZ.alike Ar22.2.1) Ar22.2.2 hin25 hat25 (g := (mkF m 52 (LS_RRJsRJs r0 r1 (36028797018963967 : Int64) b1 z19) [(.int (2 : Int32)), (.ref r0)])) rfl rfl (hb hby d5_52) _ ?_
    show Steps p.tables e below (T21.setTop (mkF m 53 (LS_RRJsRJs r0 r1 (36028797018963967 : Int64) b1 z19) [(.long x2)])) _
    refine XS.aloadN X21.here hx rfl (hb hby d5_53) rfl rfl ?_
    show Steps p.tables e below (T21.setTop (mkF m 54 (LS_RRJsRJs r0 r1 (36028797018963967 : Int64) b1 z19) [(.ref r1), (.long x2)])) _
    refine XS.iconst X21.here hx rfl (hb hby d5_54) ?_
    show Steps p.tables e below (T21.setTop (mkF m 55 (LS_RRJsRJs r0 r1 (36028797018963967 : Int64) b1 z19) [(.int (2 : Int32)), (.ref r1), (.long x2)])) _
    refine X21.laload hx (j := (2 : Int32)) (v := (.long y2)) (by rw [e21]; exact Ar26.1) (State.isArrayOf_alike hZ.alike Ar26.2.1) Ar26.2.2 hin29 hat29 (g := (mkF m 55 (LS_RRJsRJs r0 r1 (36028797018963967 : Int64) b1 z19) [(.int (2 : Int32)), (.ref r1), (.long x2)])) rfl rfl (hb hby d5_55) _ ?_
    show Steps p.tables e below (T21.setTop (mkF m 56 (LS_RRJsRJs r0 r1 (36028797018963967 : Int64) b1 z19) [(.long y2), (.long x2)])) _
    refine XS.ladd X21.here hx rfl (hb hby d5_56) rfl ?_
    show Steps p.tables e below (T21.setTop (mkF m 57 (LS_RRJsRJs r0 r1 (36028797018963967 : Int64) b1 z19) [(.long (x2 + y2))])) _
    refine XS.lload X21.here hx rfl (hb hby d5_57) rfl ?_
    show Steps p.tables e below (T21.setTop (mkF m 59 (LS_RRJsRJs r0 r1 (36028797018963967 : Int64) b1 z19) [(.long z19), (.long (x2 + y2))])) _
    refine XS.bipush X21.here hx rfl (hb hby d5_59) ?_
    show Steps p.tables e below (T21.setTop (mkF m 61 (LS_RRJsRJs r0 r1 (36028797018963967 : Int64) b1 z19) [(.int (55 : Int32)), (.long z19), (.long (x2 + y2))])) _
    refine XS.lushr X21.here hx rfl (hb hby d5_61) rfl ?_
    show Steps p.tables e below (T21.setTop (mkF m 62 (LS_RRJsRJs r0 r1 (36028797018963967 : Int64) b1 z19) [(.long ((z19.toUInt64 >>> ((55 : Int32) &&& 0x3f).toInt64.toUInt64).toInt64)), (.long (x2 + y2))])) _
    refine XS.ladd X21.here hx rfl (hb hby d5_62) rfl ?_
    show Steps p.tables e below (T21.setTop (mkF m 63 (LS_RRJsRJs r0 r1 (36028797018963967 : Int64) b1 z19) [(.long ((x2 + y2) + ((z19.toUInt64 >>> ((55 : Int32) &&& 0x3f).toInt64.toUInt64).toInt64)))])) _
    refine XS.lstore X21.here hx rfl (hb hby d5_63) rfl (l' := (LS_RRJsRJs r0 r1 (36028797018963967 : Int64) b1 ((x2 + y2) + ((z19.toUInt64 >>> ((55 : Int32) &&& 0x3f).toInt64.toUInt64).toInt64)))) rfl ?_
    exact k
  obtain ⟨z30, hz30⟩ : ∃ z, z = ((x2 + y2) + ((z19.toUInt64 >>> ((55 : Int32) &&& 0x3f).toInt64.toUInt64).toInt64)) := ⟨_, rfl⟩
  refine own_go (B := T21.setTop (mkF m 65 (LS_RRJsRJs r0 r1 (36028797018963967 : Int64) b1 z30) [])) (fun t k => by rw [hz30] at k; exact k) ?_
  refine own_go (B := T21.setTop (mkF m 72 (LS_RRJsRJs r0 r1 (36028797018963967 : Int64) b1 z30) [(.long (z30 &&& (36028797018963967 : Int64))), (.int (2 : Int32)), (.ref b1)])) (fun t k => ?_) ?_
  · show Steps p.tables e below (T21.setTop (mkF m 65 (LS_RRJsRJs r0 r1 (36028797018963967 : Int64) b1 z30) [])) _
    refine XS.aload X21.here hx rfl (hb hby d5_65) rfl rfl ?_
    show Steps p.tables e below (T21.setTop (mkF m 67 (LS_RRJsRJs r0 r1 (36028797018963967 : Int64) b1 z30) [(.ref b1)])) _
    refine XS.iconst X21.here hx rfl (hb hby d5_67) ?_
    show Steps p.tables e below (T21.setTop (mkF m 68 (LS_RRJsRJs r0 r1 (36028797018963967 : Int64) b1 z30) [(.int (2 : Int32)), (.ref b1)])) _
    refine XS.lload X21.here hx rfl (hb hby d5_68) rfl ?_
    show Steps p.tables e below (T21.setTop (mkF m 70 (LS_RRJsRJs r0 r1 (36028797018963967 : Int64) b1 z30) [(.long z30), (.int (2 : Int32)), (.ref b1)])) _
    refine XS.lloadN X21.here hx rfl (hb hby d5_70) rfl ?_
    show Steps p.tables e below (T21.setTop (mkF m 71 (LS_RRJsRJs r0 r1 (36028797018963967 : Int64) b1 z30) [(.long (36028797018963967 : Int64)), (.long z30), (.int (2 : Int32)), (.ref b1)])) _
    refine XS.land X21.here hx rfl (hb hby d5_71) rfl ?_
    exact k
  obtain ⟨cl31, Ar31, qa31, Sa31, Na31, Ha31, Ga31⟩ := id V21
  have hin32 : ¬ ((2 : Int32) < 0 ∨ cl31.slots.size ≤ ((2 : Int32)).toNatClampNeg) := inb_of Sa31 ⟨by decide, by decide⟩
  obtain ⟨T32, h32, X32, e32, W32, st32⟩ := stJ X21 hx hZ e21 Ar31 (j := (2 : Int32)) hin32 (g := (mkF m 72 (LS_RRJsRJs r0 r1 (36028797018963967 : Int64) b1 z30) [(.long (z30 &&& (36028797018963967 : Int64))), (.int (2 : Int32)), (.ref b1)])) rfl rfl (hb hby d5_72)
  have N32 := Fr.snoc X32 N21 g_b1
  have V32 : Arv Z h32 b1 k1 .long (7 : Int32) [(.long (z8 &&& (36028797018963967 : Int64))), (.long (z19 &&& (36028797018963967 : Int64))), (.long (z30 &&& (36028797018963967 : Int64))), (.long (0 : Int64)), (.long (0 : Int64)), (.long (0 : Int64)), (.long (0 : Int64))] (.long (0 : Int64)) := Arv.set Ar31 qa31 Sa31 Na31 Ha31 Ga31 rfl W32 2 rfl (Nat.le_of_ble_eq_true rfl)
  refine own_go (B := T32.setTop (mkF m 73 (LS_RRJsRJs r0 r1 (36028797018963967 : Int64) b1 z30) [])) (fun t k => st32 _ k) ?_
  have Vq1_v34 := Vq1_v24.other W32 ne13
  obtain ⟨cl33, Ar33, qa33, Sa33, Na33, Ha33, Ga33⟩ := id Vq1_v34
  have hin35 : ¬ ((3 : Int32) < 0 ∨ cl33.slots.size ≤ ((3 : Int32)).toNatClampNeg) := inb_of Sa33 ⟨by decide, by decide⟩
  have hat35 : cl33.slots[((3 : Int32)).toNatClampNeg]? = some (.long x3) := Has.at Ha33 hin35 rfl
  have Vq2_v37 := Vq2_v28.other W32 ne17
  obtain ⟨cl36, Ar36, qa36, Sa36, Na36, Ha36, Ga36⟩ := id Vq2_v37
  have hin38 : ¬ ((3 : Int32) < 0 ∨ cl36.slots.size ≤ ((3 : Int32)).toNatClampNeg) := inb_of Sa36 ⟨by decide, by decide⟩
  have hat38 : cl36.slots[((3 : Int32)).toNatClampNeg]? = some (.long y3) := Has.at Ha36 hin38 rfl
  refine own_go (B := T32.setTop (mkF m 88 (LS_RRJsRJs r0 r1 (36028797018963967 : Int64) b1 ((x3 + y3) + ((z30.toUInt64 >>> ((55 : Int32) &&& 0x3f).toInt64.toUInt64).toInt64))) [])) (fun t k => ?_) ?_
  · show Steps p.tables e below (T32.setTop (mkF m 73 (LS_RRJsRJs r0 r1 (36028797018963967 : Int64) b1 z30) [])) _
    refine XS.aloadN X32.here hx rfl (hb hby d5_73) rfl rfl ?_
    show Steps p.tables e below (T32.setTop (mkF m 74 (LS_RRJsRJs r0 r1 (36028797018963967 : Int64) b1 z30) [(.ref r0)])) _
    refine XS.iconst X32.here hx rfl (hb hby d5_74) ?_
    show Steps p.tables e below (T32.setTop (mkF m 75 (LS_RRJsRJs r0 r1 (36028797018963967 : Int64) b1 z30) [(.int (3 : Int32)), (.ref r0)])) _
    refine X32.laload hx (j := (3 : Int32)) (v := (.long x3)) (by rw [e32]; exact Ar33.1) (State.isArrayOf_alike hZ.alike Ar33.2.1) Ar33.2.2 hin35 hat35 (g := (mkF m 75 (LS_RRJsRJs r0 r1 (36028797018963967 : Int64) b1 z30) [(.int (3 : Int32)), (.ref r0)])) rfl rfl (hb hby d5_75) _ ?_
    show Steps p.tables e below (T32.setTop (mkF m 76 (LS_RRJsRJs r0 r1 (36028797018963967 : Int64) b1 z30) [(.long x3)])) _
    refine XS.aloadN X32.here hx rfl (hb hby d5_76) rfl rfl ?_
    show Steps p.tables e below (T32.setTop (mkF m 77 (LS_RRJsRJs r0 r1 (36028797018963967 : Int64) b1 z30) [(.ref r1), (.long x3)])) _
    refine XS.iconst X32.here hx rfl (hb hby d5_77) ?_
    show Steps p.tables e below (T32.setTop (mkF m 78 (LS_RRJsRJs r0 r1 (36028797018963967 : Int64) b1 z30) [(.int (3 : Int32)), (.ref r1), (.long x3)])) _
    refine X32.laload hx (j := (3 : Int32)) (v := (.long y3)) (by rw [e32]; exact Ar36.1) (State.isArrayOf_alike hZ.alike Ar36.2.1) Ar36.2.2 hin38 hat38 (g := (mkF m 78 (LS_RRJsRJs r0 r1 (36028797018963967 : Int64) b1 z30) [(.int (3 : Int32)), (.ref r1), (.long x3)])) rfl rfl (hb hby d5_78) _ ?_
    show Steps p.tables e below (T32.setTop (mkF m 79 (LS_RRJsRJs r0 r1 (36028797018963967 : Int64) b1 z30) [(.long y3), (.long x3)])) _
    refine XS.ladd X32.here hx rfl (hb hby d5_79) rfl ?_
    show Steps p.tables e below (T32.setTop (mkF m 80 (LS_RRJsRJs r0 r1 (36028797018963967 : Int64) b1 z30) [(.long (x3 + y3))])) _
    refine XS.lload X32.here hx rfl (hb hby d5_80) rfl ?_
    show Steps p.tables e below (T32.setTop (mkF m 82 (LS_RRJsRJs r0 r1 (36028797018963967 : Int64) b1 z30) [(.long z30), (.long (x3 + y3))])) _
    refine XS.bipush X32.here hx rfl (hb hby d5_82) ?_
    show Steps p.tables e below (T32.setTop (mkF m 84 (LS_RRJsRJs r0 r1 (36028797018963967 : Int64) b1 z30) [(.int (55 : Int32)), (.long z30), (.long (x3 + y3))])) _
    refine XS.lushr X32.here hx rfl (hb hby d5_84) rfl ?_
    show Steps p.tables e below (T32.setTop (mkF m 85 (LS_RRJsRJs r0 r1 (36028797018963967 : Int64) b1 z30) [(.long ((z30.toUInt64 >>> ((55 : Int32) &&& 0x3f).toInt64.toUInt64).toInt64)), (.long (x3 + y3))])) _
    refine XS.ladd X32.here hx rfl (hb hby d5_85) rfl ?_
    show Steps p.tables e below (T32.setTop (mkF m 86 (LS_RRJsRJs r0 r1 (36028797018963967 : Int64) b1 z30) [(.long ((x3 + y3) + ((z30.toUInt64 >>> ((55 : Int32) &&& 0x3f).toInt64.toUInt64).toInt64)))])) _
    refine XS.lstore X32.here hx rfl (hb hby d5_86) rfl (l' := (LS_RRJsRJs r0 r1 (36028797018963967 : Int64) b1 ((x3 + y3) + ((z30.toUInt64 >>> ((55 : Int32) &&& 0x3f).toInt64.toUInt64).toInt64)))) rfl ?_
    exact k
  obtain ⟨z39, hz39⟩ : ∃ z, z = ((x3 + y3) + ((z30.toUInt64 >>> ((55 : Int32) &&& 0x3f).toInt64.toUInt64).toInt64)) := ⟨_, rfl⟩
  refine own_go (B := T32.setTop (mkF m 88 (LS_RRJsRJs r0 r1 (36028797018963967 : Int64) b1 z39) [])) (fun t k => by rw [hz39] at k; exact k) ?_
  refine own_go (B := T32.setTop (mkF m 95 (LS_RRJsRJs r0 r1 (36028797018963967 : Int64) b1 z39) [(.long (z39 &&& (36028797018963967 : Int64))), (.int (3 : Int32)), (.ref b1)])) (fun t k => ?_) ?_
  · show Steps p.tables e below (T32.setTop (mkF m 88 (LS_RRJsRJs r0 r1 (36028797018963967 : Int64) b1 z39) [])) _
    refine XS.aload X32.here hx rfl (hb hby d5_88) rfl rfl ?_
    show Steps p.tables e below (T32.setTop (mkF m 90 (LS_RRJsRJs r0 r1 (36028797018963967 : Int64) b1 z39) [(.ref b1)])) _
    refine XS.iconst X32.here hx rfl (hb hby d5_90) ?_
    show Steps p.tables e below (T32.setTop (mkF m 91 (LS_RRJsRJs r0 r1 (36028797018963967 : Int64) b1 z39) [(.int (3 : Int32)), (.ref b1)])) _
    refine XS.lload X32.here hx rfl (hb hby d5_91) rfl ?_
    show Steps p.tables e below (T32.setTop (mkF m 93 (LS_RRJsRJs r0 r1 (36028797018963967 : Int64) b1 z39) [(.long z39), (.int (3 : Int32)), (.ref b1)])) _
    refine XS.lloadN X32.here hx rfl (hb hby d5_93) rfl ?_
    show Steps p.tables e below (T32.setTop (mkF m 94 (LS_RRJsRJs r0 r1 (36028797018963967 : Int64) b1 z39) [(.long (36028797018963967 : Int64)), (.long z39), (.int (3 : Int32)), (.ref b1)])) _
    refine XS.land X32.here hx rfl (hb hby d5_94) rfl ?_
    exact k
  obtain ⟨cl40, Ar40, qa40, Sa40, Na40, Ha40, Ga40⟩ := id V32
  have hin41 : ¬ ((3 : Int32) < 0 ∨ cl40.slots.size ≤ ((3 : Int32)).toNatClampNeg) := inb_of Sa40 ⟨by decide, by decide⟩
  obtain ⟨T41, h41, X41, e41, W41, st41⟩ := stJ X32 hx hZ e32 Ar40 (j := (3 : Int32)) hin41 (g := (mkF m 95 (LS_RRJsRJs r0 r1 (36028797018963967 : Int64) b1 z39) [(.long (z39 &&& (36028797018963967 : Int64))), (.int (3 : Int32)), (.ref b1)])) rfl rfl (hb hby d5_95)
  have N41 := Fr.snoc X41 N32 g_b1
  have V41 : Arv Z h41 b1 k1 .long (7 : Int32) [(.long (z8 &&& (36028797018963967 : Int64))), (.long (z19 &&& (36028797018963967 : Int64))), (.long (z30 &&& (36028797018963967 : Int64))), (.long (z39 &&& (36028797018963967 : Int64))), (.long (0 : Int64)), (.long (0 : Int64)), (.long (0 : Int64))] (.long (0 : Int64)) := Arv.set Ar40 qa40 Sa40 Na40 Ha40 Ga40 rfl W41 3 rfl (Nat.le_of_ble_eq_true rfl)
  refine own_go (B := T41.setTop (mkF m 96 (LS_RRJsRJs r0 r1 (36028797018963967 : Int64) b1 z39) [])) (fun t k => st41 _ k) ?_
  have Vq1_v43 := Vq1_v34.other W41 ne13
  obtain ⟨cl42, Ar42, qa42, Sa42, Na42, Ha42, Ga42⟩ := id Vq1_v43
  have hin44 : ¬ ((4 : Int32) < 0 ∨ cl42.slots.size ≤ ((4 : Int32)).toNatClampNeg) := inb_of Sa42 ⟨by decide, by decide⟩
  have hat44 : cl42.slots[((4 : Int32)).toNatClampNeg]? = some (.long x4) := Has.at Ha42 hin44 rfl
  have Vq2_v46 := Vq2_v37.other W41 ne17
  obtain ⟨cl45, Ar45, qa45, Sa45, Na45, Ha45, Ga45⟩ := id Vq2_v46
  have hin47 : ¬ ((4 : Int32) < 0 ∨ cl45.slots.size ≤ ((4 : Int32)).toNatClampNeg) := inb_of Sa45 ⟨by decide, by decide⟩
  have hat47 : cl45.slots[((4 : Int32)).toNatClampNeg]? = some (.long y4) := Has.at Ha45 hin47 rfl
  refine own_go (B := T41.setTop (mkF m 111 (LS_RRJsRJs r0 r1 (36028797018963967 : Int64) b1 ((x4 + y4) + ((z39.toUInt64 >>> ((55 : Int32) &&& 0x3f).toInt64.toUInt64).toInt64))) [])) (fun t k => ?_) ?_
  · show Steps p.tables e below (T41.setTop (mkF m 96 (LS_RRJsRJs r0 r1 (36028797018963967 : Int64) b1 z39) [])) _
    refine XS.aloadN X41.here hx rfl (hb hby d5_96) rfl rfl ?_
    show Steps p.tables e below (T41.setTop (mkF m 97 (LS_RRJsRJs r0 r1 (36028797018963967 : Int64) b1 z39) [(.ref r0)])) _
    refine XS.iconst X41.here hx rfl (hb hby d5_97) ?_
    show Steps p.tables e below (T41.setTop (mkF m 98 (LS_RRJsRJs r0 r1 (36028797018963967 : Int64) b1 z39) [(.int (4 : Int32)), (.ref r0)])) _
    refine X41.laload hx (j := (4 : Int32)) (v := (.long x4)) (by rw [e41]; exact Ar42.1) (State.isArrayOf_alike hZ.alike Ar42.2.1) Ar42.2.2 hin44 hat44 (g := (mkF m 98 (LS_RRJsRJs r0 r1 (36028797018963967 : Int64) b1 z39) [(.int (4 : Int32)), (.ref r0)])) rfl rfl (hb hby d5_98) _ ?_
    show Steps p.tables e below (T41.setTop (mkF m 99 (LS_RRJsRJs r0 r1 (36028797018963967 : Int64) b1 z39) [(.long x4)])) _
    refine XS.aloadN X41.here hx rfl (hb hby d5_99) rfl rfl ?_
    show Steps p.tables e below (T41.setTop (mkF m 100 (LS_RRJsRJs r0 r1 (36028797018963967 : Int64) b1 z39) [(.ref r1), (.long x4)])) _
    refine XS.iconst X41.here hx rfl (hb hby d5_100) ?_
    show Steps p.tables e below (T41.setTop (mkF m 101 (LS_RRJsRJs r0 r1 (36028797018963967 : Int64) b1 z39) [(.int (4 : Int32)), (.ref r1), (.long x4)])) _
    refine X41.laload hx (j := (4 : Int32)) (v := (.long y4)) (by rw [e41]; exact Ar45.1) (State.isArrayOf_alike hZ.alike Ar45.2.1) Ar45.2.2 hin47 hat47 (g := (mkF m 101 (LS_RRJsRJs r0 r1 (36028797018963967 : Int64) b1 z39) [(.int (4 : Int32)), (.ref r1), (.long x4)])) rfl rfl (hb hby d5_101) _ ?_
    show Steps p.tables e below (T41.setTop (mkF m 102 (LS_RRJsRJs r0 r1 (36028797018963967 : Int64) b1 z39) [(.long y4), (.long x4)])) _
    refine XS.ladd X41.here hx rfl (hb hby d5_102) rfl ?_
    show Steps p.tables e below (T41.setTop (mkF m 103 (LS_RRJsRJs r0 r1 (36028797018963967 : Int64) b1 z39) [(.long (x4 + y4))])) _
    refine XS.lload X41.here hx rfl (hb hby d5_103) rfl ?_
    show Steps p.tables e below (T41.setTop (mkF m 105 (LS_RRJsRJs r0 r1 (36028797018963967 : Int64) b1 z39) [(.long z39), (.long (x4 + y4))])) _
    refine XS.bipush X41.here hx rfl (hb hby d5_105) ?_
    show Steps p.tables e below (T41.setTop (mkF m 107 (LS_RRJsRJs r0 r1 (36028797018963967 : Int64) b1 z39) [(.int (55 : Int32)), (.long z39), (.long (x4 + y4))])) _
    refine XS.lushr X41.here hx rfl (hb hby d5_107) rfl ?_
    show Steps p.tables e below (T41.setTop (mkF m 108 (LS_RRJsRJs r0 r1 (36028797018963967 : Int64) b1 z39) [(.long ((z39.toUInt64 >>> ((55 : Int32) &&& 0x3f).toInt64.toUInt64).toInt64)), (.long (x4 + y4))])) _
    refine XS.ladd X41.here hx rfl (hb hby d5_108) rfl ?_
    show Steps p.tables e below (T41.setTop (mkF m 109 (LS_RRJsRJs r0 r1 (36028797018963967 : Int64) b1 z39) [(.long ((x4 + y4) + ((z39.toUInt64 >>> ((55 : Int32) &&& 0x3f).toInt64.toUInt64).toInt64)))])) _
    refine XS.lstore X41.here hx rfl (hb hby d5_109) rfl (l' := (LS_RRJsRJs r0 r1 (36028797018963967 : Int64) b1 ((x4 + y4) + ((z39.toUInt64 >>> ((55 : Int32) &&& 0x3f).toInt64.toUInt64).toInt64)))) rfl ?_
    exact k
  obtain ⟨z48, hz48⟩ : ∃ z, z = ((x4 + y4) + ((z39.toUInt64 >>> ((55 : Int32) &&& 0x3f).toInt64.toUInt64).toInt64)) := ⟨_, rfl⟩
  refine own_go (B := T41.setTop (mkF m 111 (LS_RRJsRJs r0 r1 (36028797018963967 : Int64) b1 z48) [])) (fun t k => by rw [hz48] at k; exact k) ?_
  refine own_go (B := T41.setTop (mkF m 118 (LS_RRJsRJs r0 r1 (36028797018963967 : Int64) b1 z48) [(.long (z48 &&& (36028797018963967 : Int64))), (.int (4 : Int32)), (.ref b1)])) (fun t k => ?_) ?_
  · show Steps p.tables e below (T41.setTop (mkF m 111 (LS_RRJsRJs r0 r1 (36028797018963967 : Int64) b1 z48) [])) _
    refine XS.aload X41.here hx rfl (hb hby d5_111) rfl rfl ?_
    show Steps p.tables e below (T41.setTop (mkF m 113 (LS_RRJsRJs r0 r1 (36028797018963967 : Int64) b1 z48) [(.ref b1)])) _
    refine XS.iconst X41.here hx rfl (hb hby d5_113) ?_
    show Steps p.tables e below (T41.setTop (mkF m 114 (LS_RRJsRJs r0 r1 (36028797018963967 : Int64) b1 z48) [(.int (4 : Int32)), (.ref b1)])) _
    refine XS.lload X41.here hx rfl (hb hby d5_114) rfl ?_
    show Steps p.tables e below (T41.setTop (mkF m 116 (LS_RRJsRJs r0 r1 (36028797018963967 : Int64) b1 z48) [(.long z48), (.int (4 : Int32)), (.ref b1)])) _
    refine XS.lloadN X41.here hx rfl (hb hby d5_116) rfl ?_
    show Steps p.tables e below (T41.setTop (mkF m 117 (LS_RRJsRJs r0 r1 (36028797018963967 : Int64) b1 z48) [(.long (36028797018963967 : Int64)), (.long z48), (.int (4 : Int32)), (.ref b1)])) _
    refine XS.land X41.here hx rfl (hb hby d5_117) rfl ?_
    exact k
  obtain ⟨cl49, Ar49, qa49, Sa49, Na49, Ha49, Ga49⟩ := id V41
  have hin50 : ¬ ((4 : Int32) < 0 ∨ cl49.slots.size ≤ ((4 : Int32)).toNatClampNeg) := inb_of Sa49 ⟨by decide, by decide⟩
  obtain ⟨T50, h50, X50, e50, W50, st50⟩ := stJ X41 hx hZ e41 Ar49 (j := (4 : Int32)) hin50 (g := (mkF m 118 (LS_RRJsRJs r0 r1 (36028797018963967 : Int64) b1 z48) [(.long (z48 &&& (36028797018963967 : Int64))), (.int (4 : Int32)), (.ref b1)])) rfl rfl (hb hby d5_118)
  have N50 := Fr.snoc X50 N41 g_b1
  have V50 : Arv Z h50 b1 k1 .long (7 : Int32) [(.long (z8 &&& (36028797018963967 : Int64))), (.long (z19 &&& (36028797018963967 : Int64))), (.long (z30 &&& (36028797018963967 : Int64))), (.long (z39 &&& (36028797018963967 : Int64))), (.long (z48 &&& (36028797018963967 : Int64))), (.long (0 : Int64)), (.long (0 : Int64))] (.long (0 : Int64)) := Arv.set Ar49 qa49 Sa49 Na49 Ha49 Ga49 rfl W50 4 rfl (Nat.le_of_ble_eq_true rfl)
  refine own_go (B := T50.setTop (mkF m 119 (LS_RRJsRJs r0 r1 (36028797018963967 : Int64) b1 z48) [])) (fun t k => st50 _ k) ?_
  have Vq1_v52 := Vq1_v43.other W50 ne13
  obtain ⟨cl51, Ar51, qa51, Sa51, Na51, Ha51, Ga51⟩ := id Vq1_v52
  have hin53 : ¬ ((5 : Int32) < 0 ∨ cl51.slots.size ≤ ((5 : Int32)).toNatClampNeg) := inb_of Sa51 ⟨by decide, by decide⟩
  have hat53 : cl51.slots[((5 : Int32)).toNatClampNeg]? = some (.long x5) := Has.at Ha51 hin53 rfl
  have Vq2_v55 := Vq2_v46.other W50 ne17
  obtain ⟨cl54, Ar54, qa54, Sa54, Na54, Ha54, Ga54⟩ := id Vq2_v55
  have hin56 : ¬ ((5 : Int32) < 0 ∨ cl54.slots.size ≤ ((5 : Int32)).toNatClampNeg) := inb_of Sa54 ⟨by decide, by decide⟩
  have hat56 : cl54.slots[((5 : Int32)).toNatClampNeg]? = some (.long y5) := Has.at Ha54 hin56 rfl
  refine own_go (B := T50.setTop (mkF m 134 (LS_RRJsRJs r0 r1 (36028797018963967 : Int64) b1 ((x5 + y5) + ((z48.toUInt64 >>> ((55 : Int32) &&& 0x3f).toInt64.toUInt64).toInt64))) [])) (fun t k => ?_) ?_
  · show Steps p.tables e below (T50.setTop (mkF m 119 (LS_RRJsRJs r0 r1 (36028797018963967 : Int64) b1 z48) [])) _
    refine XS.aloadN X50.here hx rfl (hb hby d5_119) rfl rfl ?_
    show Steps p.tables e below (T50.setTop (mkF m 120 (LS_RRJsRJs r0 r1 (36028797018963967 : Int64) b1 z48) [(.ref r0)])) _
    refine XS.iconst X50.here hx rfl (hb hby d5_120) ?_
    show Steps p.tables e below (T50.setTop (mkF m 121 (LS_RRJsRJs r0 r1 (36028797018963967 : Int64) b1 z48) [(.int (5 : Int32)), (.ref r0)])) _
    refine X50.laload hx (j := (5 : Int32)) (v := (.long x5)) (by rw [e50]; exact Ar51.1) (State.isArrayOf_alike hZ.alike Ar51.2.1) Ar51.2.2 hin53 hat53 (g := (mkF m 121 (LS_RRJsRJs r0 r1 (36028797018963967 : Int64) b1 z48) [(.int (5 : Int32)), (.ref r0)])) rfl rfl (hb hby d5_121) _ ?_
    show Steps p.tables e below (T50.setTop (mkF m 122 (LS_RRJsRJs r0 r1 (36028797018963967 : Int64) b1 z48) [(.long x5)])) _
    refine XS.aloadN X50.here hx rfl (hb hby d5_122) rfl rfl ?_
    show Steps p.tables e below (T50.setTop (mkF m 123 (LS_RRJsRJs r0 r1 (36028797018963967 : Int64) b1 z48) [(.ref r1), (.long x5)])) _
    refine XS.iconst X50.here hx rfl (hb hby d5_123) ?_
    show Steps p.tables e below (T50.setTop (mkF m 124 (LS_RRJsRJs r0 r1 (36028797018963967 : Int64) b1 z48) [(.int (5 : Int32)), (.ref r1), (.long x5)])) _
    refine X50.laload hx (j := (5 : Int32)) (v := (.long y5)) (by rw [e50]; exact Ar54.1) (State.isArrayOf_alike hZ.alike Ar54.2.1) Ar54.2.2 hin56 hat56 (g := (mkF m 124 (LS_RRJsRJs r0 r1 (36028797018963967 : Int64) b1 z48) [(.int (5 : Int32)), (.ref r1), (.long x5)])) rfl rfl (hb hby d5_124) _ ?_
    show Steps p.tables e below (T50.setTop (mkF m 125 (LS_RRJsRJs r0 r1 (36028797018963967 : Int64) b1 z48) [(.long y5), (.long x5)])) _
    refine XS.ladd X50.here hx rfl (hb hby d5_125) rfl ?_
    show Steps p.tables e below (T50.setTop (mkF m 126 (LS_RRJsRJs r0 r1 (36028797018963967 : Int64) b1 z48) [(.long (x5 + y5))])) _
    refine XS.lload X50.here hx rfl (hb hby d5_126) rfl ?_
    show Steps p.tables e below (T50.setTop (mkF m 128 (LS_RRJsRJs r0 r1 (36028797018963967 : Int64) b1 z48) [(.long z48), (.long (x5 + y5))])) _
    refine XS.bipush X50.here hx rfl (hb hby d5_128) ?_
    show Steps p.tables e below (T50.setTop (mkF m 130 (LS_RRJsRJs r0 r1 (36028797018963967 : Int64) b1 z48) [(.int (55 : Int32)), (.long z48), (.long (x5 + y5))])) _
    refine XS.lushr X50.here hx rfl (hb hby d5_130) rfl ?_
    show Steps p.tables e below (T50.setTop (mkF m 131 (LS_RRJsRJs r0 r1 (36028797018963967 : Int64) b1 z48) [(.long ((z48.toUInt64 >>> ((55 : Int32) &&& 0x3f).toInt64.toUInt64).toInt64)), (.long (x5 + y5))])) _
    refine XS.ladd X50.here hx rfl (hb hby d5_131) rfl ?_
    show Steps p.tables e below (T50.setTop (mkF m 132 (LS_RRJsRJs r0 r1 (36028797018963967 : Int64) b1 z48) [(.long ((x5 + y5) + ((z48.toUInt64 >>> ((55 : Int32) &&& 0x3f).toInt64.toUInt64).toInt64)))])) _
    refine XS.lstore X50.here hx rfl (hb hby d5_132) rfl (l' := (LS_RRJsRJs r0 r1 (36028797018963967 : Int64) b1 ((x5 + y5) + ((z48.toUInt64 >>> ((55 : Int32) &&& 0x3f).toInt64.toUInt64).toInt64)))) rfl ?_
    exact k
  obtain ⟨z57, hz57⟩ : ∃ z, z = ((x5 + y5) + ((z48.toUInt64 >>> ((55 : Int32) &&& 0x3f).toInt64.toUInt64).toInt64)) := ⟨_, rfl⟩
  refine own_go (B := T50.setTop (mkF m 134 (LS_RRJsRJs r0 r1 (36028797018963967 : Int64) b1 z57) [])) (fun t k => by rw [hz57] at k; exact k) ?_
  refine own_go (B := T50.setTop (mkF m 141 (LS_RRJsRJs r0 r1 (36028797018963967 : Int64) b1 z57) [(.long (z57 &&& (36028797018963967 : Int64))), (.int (5 : Int32)), (.ref b1)])) (fun t k => ?_) ?_
  · show Steps p.tables e below (T50.setTop (mkF m 134 (LS_RRJsRJs r0 r1 (36028797018963967 : Int64) b1 z57) [])) _
    refine XS.aload X50.here hx rfl (hb hby d5_134) rfl rfl ?_
    show Steps p.tables e below (T50.setTop (mkF m 136 (LS_RRJsRJs r0 r1 (36028797018963967 : Int64) b1 z57) [(.ref b1)])) _
    refine XS.iconst X50.here hx rfl (hb hby d5_136) ?_
    show Steps p.tables e below (T50.setTop (mkF m 137 (LS_RRJsRJs r0 r1 (36028797018963967 : Int64) b1 z57) [(.int (5 : Int32)), (.ref b1)])) _
    refine XS.lload X50.here hx rfl (hb hby d5_137) rfl ?_
    show Steps p.tables e below (T50.setTop (mkF m 139 (LS_RRJsRJs r0 r1 (36028797018963967 : Int64) b1 z57) [(.long z57), (.int (5 : Int32)), (.ref b1)])) _
    refine XS.lloadN X50.here hx rfl (hb hby d5_139) rfl ?_
    show Steps p.tables e below (T50.setTop (mkF m 140 (LS_RRJsRJs r0 r1 (36028797018963967 : Int64) b1 z57) [(.long (36028797018963967 : Int64)), (.long z57), (.int (5 : Int32)), (.ref b1)])) _
    refine XS.land X50.here hx rfl (hb hby d5_140) rfl ?_
    exact k
  obtain ⟨cl58, Ar58, qa58, Sa58, Na58, Ha58, Ga58⟩ := id V50
  have hin59 : ¬ ((5 : Int32) < 0 ∨ cl58.slots.size ≤ ((5 : Int32)).toNatClampNeg) := inb_of Sa58 ⟨by decide, by decide⟩
  obtain ⟨T59, h59, X59, e59, W59, st59⟩ := stJ X50 hx hZ e50 Ar58 (j := (5 : Int32)) hin59 (g := (mkF m 141 (LS_RRJsRJs r0 r1 (36028797018963967 : Int64) b1 z57) [(.long (z57 &&& (36028797018963967 : Int64))), (.int (5 : Int32)), (.ref b1)])) rfl rfl (hb hby d5_141)
  have N59 := Fr.snoc X59 N50 g_b1
  have V59 : Arv Z h59 b1 k1 .long (7 : Int32) [(.long (z8 &&& (36028797018963967 : Int64))), (.long (z19 &&& (36028797018963967 : Int64))), (.long (z30 &&& (36028797018963967 : Int64))), (.long (z39 &&& (36028797018963967 : Int64))), (.long (z48 &&& (36028797018963967 : Int64))), (.long (z57 &&& (36028797018963967 : Int64))), (.long (0 : Int64))] (.long (0 : Int64)) := Arv.set Ar58 qa58 Sa58 Na58 Ha58 Ga58 rfl W59 5 rfl (Nat.le_of_ble_eq_true rfl)
  refine own_go (B := T59.setTop (mkF m 142 (LS_RRJsRJs r0 r1 (36028797018963967 : Int64) b1 z57) [])) (fun t k => st59 _ k) ?_
  have Vq1_v61 := Vq1_v52.other W59 ne13
  obtain ⟨cl60, Ar60, qa60, Sa60, Na60, Ha60, Ga60⟩ := id Vq1_v61
  have hin62 : ¬ ((6 : Int32) < 0 ∨ cl60.slots.size ≤ ((6 : Int32)).toNatClampNeg) := inb_of Sa60 ⟨by decide, by decide⟩
  have hat62 : cl60.slots[((6 : Int32)).toNatClampNeg]? = some (.long x6) := Has.at Ha60 hin62 rfl
  have Vq2_v64 := Vq2_v55.other W59 ne17
  obtain ⟨cl63, Ar63, qa63, Sa63, Na63, Ha63, Ga63⟩ := id Vq2_v64
  have hin65 : ¬ ((6 : Int32) < 0 ∨ cl63.slots.size ≤ ((6 : Int32)).toNatClampNeg) := inb_of Sa63 ⟨by decide, by decide⟩
  have hat65 : cl63.slots[((6 : Int32)).toNatClampNeg]? = some (.long y6) := Has.at Ha63 hin65 rfl
  refine own_go (B := T59.setTop (mkF m 159 (LS_RRJsRJs r0 r1 (36028797018963967 : Int64) b1 ((x6 + y6) + ((z57.toUInt64 >>> ((55 : Int32) &&& 0x3f).toInt64.toUInt64).toInt64))) [])) (fun t k => ?_) ?_
  · show Steps p.tables e below (T59.setTop (mkF m 142 (LS_RRJsRJs r0 r1 (36028797018963967 : Int64) b1 z57) [])) _
    refine XS.aloadN X59.here hx rfl (hb hby d5_142) rfl rfl ?_
    show Steps p.tables e below (T59.setTop (mkF m 143 (LS_RRJsRJs r0 r1 (36028797018963967 : Int64) b1 z57) [(.ref r0)])) _
    refine XS.bipush X59.here hx rfl (hb hby d5_143) ?_
    show Steps p.tables e below (T59.setTop (mkF m 145 (LS_RRJsRJs r0 r1 (36028797018963967 : Int64) b1 z57) [(.int (6 : Int32)), (.ref r0)])) _
    refine X59.laload hx (j := (6 : Int32)) (v := (.long x6)) (by rw [e59]; exact Ar60.1) (State.isArrayOf_alike hZ.alike Ar60.2.1) Ar60.2.2 hin62 hat62 (g := (mkF m 145 (LS_RRJsRJs r0 r1 (36028797018963967 : Int64) b1 z57) [(.int (6 : Int32)), (.ref r0)])) rfl rfl (hb hby d5_145) _ ?_
    show Steps p.tables e below (T59.setTop (mkF m 146 (LS_RRJsRJs r0 r1 (36028797018963967 : Int64) b1 z57) [(.long x6)])) _
    refine XS.aloadN X59.here hx rfl (hb hby d5_146) rfl rfl ?_
    show Steps p.tables e below (T59.setTop (mkF m 147 (LS_RRJsRJs r0 r1 (36028797018963967 : Int64) b1 z57) [(.ref r1), (.long x6)])) _
    refine XS.bipush X59.here hx rfl (hb hby d5_147) ?_
    show Steps p.tables e below (T59.setTop (mkF m 149 (LS_RRJsRJs r0 r1 (36028797018963967 : Int64) b1 z57) [(.int (6 : Int32)), (.ref r1), (.long x6)])) _
    refine X59.laload hx (j := (6 : Int32)) (v := (.long y6)) (by rw [e59]; exact Ar63.1) (State.isArrayOf_alike hZ.alike Ar63.2.1) Ar63.2.2 hin65 hat65 (g := (mkF m 149 (LS_RRJsRJs r0 r1 (36028797018963967 : Int64) b1 z57) [(.int (6 : Int32)), (.ref r1), (.long x6)])) rfl rfl (hb hby d5_149) _ ?_
    show Steps p.tables e below (T59.setTop (mkF m 150 (LS_RRJsRJs r0 r1 (36028797018963967 : Int64) b1 z57) [(.long y6), (.long x6)])) _
    refine XS.ladd X59.here hx rfl (hb hby d5_150) rfl ?_
    show Steps p.tables e below (T59.setTop (mkF m 151 (LS_RRJsRJs r0 r1 (36028797018963967 : Int64) b1 z57) [(.long (x6 + y6))])) _
    refine XS.lload X59.here hx rfl (hb hby d5_151) rfl ?_
    show Steps p.tables e below (T59.setTop (mkF m 153 (LS_RRJsRJs r0 r1 (36028797018963967 : Int64) b1 z57) [(.long z57), (.long (x6 + y6))])) _
    refine XS.bipush X59.here hx rfl (hb hby d5_153) ?_
    show Steps p.tables e below (T59.setTop (mkF m 155 (LS_RRJsRJs r0 r1 (36028797018963967 : Int64) b1 z57) [(.int (55 : Int32)), (.long z57), (.long (x6 + y6))])) _
    refine XS.lushr X59.here hx rfl (hb hby d5_155) rfl ?_
    show Steps p.tables e below (T59.setTop (mkF m 156 (LS_RRJsRJs r0 r1 (36028797018963967 : Int64) b1 z57) [(.long ((z57.toUInt64 >>> ((55 : Int32) &&& 0x3f).toInt64.toUInt64).toInt64)), (.long (x6 + y6))])) _
    refine XS.ladd X59.here hx rfl (hb hby d5_156) rfl ?_
    show Steps p.tables e below (T59.setTop (mkF m 157 (LS_RRJsRJs r0 r1 (36028797018963967 : Int64) b1 z57) [(.long ((x6 + y6) + ((z57.toUInt64 >>> ((55 : Int32) &&& 0x3f).toInt64.toUInt64).toInt64)))])) _
    refine XS.lstore X59.here hx rfl (hb hby d5_157) rfl (l' := (LS_RRJsRJs r0 r1 (36028797018963967 : Int64) b1 ((x6 + y6) + ((z57.toUInt64 >>> ((55 : Int32) &&& 0x3f).toInt64.toUInt64).toInt64)))) rfl ?_
    exact k
  obtain ⟨z66, hz66⟩ : ∃ z, z = ((x6 + y6) + ((z57.toUInt64 >>> ((55 : Int32) &&& 0x3f).toInt64.toUInt64).toInt64)) := ⟨_, rfl⟩
  refine own_go (B := T59.setTop (mkF m 159 (LS_RRJsRJs r0 r1 (36028797018963967 : Int64) b1 z66) [])) (fun t k => by rw [hz66] at k; exact k) ?_
  refine own_go (B := T59.setTop (mkF m 167 (LS_RRJsRJs r0 r1 (36028797018963967 : Int64) b1 z66) [(.long (z66 &&& (36028797018963967 : Int64))), (.int (6 : Int32)), (.ref b1)])) (fun t k => ?_) ?_
  · show Steps p.tables e below (T59.setTop (mkF m 159 (LS_RRJsRJs r0 r1 (36028797018963967 : Int64) b1 z66) [])) _
    refine XS.aload X59.here hx rfl (hb hby d5_159) rfl rfl ?_
    show Steps p.tables e below (T59.setTop (mkF m 161 (LS_RRJsRJs r0 r1 (36028797018963967 : Int64) b1 z66) [(.ref b1)])) _
    refine XS.bipush X59.here hx rfl (hb hby d5_161) ?_
    show Steps p.tables e below (T59.setTop (mkF m 163 (LS_RRJsRJs r0 r1 (36028797018963967 : Int64) b1 z66) [(.int (6 : Int32)), (.ref b1)])) _
    refine XS.lload X59.here hx rfl (hb hby d5_163) rfl ?_
    show Steps p.tables e below (T59.setTop (mkF m 165 (LS_RRJsRJs r0 r1 (36028797018963967 : Int64) b1 z66) [(.long z66), (.int (6 : Int32)), (.ref b1)])) _
    refine XS.lloadN X59.here hx rfl (hb hby d5_165) rfl ?_
    show Steps p.tables e below (T59.setTop (mkF m 166 (LS_RRJsRJs r0 r1 (36028797018963967 : Int64) b1 z66) [(.long (36028797018963967 : Int64)), (.long z66), (.int (6 : Int32)), (.ref b1)])) _
    refine XS.land X59.here hx rfl (hb hby d5_166) rfl ?_
    exact k
  obtain ⟨cl67, Ar67, qa67, Sa67, Na67, Ha67, Ga67⟩ := id V59
  have hin68 : ¬ ((6 : Int32) < 0 ∨ cl67.slots.size ≤ ((6 : Int32)).toNatClampNeg) := inb_of Sa67 ⟨by decide, by decide⟩
  obtain ⟨T68, h68, X68, e68, W68, st68⟩ := stJ X59 hx hZ e59 Ar67 (j := (6 : Int32)) hin68 (g := (mkF m 167 (LS_RRJsRJs r0 r1 (36028797018963967 : Int64) b1 z66) [(.long (z66 &&& (36028797018963967 : Int64))), (.int (6 : Int32)), (.ref b1)])) rfl rfl (hb hby d5_167)
  have N68 := Fr.snoc X68 N59 g_b1
  have V68 : Arv Z h68 b1 k1 .long (7 : Int32) [(.long (z8 &&& (36028797018963967 : Int64))), (.long (z19 &&& (36028797018963967 : Int64))), (.long (z30 &&& (36028797018963967 : Int64))), (.long (z39 &&& (36028797018963967 : Int64))), (.long (z48 &&& (36028797018963967 : Int64))), (.long (z57 &&& (36028797018963967 : Int64))), (.long (z66 &&& (36028797018963967 : Int64)))] (.long (0 : Int64)) := Arv.set Ar67 qa67 Sa67 Na67 Ha67 Ga67 rfl W68 6 rfl (Nat.le_of_ble_eq_true rfl)
  refine own_go (B := T68.setTop (mkF m 168 (LS_RRJsRJs r0 r1 (36028797018963967 : Int64) b1 z66) [])) (fun t k => st68 _ k) ?_
  refine own_go (B := T68.setTop (mkF m 170 (LS_RRJsRJs r0 r1 (36028797018963967 : Int64) b1 z66) [(.ref b1)])) (fun t k => ?_) ?_
  · show Steps p.tables e below (T68.setTop (mkF m 168 (LS_RRJsRJs r0 r1 (36028797018963967 : Int64) b1 z66) [])) _
    refine XS.aload X68.here hx rfl (hb hby d5_168) rfl rfl ?_
    exact k
  obtain ⟨fs, hr, hrun, hended, hW, hsame⟩ := X68.leave (v := some (.ref b1)) (fun h => by rw [Bd.returns] at h; cases h)
  refine ⟨_, _, ?_, hrun, hended, _, _, rfl, ?_, ⟨_, rfl⟩, hW, hsame.mono (by decide) (by decide)⟩
  · show Steps p.tables e below (T68.setTop (mkF m 170 (LS_RRJsRJs r0 r1 (36028797018963967 : Int64) b1 z66) [(.ref b1)])) _
    exact retOut X68 hx Bd.returns rfl (Or.inr (Or.inr (Or.inr (Or.inr ⟨rfl, rfl, rfl⟩)))) (hb hby d5_170) hr
  · show Q5 Z r0 r1 kq1 kq2 x0 x1 x2 x3 x4 x5 x6 y0 y1 y2 y3 y4 y5 y6 h0 n0 _ T68.heap _
    rw [e68]
    have K0_v69 := K0.ext E1
    have K0_v70 := K0_v69.wr W10 (Or.inr sz_b1)
    have K0_v71 := K0_v70.wr W21 (Or.inr sz_b1)
    have K0_v72 := K0_v71.wr W32 (Or.inr sz_b1)
    have K0_v73 := K0_v72.wr W41 (Or.inr sz_b1)
    have K0_v74 := K0_v73.wr W50 (Or.inr sz_b1)
    have K0_v75 := K0_v74.wr W59 (Or.inr sz_b1)
    have K0_v76 := K0_v75.wr W68 (Or.inr sz_b1)
    exact ⟨b1, k1, (z8 &&& (36028797018963967 : Int64)), (z19 &&& (36028797018963967 : Int64)), (z30 &&& (36028797018963967 : Int64)), (z39 &&& (36028797018963967 : Int64)), (z48 &&& (36028797018963967 : Int64)), (z57 &&& (36028797018963967 : Int64)), (z66 &&& (36028797018963967 : Int64)), rfl, N68, sz_b1, K0_v76, V68, own_mrng _, own_mrng _, own_mrng _, own_mrng _, own_mrng _, own_mrng _, own_mrng _⟩
theorem ef_6 (m : MethodId) (r0 : Addr) (r1 : Addr) : entryFrame m #[(.ref r0), (.ref r1)] 7 = mkF m 0 #[.val (.ref r0), .val (.ref r1), .unset, .unset, .unset, .unset, .unset] [] := by first | (simp [entryFrame, mkF, argsToLocals, Value.category]; done) | rfl
theorem pn_6 : plainName "com/example/barred_rows/barredrows/crypto/FpIsZeroPinLaw" = true := by first | (simp [plainName, overriddenIn]; done) | decide +kernel
theorem d6_0 : decode method_4_code 0 = .ok (.ldc2_w 7, 3) := by decide +kernel
theorem d6_3 : decode method_4_code 3 = .ok (.lstore_n 2, 1) := by decide +kernel
theorem d6_4 : decode method_4_code 4 = .ok (.bipush 7, 2) := by decide +kernel
theorem d6_6 : decode method_4_code 6 = .ok (.newarray .long, 2) := by decide +kernel
theorem d6_8 : decode method_4_code 8 = .ok (.astore 4, 2) := by decide +kernel
theorem d6_10 : decode method_4_code 10 = .ok (.aload_n 0, 1) := by decide +kernel
theorem d6_11 : decode method_4_code 11 = .ok (.iconst 0, 1) := by decide +kernel
theorem d6_12 : decode method_4_code 12 = .ok (.laload, 1) := by decide +kernel
theorem d6_13 : decode method_4_code 13 = .ok (.aload_n 1, 1) := by decide +kernel
theorem d6_14 : decode method_4_code 14 = .ok (.iconst 0, 1) := by decide +kernel
theorem d6_15 : decode method_4_code 15 = .ok (.laload, 1) := by decide +kernel
theorem d6_16 : decode method_4_code 16 = .ok (.lsub, 1) := by decide +kernel
theorem d6_17 : decode method_4_code 17 = .ok (.lstore 5, 2) := by decide +kernel
theorem d6_19 : decode method_4_code 19 = .ok (.aload 4, 2) := by decide +kernel
theorem d6_21 : decode method_4_code 21 = .ok (.iconst 0, 1) := by decide +kernel
theorem d6_22 : decode method_4_code 22 = .ok (.lload 5, 2) := by decide +kernel
theorem d6_24 : decode method_4_code 24 = .ok (.lload_n 2, 1) := by decide +kernel
theorem d6_25 : decode method_4_code 25 = .ok (.land, 1) := by decide +kernel
theorem d6_26 : decode method_4_code 26 = .ok (.lastore, 1) := by decide +kernel
theorem d6_27 : decode method_4_code 27 = .ok (.aload_n 0, 1) := by decide +kernel
theorem d6_28 : decode method_4_code 28 = .ok (.iconst 1, 1) := by decide +kernel
theorem d6_29 : decode method_4_code 29 = .ok (.laload, 1) := by decide +kernel
theorem d6_30 : decode method_4_code 30 = .ok (.aload_n 1, 1) := by decide +kernel
theorem d6_31 : decode method_4_code 31 = .ok (.iconst 1, 1) := by decide +kernel
theorem d6_32 : decode method_4_code 32 = .ok (.laload, 1) := by decide +kernel
theorem d6_33 : decode method_4_code 33 = .ok (.lsub, 1) := by decide +kernel
theorem d6_34 : decode method_4_code 34 = .ok (.lload 5, 2) := by decide +kernel
theorem d6_36 : decode method_4_code 36 = .ok (.bipush 63, 2) := by decide +kernel
theorem d6_38 : decode method_4_code 38 = .ok (.lushr, 1) := by decide +kernel
theorem d6_39 : decode method_4_code 39 = .ok (.lsub, 1) := by decide +kernel
theorem d6_40 : decode method_4_code 40 = .ok (.lstore 5, 2) := by decide +kernel
theorem d6_42 : decode method_4_code 42 = .ok (.aload 4, 2) := by decide +kernel
theorem d6_44 : decode method_4_code 44 = .ok (.iconst 1, 1) := by decide +kernel
theorem d6_45 : decode method_4_code 45 = .ok (.lload 5, 2) := by decide +kernel
theorem d6_47 : decode method_4_code 47 = .ok (.lload_n 2, 1) := by decide +kernel
theorem d6_48 : decode method_4_code 48 = .ok (.land, 1) := by decide +kernel
theorem d6_49 : decode method_4_code 49 = .ok (.lastore, 1) := by decide +kernel
theorem d6_50 : decode method_4_code 50 = .ok (.aload_n 0, 1) := by decide +kernel
theorem d6_51 : decode method_4_code 51 = .ok (.iconst 2, 1) := by decide +kernel
theorem d6_52 : decode method_4_code 52 = .ok (.laload, 1) := by decide +kernel
theorem d6_53 : decode method_4_code 53 = .ok (.aload_n 1, 1) := by decide +kernel
theorem d6_54 : decode method_4_code 54 = .ok (.iconst 2, 1) := by decide +kernel
theorem d6_55 : decode method_4_code 55 = .ok (.laload, 1) := by decide +kernel
theorem d6_56 : decode method_4_code 56 = .ok (.lsub, 1) := by decide +kernel
theorem d6_57 : decode method_4_code 57 = .ok (.lload 5, 2) := by decide +kernel
theorem d6_59 : decode method_4_code 59 = .ok (.bipush 63, 2) := by decide +kernel
theorem d6_61 : decode method_4_code 61 = .ok (.lushr, 1) := by decide +kernel
theorem d6_62 : decode method_4_code 62 = .ok (.lsub, 1) := by decide +kernel
theorem d6_63 : decode method_4_code 63 = .ok (.lstore 5, 2) := by decide +kernel
theorem d6_65 : decode method_4_code 65 = .ok (.aload 4, 2) := by decide +kernel
theorem d6_67 : decode method_4_code 67 = .ok (.iconst 2, 1) := by decide +kernel
theorem d6_68 : decode method_4_code 68 = .ok (.lload 5, 2) := by decide +kernel
theorem d6_70 : decode method_4_code 70 = .ok (.lload_n 2, 1) := by decide +kernel
theorem d6_71 : decode method_4_code 71 = .ok (.land, 1) := by decide +kernel
theorem d6_72 : decode method_4_code 72 = .ok (.lastore, 1) := by decide +kernel
theorem d6_73 : decode method_4_code 73 = .ok (.aload_n 0, 1) := by decide +kernel
theorem d6_74 : decode method_4_code 74 = .ok (.iconst 3, 1) := by decide +kernel
theorem d6_75 : decode method_4_code 75 = .ok (.laload, 1) := by decide +kernel
theorem d6_76 : decode method_4_code 76 = .ok (.aload_n 1, 1) := by decide +kernel
theorem d6_77 : decode method_4_code 77 = .ok (.iconst 3, 1) := by decide +kernel
theorem d6_78 : decode method_4_code 78 = .ok (.laload, 1) := by decide +kernel
theorem d6_79 : decode method_4_code 79 = .ok (.lsub, 1) := by decide +kernel
theorem d6_80 : decode method_4_code 80 = .ok (.lload 5, 2) := by decide +kernel
theorem d6_82 : decode method_4_code 82 = .ok (.bipush 63, 2) := by decide +kernel
theorem d6_84 : decode method_4_code 84 = .ok (.lushr, 1) := by decide +kernel
theorem d6_85 : decode method_4_code 85 = .ok (.lsub, 1) := by decide +kernel
theorem d6_86 : decode method_4_code 86 = .ok (.lstore 5, 2) := by decide +kernel
theorem d6_88 : decode method_4_code 88 = .ok (.aload 4, 2) := by decide +kernel
theorem d6_90 : decode method_4_code 90 = .ok (.iconst 3, 1) := by decide +kernel
theorem d6_91 : decode method_4_code 91 = .ok (.lload 5, 2) := by decide +kernel
theorem d6_93 : decode method_4_code 93 = .ok (.lload_n 2, 1) := by decide +kernel
theorem d6_94 : decode method_4_code 94 = .ok (.land, 1) := by decide +kernel
theorem d6_95 : decode method_4_code 95 = .ok (.lastore, 1) := by decide +kernel
theorem d6_96 : decode method_4_code 96 = .ok (.aload_n 0, 1) := by decide +kernel
theorem d6_97 : decode method_4_code 97 = .ok (.iconst 4, 1) := by decide +kernel
theorem d6_98 : decode method_4_code 98 = .ok (.laload, 1) := by decide +kernel
theorem d6_99 : decode method_4_code 99 = .ok (.aload_n 1, 1) := by decide +kernel
theorem d6_100 : decode method_4_code 100 = .ok (.iconst 4, 1) := by decide +kernel
theorem d6_101 : decode method_4_code 101 = .ok (.laload, 1) := by decide +kernel
theorem d6_102 : decode method_4_code 102 = .ok (.lsub, 1) := by decide +kernel
theorem d6_103 : decode method_4_code 103 = .ok (.lload 5, 2) := by decide +kernel
theorem d6_105 : decode method_4_code 105 = .ok (.bipush 63, 2) := by decide +kernel
theorem d6_107 : decode method_4_code 107 = .ok (.lushr, 1) := by decide +kernel
theorem d6_108 : decode method_4_code 108 = .ok (.lsub, 1) := by decide +kernel
theorem d6_109 : decode method_4_code 109 = .ok (.lstore 5, 2) := by decide +kernel
theorem d6_111 : decode method_4_code 111 = .ok (.aload 4, 2) := by decide +kernel
theorem d6_113 : decode method_4_code 113 = .ok (.iconst 4, 1) := by decide +kernel
theorem d6_114 : decode method_4_code 114 = .ok (.lload 5, 2) := by decide +kernel
theorem d6_116 : decode method_4_code 116 = .ok (.lload_n 2, 1) := by decide +kernel
theorem d6_117 : decode method_4_code 117 = .ok (.land, 1) := by decide +kernel
theorem d6_118 : decode method_4_code 118 = .ok (.lastore, 1) := by decide +kernel
theorem d6_119 : decode method_4_code 119 = .ok (.aload_n 0, 1) := by decide +kernel
theorem d6_120 : decode method_4_code 120 = .ok (.iconst 5, 1) := by decide +kernel
theorem d6_121 : decode method_4_code 121 = .ok (.laload, 1) := by decide +kernel
theorem d6_122 : decode method_4_code 122 = .ok (.aload_n 1, 1) := by decide +kernel
theorem d6_123 : decode method_4_code 123 = .ok (.iconst 5, 1) := by decide +kernel
theorem d6_124 : decode method_4_code 124 = .ok (.laload, 1) := by decide +kernel
theorem d6_125 : decode method_4_code 125 = .ok (.lsub, 1) := by decide +kernel
theorem d6_126 : decode method_4_code 126 = .ok (.lload 5, 2) := by decide +kernel
theorem d6_128 : decode method_4_code 128 = .ok (.bipush 63, 2) := by decide +kernel
theorem d6_130 : decode method_4_code 130 = .ok (.lushr, 1) := by decide +kernel
theorem d6_131 : decode method_4_code 131 = .ok (.lsub, 1) := by decide +kernel
theorem d6_132 : decode method_4_code 132 = .ok (.lstore 5, 2) := by decide +kernel
theorem d6_134 : decode method_4_code 134 = .ok (.aload 4, 2) := by decide +kernel
theorem d6_136 : decode method_4_code 136 = .ok (.iconst 5, 1) := by decide +kernel
theorem d6_137 : decode method_4_code 137 = .ok (.lload 5, 2) := by decide +kernel
theorem d6_139 : decode method_4_code 139 = .ok (.lload_n 2, 1) := by decide +kernel
theorem d6_140 : decode method_4_code 140 = .ok (.land, 1) := by decide +kernel
theorem d6_141 : decode method_4_code 141 = .ok (.lastore, 1) := by decide +kernel
theorem d6_142 : decode method_4_code 142 = .ok (.aload_n 0, 1) := by decide +kernel
theorem d6_143 : decode method_4_code 143 = .ok (.bipush 6, 2) := by decide +kernel
theorem d6_145 : decode method_4_code 145 = .ok (.laload, 1) := by decide +kernel
theorem d6_146 : decode method_4_code 146 = .ok (.aload_n 1, 1) := by decide +kernel
theorem d6_147 : decode method_4_code 147 = .ok (.bipush 6, 2) := by decide +kernel
theorem d6_149 : decode method_4_code 149 = .ok (.laload, 1) := by decide +kernel
theorem d6_150 : decode method_4_code 150 = .ok (.lsub, 1) := by decide +kernel
theorem d6_151 : decode method_4_code 151 = .ok (.lload 5, 2) := by decide +kernel
theorem d6_153 : decode method_4_code 153 = .ok (.bipush 63, 2) := by decide +kernel
theorem d6_155 : decode method_4_code 155 = .ok (.lushr, 1) := by decide +kernel
theorem d6_156 : decode method_4_code 156 = .ok (.lsub, 1) := by decide +kernel
theorem d6_157 : decode method_4_code 157 = .ok (.lstore 5, 2) := by decide +kernel
theorem d6_159 : decode method_4_code 159 = .ok (.aload 4, 2) := by decide +kernel
theorem d6_161 : decode method_4_code 161 = .ok (.bipush 6, 2) := by decide +kernel
theorem d6_163 : decode method_4_code 163 = .ok (.lload 5, 2) := by decide +kernel
theorem d6_165 : decode method_4_code 165 = .ok (.lload_n 2, 1) := by decide +kernel
theorem d6_166 : decode method_4_code 166 = .ok (.land, 1) := by decide +kernel
theorem d6_167 : decode method_4_code 167 = .ok (.lastore, 1) := by decide +kernel
theorem d6_168 : decode method_4_code 168 = .ok (.aload 4, 2) := by decide +kernel
theorem d6_170 : decode method_4_code 170 = .ok (.areturn, 1) := by decide +kernel
def Q6 (Z : State) (r0 : Addr) (r1 : Addr) (kq1 kq2 : ClassId) (x0 x1 x2 x3 x4 x5 x6 y0 y1 y2 y3 y4 y5 y6 : Int64) (h0 : Heap) (n0 : Nat) (v : Option Value) (h : Heap) (L : List Loc) : Prop := ∃ (r : Addr) (k : ClassId) (z0 z1 z2 z3 z4 z5 z6 : Int64), v = some (.ref r) ∧ Fr n0 L ∧ h0.size ≤ r ∧ Keep h0 h [] ∧ Arv Z h r k .long (7 : Int32) [(.long z0), (.long z1), (.long z2), (.long z3), (.long z4), (.long z5), (.long z6)] (.long (0 : Int64)) ∧ (0 ≤ (z0).toInt ∧ (z0).toInt < 36028797018963968) ∧ (0 ≤ (z1).toInt ∧ (z1).toInt < 36028797018963968) ∧ (0 ≤ (z2).toInt ∧ (z2).toInt < 36028797018963968) ∧ (0 ≤ (z3).toInt ∧ (z3).toInt < 36028797018963968) ∧ (0 ≤ (z4).toInt ∧ (z4).toInt < 36028797018963968) ∧ (0 ≤ (z5).toInt ∧ (z5).toInt < 36028797018963968) ∧ (0 ≤ (z6).toInt ∧ (z6).toInt < 36028797018963968)
set_option maxRecDepth 65536 in
set_option maxHeartbeats 40000000 in
theorem rm6 (l : Launch) (Z : State) (a0 : Array Value) (hw : ∀ d ∈ tables_1, d.before a0 Z = true) (ws : List Jvm.Cond) (r0 : Addr) (r1 : Addr) (kq1 kq2 : ClassId) (x0 x1 x2 x3 x4 x5 x6 y0 y1 y2 y3 y4 y5 y6 : Int64) (h0 : Heap) (n0 : Nat) (Z0 : n0 ≤ h0.size) (Vq1 : Arv Z h0 r0 kq1 .long (7 : Int32) [(.long x0), (.long x1), (.long x2), (.long x3), (.long x4), (.long x5), (.long x6)] (.long (0 : Int64))) (Vq2 : Arv Z h0 r1 kq2 .long (7 : Int32) [(.long y0), (.long y1), (.long y2), (.long y3), (.long y4), (.long y5), (.long y6)] (.long (0 : Int64))) :
    MetFree l (⟨"com/example/barred_rows/barredrows/crypto/FpIsZeroPinLaw", "sub", "([J[J)[J"⟩ : MethodName) (head1 (Jvm.Cond.code (⟨"com/example/barred_rows/barredrows/crypto/FpIsZeroPinLaw", "sub", "([J[J)[J"⟩ : MethodName) method_4_code 7 (some (.array .long)) :: ws) ({ frames := 0, cells := 1, slots := 7, locals := 0 } : Room)) (fun a U => a = #[(.ref r0), (.ref r1)] ∧ Z.Warmed39 U.vm ∧ U.heap = h0) (fun _ _ _ _ _ => True) (fun _ U o U' => ∃ v L, o = .returned v ∧ Q6 Z r0 r1 kq1 kq2 x0 x1 x2 x3 x4 x5 x6 y0 y1 y2 y3 y4 y5 y6 h0 n0 v U'.heap L ∧ FrameEnd U o U' L ({ frames := 0, cells := 1, slots := 7, locals := 0 } : Room).cells ({ frames := 0, cells := 1, slots := 7, locals := 0 } : Room).slots) := by
  refine MetFree.of_bodySF (plainFor_of_name pn_6) hisR ?_
  intro p e s m args below meth c s₁ Bd hml0 hP hK
  obtain ⟨rfl, hZ, hh⟩ := hP
  have hx := Bd.exec
  have hby := Bd.bytes
  have hml : c.maxLocals = 7 := hml0
  have hown : s.vm.findClass "com/example/barred_rows/barredrows/crypto/FpIsZeroPinLaw" = some m.cls := findClass_of_methodNamed Bd.named
  have hnm := (name_of_methodNamed Bd.named Bd.method).1
  have X0 : Stand p l e ({ frames := 0, cells := 1, slots := 7, locals := 0 } : Room) s m #[(.ref r0), (.ref r1)] below meth c s₁ [] 0 0 := Stand.of_body Bd
  have e0 : s₁.heap = h0 := by rw [← hh, Bd.state]; rfl
  have N0 := Fr.nil n0
  refine own_go (B := s₁.setTop (mkF m 0 (LS_RRuuuuu r0 r1) [])) (fun t k => castTop (ef_6 m r0 r1) k) ?_
  have K0 : Keep h0 h0 [] := Keep.refl _ _
  refine own_go (B := s₁.setTop (mkF m 6 (LS_RRJsuuu r0 r1 (36028797018963967 : Int64)) [(.int (7 : Int32))])) (fun t k => ?_) ?_
  · show Steps p.tables e below (s₁.setTop (mkF m 0 (LS_RRuuuuu r0 r1) [])) _
    refine X0.ldc2Long hx hown (mvT hZ (hw _ (List.mem_of_getElem? (i := 0) rfl))) (g := (mkF m 0 (LS_RRuuuuu r0 r1) [])) rfl (hb hby d6_0) _ ?_
    show Steps p.tables e below (s₁.setTop (mkF m 3 (LS_RRuuuuu r0 r1) [(.long (36028797018963967 : Int64))])) _
    refine XS.lstoreN X0.here hx rfl (hb hby d6_3) rfl (l' := (LS_RRJsuuu r0 r1 (36028797018963967 : Int64))) rfl ?_
    show Steps p.tables e below (s₁.setTop (mkF m 4 (LS_RRJsuuu r0 r1 (36028797018963967 : Int64)) [])) _
    refine XS.bipush X0.here hx rfl (hb hby d6_4) ?_
    exact k
  obtain ⟨T1, h1, k1, X1, e1, E1, A1, st1⟩ := newP X0 hx hZ (hw _ (List.mem_of_getElem? (i := 11) rfl)) e0 (g := (mkF m 6 (LS_RRJsuuu r0 r1 (36028797018963967 : Int64)) [(.int (7 : Int32))])) rfl (hb hby d6_6) rfl (by decide) (cap := 7) (by decide) (by decide) (by decide) (by decide)
  obtain ⟨b1, g1⟩ : ∃ z, z = h0.size := ⟨_, rfl⟩
  rw [← g1] at A1 st1
  have g_b1 : n0 ≤ b1 := Nat.le_trans Z0 (Nat.le_of_eq g1.symm)
  have sz_b1 : h0.size ≤ b1 := Nat.le_trans K0.1 (Nat.le_of_eq g1.symm)
  have V1 : Arv Z h1 b1 k1 .long (7 : Int32) [(.long (0 : Int64)), (.long (0 : Int64)), (.long (0 : Int64)), (.long (0 : Int64)), (.long (0 : Int64)), (.long (0 : Int64)), (.long (0 : Int64))] (.long (0 : Int64)) := (Arv.new A1 (by decide)).pad (pad_rep [] (.long (0 : Int64)) 7)
  refine own_go (B := T1.setTop (mkF m 8 (LS_RRJsuuu r0 r1 (36028797018963967 : Int64)) [(.ref b1)])) (fun t k => st1 _ k) ?_
  have Vq1_v3 := Vq1.ext E1
  obtain ⟨cl2, Ar2, qa2, Sa2, Na2, Ha2, Ga2⟩ := id Vq1_v3
  have hin4 : ¬ ((0 : Int32) < 0 ∨ cl2.slots.size ≤ ((0 : Int32)).toNatClampNeg) := inb_of Sa2 ⟨by decide, by decide⟩
  have hat4 : cl2.slots[((0 : Int32)).toNatClampNeg]? = some (.long x0) := Has.at Ha2 hin4 rfl
  have Vq2_v6 := Vq2.ext E1
  obtain ⟨cl5, Ar5, qa5, Sa5, Na5, Ha5, Ga5⟩ := id Vq2_v6
  have hin7 : ¬ ((0 : Int32) < 0 ∨ cl5.slots.size ≤ ((0 : Int32)).toNatClampNeg) := inb_of Sa5 ⟨by decide, by decide⟩
  have hat7 : cl5.slots[((0 : Int32)).toNatClampNeg]? = some (.long y0) := Has.at Ha5 hin7 rfl
  refine own_go (B := T1.setTop (mkF m 19 (LS_RRJsRJs r0 r1 (36028797018963967 : Int64) b1 (x0 - y0)) [])) (fun t k => ?_) ?_
  · show Steps p.tables e below (T1.setTop (mkF m 8 (LS_RRJsuuu r0 r1 (36028797018963967 : Int64)) [(.ref b1)])) _
    refine XS.astore X1.here hx rfl (hb hby d6_8) rfl rfl (l' := (LS_RRJsRuu r0 r1 (36028797018963967 : Int64) b1)) rfl ?_
    show Steps p.tables e below (T1.setTop (mkF m 10 (LS_RRJsRuu r0 r1 (36028797018963967 : Int64) b1) [])) _
    refine XS.aloadN X1.here hx rfl (hb hby d6_10) rfl rfl ?_
    show Steps p.tables e below (T1.setTop (mkF m 11 (LS_RRJsRuu r0 r1 (36028797018963967 : Int64) b1) [(.ref r0)])) _
    refine XS.iconst X1.here hx rfl (hb hby d6_11) ?_
    show Steps p.tables e below (T1.setTop (mkF m 12 (LS_RRJsRuu r0 r1 (36028797018963967 : Int64) b1) [(.int (0 : Int32)), (.ref r0)])) _
    refine X1.laload hx (j := (0 : Int32)) (v := (.long x0)) (by rw [e1]; exact Ar2.1) (State.isArrayOf_alike hZ.alike Ar2.2.1) Ar2.2.2 hin4 hat4 (g := (mkF m 12 (LS_RRJsRuu r0 r1 (36028797018963967 : Int64) b1) [(.int (0 : Int32)), (.ref r0)])) rfl rfl (hb hby d6_12) _ ?_
    show Steps p.tables e below (T1.setTop (mkF m 13 (LS_RRJsRuu r0 r1 (36028797018963967 : Int64) b1) [(.long x0)])) _
    refine XS.aloadN X1.here hx rfl (hb hby d6_13) rfl rfl ?_
    show Steps p.tables e below (T1.setTop (mkF m 14 (LS_RRJsRuu r0 r1 (36028797018963967 : Int64) b1) [(.ref r1), (.long x0)])) _
    refine XS.iconst X1.here hx rfl (hb hby d6_14) ?_
    show Steps p.tables e below (T1.setTop (mkF m 15 (LS_RRJsRuu r0 r1 (36028797018963967 : Int64) b1) [(.int (0 : Int32)), (.ref r1), (.long x0)])) _
    refine X1.laload hx (j := (0 : Int32)) (v := (.long y0)) (by rw [e1]; exact Ar5.1) (State.isArrayOf_alike hZ.alike Ar5.2.1) Ar5.2.2 hin7 hat7 (g := (mkF m 15 (LS_RRJsRuu r0 r1 (36028797018963967 : Int64) b1) [(.int (0 : Int32)), (.ref r1), (.long x0)])) rfl rfl (hb hby d6_15) _ ?_
    show Steps p.tables e below (T1.setTop (mkF m 16 (LS_RRJsRuu r0 r1 (36028797018963967 : Int64) b1) [(.long y0), (.long x0)])) _
    refine XS.lsub X1.here hx rfl (hb hby d6_16) rfl ?_
    show Steps p.tables e below (T1.setTop (mkF m 17 (LS_RRJsRuu r0 r1 (36028797018963967 : Int64) b1) [(.long (x0 - y0))])) _
    refine XS.lstore X1.here hx rfl (hb hby d6_17) rfl (l' := (LS_RRJsRJs r0 r1 (36028797018963967 : Int64) b1 (x0 - y0))) rfl ?_
    exact k
  obtain ⟨z8, hz8⟩ : ∃ z, z = (x0 - y0) := ⟨_, rfl⟩
  refine own_go (B := T1.setTop (mkF m 19 (LS_RRJsRJs r0 r1 (36028797018963967 : Int64) b1 z8) [])) (fun t k => by rw [hz8] at k; exact k) ?_
  refine own_go (B := T1.setTop (mkF m 26 (LS_RRJsRJs r0 r1 (36028797018963967 : Int64) b1 z8) [(.long (z8 &&& (36028797018963967 : Int64))), (.int (0 : Int32)), (.ref b1)])) (fun t k => ?_) ?_
  · show Steps p.tables e below (T1.setTop (mkF m 19 (LS_RRJsRJs r0 r1 (36028797018963967 : Int64) b1 z8) [])) _
    refine XS.aload X1.here hx rfl (hb hby d6_19) rfl rfl ?_
    show Steps p.tables e below (T1.setTop (mkF m 21 (LS_RRJsRJs r0 r1 (36028797018963967 : Int64) b1 z8) [(.ref b1)])) _
    refine XS.iconst X1.here hx rfl (hb hby d6_21) ?_
    show Steps p.tables e below (T1.setTop (mkF m 22 (LS_RRJsRJs r0 r1 (36028797018963967 : Int64) b1 z8) [(.int (0 : Int32)), (.ref b1)])) _
    refine XS.lload X1.here hx rfl (hb hby d6_22) rfl ?_
    show Steps p.tables e below (T1.setTop (mkF m 24 (LS_RRJsRJs r0 r1 (36028797018963967 : Int64) b1 z8) [(.long z8), (.int (0 : Int32)), (.ref b1)])) _
    refine XS.lloadN X1.here hx rfl (hb hby d6_24) rfl ?_
    show Steps p.tables e below (T1.setTop (mkF m 25 (LS_RRJsRJs r0 r1 (36028797018963967 : Int64) b1 z8) [(.long (36028797018963967 : Int64)), (.long z8), (.int (0 : Int32)), (.ref b1)])) _
    refine XS.land X1.here hx rfl (hb hby d6_25) rfl ?_
    exact k
  obtain ⟨cl9, Ar9, qa9, Sa9, Na9, Ha9, Ga9⟩ := id V1
  have hin10 : ¬ ((0 : Int32) < 0 ∨ cl9.slots.size ≤ ((0 : Int32)).toNatClampNeg) := inb_of Sa9 ⟨by decide, by decide⟩
  obtain ⟨T10, h10, X10, e10, W10, st10⟩ := stJ X1 hx hZ e1 Ar9 (j := (0 : Int32)) hin10 (g := (mkF m 26 (LS_RRJsRJs r0 r1 (36028797018963967 : Int64) b1 z8) [(.long (z8 &&& (36028797018963967 : Int64))), (.int (0 : Int32)), (.ref b1)])) rfl rfl (hb hby d6_26)
  have N10 := Fr.snoc X10 N0 g_b1
  have V10 : Arv Z h10 b1 k1 .long (7 : Int32) [(.long (z8 &&& (36028797018963967 : Int64))), (.long (0 : Int64)), (.long (0 : Int64)), (.long (0 : Int64)), (.long (0 : Int64)), (.long (0 : Int64)), (.long (0 : Int64))] (.long (0 : Int64)) := Arv.set Ar9 qa9 Sa9 Na9 Ha9 Ga9 rfl W10 0 rfl (Nat.le_of_ble_eq_true rfl)
  refine own_go (B := T10.setTop (mkF m 27 (LS_RRJsRJs r0 r1 (36028797018963967 : Int64) b1 z8) [])) (fun t k => st10 _ k) ?_
  have ne13 : r0 ≠ b1 := Nat.ne_of_lt (Nat.lt_of_lt_of_le Vq1.lt (Nat.le_of_eq g1.symm))
  have Vq1_v12 := Vq1_v3.other W10 ne13
  obtain ⟨cl11, Ar11, qa11, Sa11, Na11, Ha11, Ga11⟩ := id Vq1_v12
  have hin14 : ¬ ((1 : Int32) < 0 ∨ cl11.slots.size ≤ ((1 : Int32)).toNatClampNeg) := inb_of Sa11 ⟨by decide, by decide⟩
  have hat14 : cl11.slots[((1 : Int32)).toNatClampNeg]? = some (.long x1) := Has.at Ha11 hin14 rfl
  have ne17 : r1 ≠ b1 := Nat.ne_of_lt (Nat.lt_of_lt_of_le Vq2.lt (Nat.le_of_eq g1.symm))
  have Vq2_v16 := Vq2_v6.other W10 ne17
  obtain ⟨cl15, Ar15, qa15, Sa15, Na15, Ha15, Ga15⟩ := id Vq2_v16
  have hin18 : ¬ ((1 : Int32) < 0 ∨ cl15.slots.size ≤ ((1 : Int32)).toNatClampNeg) := inb_of Sa15 ⟨by decide, by decide⟩
  have hat18 : cl15.slots[((1 : Int32)).toNatClampNeg]? = some (.long y1) := Has.at Ha15 hin18 rfl
  refine own_go (B := T10.setTop (mkF m 42 (LS_RRJsRJs r0 r1 (36028797018963967 : Int64) b1 ((x1 - y1) - ((z8.toUInt64 >>> ((63 : Int32) &&& 0x3f).toInt64.toUInt64).toInt64))) [])) (fun t k => ?_) ?_
  · show Steps p.tables e below (T10.setTop (mkF m 27 (LS_RRJsRJs r0 r1 (36028797018963967 : Int64) b1 z8) [])) _
    refine XS.aloadN X10.here hx rfl (hb hby d6_27) rfl rfl ?_
    show Steps p.tables e below (T10.setTop (mkF m 28 (LS_RRJsRJs r0 r1 (36028797018963967 : Int64) b1 z8) [(.ref r0)])) _
    refine XS.iconst X10.here hx rfl (hb hby d6_28) ?_
    show Steps p.tables e below (T10.setTop (mkF m 29 (LS_RRJsRJs r0 r1 (36028797018963967 : Int64) b1 z8) [(.int (1 : Int32)), (.ref r0)])) _
    refine X10.laload hx (j := (1 : Int32)) (v := (.long x1)) (by rw [e10]; exact Ar11.1) (State.isArrayOf_alike hZ.alike Ar11.2.1) Ar11.2.2 hin14 hat14 (g := (mkF m 29 (LS_RRJsRJs r0 r1 (36028797018963967 : Int64) b1 z8) [(.int (1 : Int32)), (.ref r0)])) rfl rfl (hb hby d6_29) _ ?_
    show Steps p.tables e below (T10.setTop (mkF m 30 (LS_RRJsRJs r0 r1 (36028797018963967 : Int64) b1 z8) [(.long x1)])) _
    refine XS.aloadN X10.here hx rfl (hb hby d6_30) rfl rfl ?_
    show Steps p.tables e below (T10.setTop (mkF m 31 (LS_RRJsRJs r0 r1 (36028797018963967 : Int64) b1 z8) [(.ref r1), (.long x1)])) _
    refine XS.iconst X10.here hx rfl (hb hby d6_31) ?_
    show Steps p.tables e below (T10.setTop (mkF m 32 (LS_RRJsRJs r0 r1 (36028797018963967 : Int64) b1 z8) [(.int (1 : Int32)), (.ref r1), (.long x1)])) _
    refine X10.laload hx (j := (1 : Int32)) (v := (.long y1)) (by rw [e10]; exact Ar15.1) (State.isArrayOf_alike hZ.alike Ar15.2.1) Ar15.2.2 hin18 hat18 (g := (mkF m 32 (LS_RRJsRJs r0 r1 (36028797018963967 : Int64) b1 z8) [(.int (1 : Int32)), (.ref r1), (.long x1)])) rfl rfl (hb hby d6_32) _ ?_
    show Steps p.tables e below (T10.setTop (mkF m 33 (LS_RRJsRJs r0 r1 (36028797018963967 : Int64) b1 z8) [(.long y1), (.long x1)])) _
    refine XS.lsub X10.here hx rfl (hb hby d6_33) rfl ?_
    show Steps p.tables e below (T10.setTop (mkF m 34 (LS_RRJsRJs r0 r1 (36028797018963967 : Int64) b1 z8) [(.long (x1 - y1))])) _
    refine XS.lload X10.here hx rfl (hb hby d6_34) rfl ?_
    show Steps p.tables e below (T10.setTop (mkF m 36 (LS_RRJsRJs r0 r1 (36028797018963967 : Int64) b1 z8) [(.long z8), (.long (x1 - y1))])) _
    refine XS.bipush X10.here hx rfl (hb hby d6_36) ?_
    show Steps p.tables e below (T10.setTop (mkF m 38 (LS_RRJsRJs r0 r1 (36028797018963967 : Int64) b1 z8) [(.int (63 : Int32)), (.long z8), (.long (x1 - y1))])) _
    refine XS.lushr X10.here hx rfl (hb hby d6_38) rfl ?_
    show Steps p.tables e below (T10.setTop (mkF m 39 (LS_RRJsRJs r0 r1 (36028797018963967 : Int64) b1 z8) [(.long ((z8.toUInt64 >>> ((63 : Int32) &&& 0x3f).toInt64.toUInt64).toInt64)), (.long (x1 - y1))])) _
    refine XS.lsub X10.here hx rfl (hb hby d6_39) rfl ?_
    show Steps p.tables e below (T10.setTop (mkF m 40 (LS_RRJsRJs r0 r1 (36028797018963967 : Int64) b1 z8) [(.long ((x1 - y1) - ((z8.toUInt64 >>> ((63 : Int32) &&& 0x3f).toInt64.toUInt64).toInt64)))])) _
    refine XS.lstore X10.here hx rfl (hb hby d6_40) rfl (l' := (LS_RRJsRJs r0 r1 (36028797018963967 : Int64) b1 ((x1 - y1) - ((z8.toUInt64 >>> ((63 : Int32) &&& 0x3f).toInt64.toUInt64).toInt64)))) rfl ?_
    exact k
  obtain ⟨z19, hz19⟩ : ∃ z, z = ((x1 - y1) - ((z8.toUInt64 >>> ((63 : Int32) &&& 0x3f).toInt64.toUInt64).toInt64)) := ⟨_, rfl⟩
  refine own_go (B := T10.setTop (mkF m 42 (LS_RRJsRJs r0 r1 (36028797018963967 : Int64) b1 z19) [])) (fun t k => by rw [hz19] at k; exact k) ?_
  refine own_go (B := T10.setTop (mkF m 49 (LS_RRJsRJs r0 r1 (36028797018963967 : Int64) b1 z19) [(.long (z19 &&& (36028797018963967 : Int64))), (.int (1 : Int32)), (.ref b1)])) (fun t k => ?_) ?_
  · show Steps p.tables e below (T10.setTop (mkF m 42 (LS_RRJsRJs r0 r1 (36028797018963967 : Int64) b1 z19) [])) _
    refine XS.aload X10.here hx rfl (hb hby d6_42) rfl rfl ?_
    show Steps p.tables e below (T10.setTop (mkF m 44 (LS_RRJsRJs r0 r1 (36028797018963967 : Int64) b1 z19) [(.ref b1)])) _
    refine XS.iconst X10.here hx rfl (hb hby d6_44) ?_
    show Steps p.tables e below (T10.setTop (mkF m 45 (LS_RRJsRJs r0 r1 (36028797018963967 : Int64) b1 z19) [(.int (1 : Int32)), (.ref b1)])) _
    refine XS.lload X10.here hx rfl (hb hby d6_45) rfl ?_
    show Steps p.tables e below (T10.setTop (mkF m 47 (LS_RRJsRJs r0 r1 (36028797018963967 : Int64) b1 z19) [(.long z19), (.int (1 : Int32)), (.ref b1)])) _
    refine XS.lloadN X10.here hx rfl (hb hby d6_47) rfl ?_
    show Steps p.tables e below (T10.setTop (mkF m 48 (LS_RRJsRJs r0 r1 (36028797018963967 : Int64) b1 z19) [(.long (36028797018963967 : Int64)), (.long z19), (.int (1 : Int32)), (.ref b1)])) _
    refine XS.land X10.here hx rfl (hb hby d6_48) rfl ?_
    exact k
  obtain ⟨cl20, Ar20, qa20, Sa20, Na20, Ha20, Ga20⟩ := id V10
  have hin21 : ¬ ((1 : Int32) < 0 ∨ cl20.slots.size ≤ ((1 : Int32)).toNatClampNeg) := inb_of Sa20 ⟨by decide, by decide⟩
  obtain ⟨T21, h21, X21, e21, W21, st21⟩ := stJ X10 hx hZ e10 Ar20 (j := (1 : Int32)) hin21 (g := (mkF m 49 (LS_RRJsRJs r0 r1 (36028797018963967 : Int64) b1 z19) [(.long (z19 &&& (36028797018963967 : Int64))), (.int (1 : Int32)), (.ref b1)])) rfl rfl (hb hby d6_49)
  have N21 := Fr.snoc X21 N10 g_b1
  have V21 : Arv Z h21 b1 k1 .long (7 : Int32) [(.long (z8 &&& (36028797018963967 : Int64))), (.long (z19 &&& (36028797018963967 : Int64))), (.long (0 : Int64)), (.long (0 : Int64)), (.long (0 : Int64)), (.long (0 : Int64)), (.long (0 : Int64))] (.long (0 : Int64)) := Arv.set Ar20 qa20 Sa20 Na20 Ha20 Ga20 rfl W21 1 rfl (Nat.le_of_ble_eq_true rfl)
  refine own_go (B := T21.setTop (mkF m 50 (LS_RRJsRJs r0 r1 (36028797018963967 : Int64) b1 z19) [])) (fun t k => st21 _ k) ?_
  have Vq1_v23 := Vq1_v3.other W10 ne13
  have Vq1_v24 := Vq1_v23.other W21 ne13
  obtain ⟨cl22, Ar22, qa22, Sa22, Na22, Ha22, Ga22⟩ := id Vq1_v24
  have hin25 : ¬ ((2 : Int32) < 0 ∨ cl22.slots.size ≤ ((2 : Int32)).toNatClampNeg) := inb_of Sa22 ⟨by decide, by decide⟩
  have hat25 : cl22.slots[((2 : Int32)).toNatClampNeg]? = some (.long x2) := Has.at Ha22 hin25 rfl
  have Vq2_v27 := Vq2_v6.other W10 ne17
  have Vq2_v28 := Vq2_v27.other W21 ne17
  obtain ⟨cl26, Ar26, qa26, Sa26, Na26, Ha26, Ga26⟩ := id Vq2_v28
  have hin29 : ¬ ((2 : Int32) < 0 ∨ cl26.slots.size ≤ ((2 : Int32)).toNatClampNeg) := inb_of Sa26 ⟨by decide, by decide⟩
  have hat29 : cl26.slots[((2 : Int32)).toNatClampNeg]? = some (.long y2) := Has.at Ha26 hin29 rfl
  refine own_go (B := T21.setTop (mkF m 65 (LS_RRJsRJs r0 r1 (36028797018963967 : Int64) b1 ((x2 - y2) - ((z19.toUInt64 >>> ((63 : Int32) &&& 0x3f).toInt64.toUInt64).toInt64))) [])) (fun t k => ?_) ?_
  · show Steps p.tables e below (T21.setTop (mkF m 50 (LS_RRJsRJs r0 r1 (36028797018963967 : Int64) b1 z19) [])) _
    refine XS.aloadN X21.here hx rfl (hb hby d6_50) rfl rfl ?_
    show Steps p.tables e below (T21.setTop (mkF m 51 (LS_RRJsRJs r0 r1 (36028797018963967 : Int64) b1 z19) [(.ref r0)])) _
    refine XS.iconst X21.here hx rfl (hb hby d6_51) ?_
    show Steps p.tables e below (T21.setTop (mkF m 52 (LS_RRJsRJs r0 r1 (36028797018963967 : Int64) b1 z19) [(.int (2 : Int32)), (.ref r0)])) _
    refine X21.laload hx (j := (2 : Int32)) (v := (.long x2)) (by rw [e21]; exact Ar22.1) (State.isArrayOf_alike hZ.alike Ar22.2.1) Ar22.2.2 hin25 hat25 (g := (mkF m 52 (LS_RRJsRJs r0 r1 (36028797018963967 : Int64) b1 z19) [(.int (2 : Int32)), (.ref r0)])) rfl rfl (hb hby d6_52) _ ?_
    show Steps p.tables e below (T21.setTop (mkF m 53 (LS_RRJsRJs r0 r1 (36028797018963967 : Int64) b1 z19) [(.long x2)])) _
    refine XS.aloadN X21.here hx rfl (hb hby d6_53) rfl rfl ?_
    show Steps p.tables e below (T21.setTop (mkF m 54 (LS_RRJsRJs r0 r1 (36028797018963967 : Int64) b1 z19) [(.ref r1), (.long x2)])) _
    refine XS.iconst X21.here hx rfl (hb hby d6_54) ?_
    show Steps p.tables e below (T21.setTop (mkF m 55 (LS_RRJsRJs r0 r1 (36028797018963967 : Int64) b1 z19) [(.int (2 : Int32)), (.ref r1), (.long x2)])) _
    refine X21.laload hx (j := (2 : Int32)) (v := (.long y2)) (by rw [e21]; exact Ar26.1) (State.isArrayOf_alike hZ.alike Ar26.2.1) Ar26.2.2 hin29 hat29 (g := (mkF m 55 (LS_RRJsRJs r0 r1 (36028797018963967 : Int64) b1 z19) [(.int (2 : Int32)), (.ref r1), (.long x2)])) rfl rfl (hb hby d6_55) _ ?_
    show Steps p.tables e below (T21.setTop (mkF m 56 (LS_RRJsRJs r0 r1 (36028797018963967 : Int64) b1 z19) [(.long y2), (.long x2)])) _
    refine XS.lsub X21.here hx rfl (hb hby d6_56) rfl ?_
    show Steps p.tables e below (T21.setTop (mkF m 57 (LS_RRJsRJs r0 r1 (36028797018963967 : Int64) b1 z19) [(.long (x2 - y2))])) _
    refine XS.lload X21.here hx rfl (hb hby d6_57) rfl ?_
    show Steps p.tables e below (T21.setTop (mkF m 59 (LS_RRJsRJs r0 r1 (36028797018963967 : Int64) b1 z19) [(.long z19), (.long (x2 - y2))])) _
    refine XS.bipush X21.here hx rfl (hb hby d6_59) ?_
    show Steps p.tables e below (T21.setTop (mkF m 61 (LS_RRJsRJs r0 r1 (36028797018963967 : Int64) b1 z19) [(.int (63 : Int32)), (.long z19), (.long (x2 - y2))])) _
    refine XS.lushr X21.here hx rfl (hb hby d6_61) rfl ?_
    show Steps p.tables e below (T21.setTop (mkF m 62 (LS_RRJsRJs r0 r1 (36028797018963967 : Int64) b1 z19) [(.long ((z19.toUInt64 >>> ((63 : Int32) &&& 0x3f).toInt64.toUInt64).toInt64)), (.long (x2 - y2))])) _
    refine XS.lsub X21.here hx rfl (hb hby d6_62) rfl ?_
    show Steps p.tables e below (T21.setTop (mkF m 63 (LS_RRJsRJs r0 r1 (36028797018963967 : Int64) b1 z19) [(.long ((x2 - y2) - ((z19.toUInt64 >>> ((63 : Int32) &&& 0x3f).toInt64.toUInt64).toInt64)))])) _
    refine XS.lstore X21.here hx rfl (hb hby d6_63) rfl (l' := (LS_RRJsRJs r0 r1 (36028797018963967 : Int64) b1 ((x2 - y2) - ((z19.toUInt64 >>> ((63 : Int32) &&& 0x3f).toInt64.toUInt64).toInt64)))) rfl ?_
    exact k
  obtain ⟨z30, hz30⟩ : ∃ z, z = ((x2 - y2) - ((z19.toUInt64 >>> ((63 : Int32) &&& 0x3f).toInt64.toUInt64).toInt64)) := ⟨_, rfl⟩
  refine own_go (B := T21.setTop (mkF m 65 (LS_RRJsRJs r0 r1 (36028797018963967 : Int64) b1 z30) [])) (fun t k => by rw [hz30] at k; exact k) ?_
  refine own_go (B := T21.setTop (mkF m 72 (LS_RRJsRJs r0 r1 (36028797018963967 : Int64) b1 z30) [(.long (z30 &&& (36028797018963967 : Int64))), (.int (2 : Int32)), (.ref b1)])) (fun t k => ?_) ?_
  · show Steps p.tables e below (T21.setTop (mkF m 65 (LS_RRJsRJs r0 r1 (36028797018963967 : Int64) b1 z30) [])) _
    refine XS.aload X21.here hx rfl (hb hby d6_65) rfl rfl ?_
    show Steps p.tables e below (T21.setTop (mkF m 67 (LS_RRJsRJs r0 r1 (36028797018963967 : Int64) b1 z30) [(.ref b1)])) _
    refine XS.iconst X21.here hx rfl (hb hby d6_67) ?_
    show Steps p.tables e below (T21.setTop (mkF m 68 (LS_RRJsRJs r0 r1 (36028797018963967 : Int64) b1 z30) [(.int (2 : Int32)), (.ref b1)])) _
    refine XS.lload X21.here hx rfl (hb hby d6_68) rfl ?_
    show Steps p.tables e below (T21.setTop (mkF m 70 (LS_RRJsRJs r0 r1 (36028797018963967 : Int64) b1 z30) [(.long z30), (.int (2 : Int32)), (.ref b1)])) _
    refine XS.lloadN X21.here hx rfl (hb hby d6_70) rfl ?_
    show Steps p.tables e below (T21.setTop (mkF m 71 (LS_RRJsRJs r0 r1 (36028797018963967 : Int64) b1 z30) [(.long (36028797018963967 : Int64)), (.long z30), (.int (2 : Int32)), (.ref b1)])) _
    refine XS.land X21.here hx rfl (hb hby d6_71) rfl ?_
    exact k
  obtain ⟨cl31, Ar31, qa31, Sa31, Na31, Ha31, Ga31⟩ := id V21
  have hin32 : ¬ ((2 : Int32) < 0 ∨ cl31.slots.size ≤ ((2 : Int32)).toNatClampNeg) := inb_of Sa31 ⟨by decide, by decide⟩
  obtain ⟨T32, h32, X32, e32, W32, st32⟩ := stJ X21 hx hZ e21 Ar31 (j := (2 : Int32)) hin32 (g := (mkF m 72 (LS_RRJsRJs r0 r1 (36028797018963967 : Int64) b1 z30) [(.long (z30 &&& (36028797018963967 : Int64))), (.int (2 : Int32)), (.ref b1)])) rfl rfl (hb hby d6_72)
  have N32 := Fr.snoc X32 N21 g_b1
  have V32 : Arv Z h32 b1 k1 .long (7 : Int32) [(.long (z8 &&& (36028797018963967 : Int64))), (.long (z19 &&& (36028797018963967 : Int64))), (.long (z30 &&& (36028797018963967 : Int64))), (.long (0 : Int64)), (.long (0 : Int64)), (.long (0 : Int64)), (.long (0 : Int64))] (.long (0 : Int64)) := Arv.set Ar31 qa31 Sa31 Na31 Ha31 Ga31 rfl W32 2 rfl (Nat.le_of_ble_eq_true rfl)
  refine own_go (B := T32.setTop (mkF m 73 (LS_RRJsRJs r0 r1 (36028797018963967 : Int64) b1 z30) [])) (fun t k => st32 _ k) ?_
  have Vq1_v34 := Vq1_v24.other W32 ne13
  obtain ⟨cl33, Ar33, qa33, Sa33, Na33, Ha33, Ga33⟩ := id Vq1_v34
  have hin35 : ¬ ((3 : Int32) < 0 ∨ cl33.slots.size ≤ ((3 : Int32)).toNatClampNeg) := inb_of Sa33 ⟨by decide, by decide⟩
  have hat35 : cl33.slots[((3 : Int32)).toNatClampNeg]? = some (.long x3) := Has.at Ha33 hin35 rfl
  have Vq2_v37 := Vq2_v28.other W32 ne17
  obtain ⟨cl36, Ar36, qa36, Sa36, Na36, Ha36, Ga36⟩ := id Vq2_v37
  have hin38 : ¬ ((3 : Int32) < 0 ∨ cl36.slots.size ≤ ((3 : Int32)).toNatClampNeg) := inb_of Sa36 ⟨by decide, by decide⟩
  have hat38 : cl36.slots[((3 : Int32)).toNatClampNeg]? = some (.long y3) := Has.at Ha36 hin38 rfl
  refine own_go (B := T32.setTop (mkF m 88 (LS_RRJsRJs r0 r1 (36028797018963967 : Int64) b1 ((x3 - y3) - ((z30.toUInt64 >>> ((63 : Int32) &&& 0x3f).toInt64.toUInt64).toInt64))) [])) (fun t k => ?_) ?_
  · show Steps p.tables e below (T32.setTop (mkF m 73 (LS_RRJsRJs r0 r1 (36028797018963967 : Int64) b1 z30) [])) _
    refine XS.aloadN X32.here hx rfl (hb hby d6_73) rfl rfl ?_
    show Steps p.tables e below (T32.setTop (mkF m 74 (LS_RRJsRJs r0 r1 (36028797018963967 : Int64) b1 z30) [(.ref r0)])) _
    refine XS.iconst X32.here hx rfl (hb hby d6_74) ?_
    show Steps p.tables e below (T32.setTop (mkF m 75 (LS_RRJsRJs r0 r1 (36028797018963967 : Int64) b1 z30) [(.int (3 : Int32)), (.ref r0)])) _
    refine X32.laload hx (j := (3 : Int32)) (v := (.long x3)) (by rw [e32]; exact Ar33.1) (State.isArrayOf_alike hZ.alike Ar33.2.1) Ar33.2.2 hin35 hat35 (g := (mkF m 75 (LS_RRJsRJs r0 r1 (36028797018963967 : Int64) b1 z30) [(.int (3 : Int32)), (.ref r0)])) rfl rfl (hb hby d6_75) _ ?_
    show Steps p.tables e below (T32.setTop (mkF m 76 (LS_RRJsRJs r0 r1 (36028797018963967 : Int64) b1 z30) [(.long x3)])) _
    refine XS.aloadN X32.here hx rfl (hb hby d6_76) rfl rfl ?_
    show Steps p.tables e below (T32.setTop (mkF m 77 (LS_RRJsRJs r0 r1 (36028797018963967 : Int64) b1 z30) [(.ref r1), (.long x3)])) _
    refine XS.iconst X32.here hx rfl (hb hby d6_77) ?_
    show Steps p.tables e below (T32.setTop (mkF m 78 (LS_RRJsRJs r0 r1 (36028797018963967 : Int64) b1 z30) [(.int (3 : Int32)), (.ref r1), (.long x3)])) _
    refine X32.laload hx (j := (3 : Int32)) (v := (.long y3)) (by rw [e32]; exact Ar36.1) (State.isArrayOf_alike hZ.alike Ar36.2.1) Ar36.2.2 hin38 hat38 (g := (mkF m 78 (LS_RRJsRJs r0 r1 (36028797018963967 : Int64) b1 z30) [(.int (3 : Int32)), (.ref r1), (.long x3)])) rfl rfl (hb hby d6_78) _ ?_
    show Steps p.tables e below (T32.setTop (mkF m 79 (LS_RRJsRJs r0 r1 (36028797018963967 : Int64) b1 z30) [(.long y3), (.long x3)])) _
    refine XS.lsub X32.here hx rfl (hb hby d6_79) rfl ?_
    show Steps p.tables e below (T32.setTop (mkF m 80 (LS_RRJsRJs r0 r1 (36028797018963967 : Int64) b1 z30) [(.long (x3 - y3))])) _
    refine XS.lload X32.here hx rfl (hb hby d6_80) rfl ?_
    show Steps p.tables e below (T32.setTop (mkF m 82 (LS_RRJsRJs r0 r1 (36028797018963967 : Int64) b1 z30) [(.long z30), (.long (x3 - y3))])) _
    refine XS.bipush X32.here hx rfl (hb hby d6_82) ?_
    show Steps p.tables e below (T32.setTop (mkF m 84 (LS_RRJsRJs r0 r1 (36028797018963967 : Int64) b1 z30) [(.int (63 : Int32)), (.long z30), (.long (x3 - y3))])) _
    refine XS.lushr X32.here hx rfl (hb hby d6_84) rfl ?_
    show Steps p.tables e below (T32.setTop (mkF m 85 (LS_RRJsRJs r0 r1 (36028797018963967 : Int64) b1 z30) [(.long ((z30.toUInt64 >>> ((63 : Int32) &&& 0x3f).toInt64.toUInt64).toInt64)), (.long (x3 - y3))])) _
    refine XS.lsub X32.here hx rfl (hb hby d6_85) rfl ?_
    show Steps p.tables e below (T32.setTop (mkF m 86 (LS_RRJsRJs r0 r1 (36028797018963967 : Int64) b1 z30) [(.long ((x3 - y3) - ((z30.toUInt64 >>> ((63 : Int32) &&& 0x3f).toInt64.toUInt64).toInt64)))])) _
    refine XS.lstore X32.here hx rfl (hb hby d6_86) rfl (l' := (LS_RRJsRJs r0 r1 (36028797018963967 : Int64) b1 ((x3 - y3) - ((z30.toUInt64 >>> ((63 : Int32) &&& 0x3f).toInt64.toUInt64).toInt64)))) rfl ?_
    exact k
  obtain ⟨z39, hz39⟩ : ∃ z, z = ((x3 - y3) - ((z30.toUInt64 >>> ((63 : Int32) &&& 0x3f).toInt64.toUInt64).toInt64)) := ⟨_, rfl⟩
  refine own_go (B := T32.setTop (mkF m 88 (LS_RRJsRJs r0 r1 (36028797018963967 : Int64) b1 z39) [])) (fun t k => by rw [hz39] at k; exact k) ?_
  refine own_go (B := T32.setTop (mkF m 95 (LS_RRJsRJs r0 r1 (36028797018963967 : Int64) b1 z39) [(.long (z39 &&& (36028797018963967 : Int64))), (.int (3 : Int32)), (.ref b1)])) (fun t k => ?_) ?_
  · show Steps p.tables e below (T32.setTop (mkF m 88 (LS_RRJsRJs r0 r1 (36028797018963967 : Int64) b1 z39) [])) _
    refine XS.aload X32.here hx rfl (hb hby d6_88) rfl rfl ?_
    show Steps p.tables e below (T32.setTop (mkF m 90 (LS_RRJsRJs r0 r1 (36028797018963967 : Int64) b1 z39) [(.ref b1)])) _
    refine XS.iconst X32.here hx rfl (hb hby d6_90) ?_
    show Steps p.tables e below (T32.setTop (mkF m 91 (LS_RRJsRJs r0 r1 (36028797018963967 : Int64) b1 z39) [(.int (3 : Int32)), (.ref b1)])) _
    refine XS.lload X32.here hx rfl (hb hby d6_91) rfl ?_
    show Steps p.tables e below (T32.setTop (mkF m 93 (LS_RRJsRJs r0 r1 (36028797018963967 : Int64) b1 z39) [(.long z39), (.int (3 : Int32)), (.ref b1)])) _
    refine XS.lloadN X32.here hx rfl (hb hby d6_93) rfl ?_
    show Steps p.tables e below (T32.setTop (mkF m 94 (LS_RRJsRJs r0 r1 (36028797018963967 : Int64) b1 z39) [(.long (36028797018963967 : Int64)), (.long z39), (.int (3 : Int32)), (.ref b1)])) _
    refine XS.land X32.here hx rfl (hb hby d6_94) rfl ?_
    exact k
  obtain ⟨cl40, Ar40, qa40, Sa40, Na40, Ha40, Ga40⟩ := id V32
  have hin41 : ¬ ((3 : Int32) < 0 ∨ cl40.slots.size ≤ ((3 : Int32)).toNatClampNeg) := inb_of Sa40 ⟨by decide, by decide⟩
  obtain ⟨T41, h41, X41, e41, W41, st41⟩ := stJ X32 hx hZ e32 Ar40 (j := (3 : Int32)) hin41 (g := (mkF m 95 (LS_RRJsRJs r0 r1 (36028797018963967 : Int64) b1 z39) [(.long (z39 &&& (36028797018963967 : Int64))), (.int (3 : Int32)), (.ref b1)])) rfl rfl (hb hby d6_95)
  have N41 := Fr.snoc X41 N32 g_b1
  have V41 : Arv Z h41 b1 k1 .long (7 : Int32) [(.long (z8 &&& (36028797018963967 : Int64))), (.long (z19 &&& (36028797018963967 : Int64))), (.long (z30 &&& (36028797018963967 : Int64))), (.long (z39 &&& (36028797018963967 : Int64))), (.long (0 : Int64)), (.long (0 : Int64)), (.long (0 : Int64))] (.long (0 : Int64)) := Arv.set Ar40 qa40 Sa40 Na40 Ha40 Ga40 rfl W41 3 rfl (Nat.le_of_ble_eq_true rfl)
  refine own_go (B := T41.setTop (mkF m 96 (LS_RRJsRJs r0 r1 (36028797018963967 : Int64) b1 z39) [])) (fun t k => st41 _ k) ?_
  have Vq1_v43 := Vq1_v34.other W41 ne13
  obtain ⟨cl42, Ar42, qa42, Sa42, Na42, Ha42, Ga42⟩ := id Vq1_v43
  have hin44 : ¬ ((4 : Int32) < 0 ∨ cl42.slots.size ≤ ((4 : Int32)).toNatClampNeg) := inb_of Sa42 ⟨by decide, by decide⟩
  have hat44 : cl42.slots[((4 : Int32)).toNatClampNeg]? = some (.long x4) := Has.at Ha42 hin44 rfl
  have Vq2_v46 := Vq2_v37.other W41 ne17
  obtain ⟨cl45, Ar45, qa45, Sa45, Na45, Ha45, Ga45⟩ := id Vq2_v46
  have hin47 : ¬ ((4 : Int32) < 0 ∨ cl45.slots.size ≤ ((4 : Int32)).toNatClampNeg) := inb_of Sa45 ⟨by decide, by decide⟩
  have hat47 : cl45.slots[((4 : Int32)).toNatClampNeg]? = some (.long y4) := Has.at Ha45 hin47 rfl
  refine own_go (B := T41.setTop (mkF m 111 (LS_RRJsRJs r0 r1 (36028797018963967 : Int64) b1 ((x4 - y4) - ((z39.toUInt64 >>> ((63 : Int32) &&& 0x3f).toInt64.toUInt64).toInt64))) [])) (fun t k => ?_) ?_
  · show Steps p.tables e below (T41.setTop (mkF m 96 (LS_RRJsRJs r0 r1 (36028797018963967 : Int64) b1 z39) [])) _
    refine XS.aloadN X41.here hx rfl (hb hby d6_96) rfl rfl ?_
    show Steps p.tables e below (T41.setTop (mkF m 97 (LS_RRJsRJs r0 r1 (36028797018963967 : Int64) b1 z39) [(.ref r0)])) _
    refine XS.iconst X41.here hx rfl (hb hby d6_97) ?_
    show Steps p.tables e below (T41.setTop (mkF m 98 (LS_RRJsRJs r0 r1 (36028797018963967 : Int64) b1 z39) [(.int (4 : Int32)), (.ref r0)])) _
    refine X41.laload hx (j := (4 : Int32)) (v := (.long x4)) (by rw [e41]; exact Ar42.1) (State.isArrayOf_alike hZ.alike Ar42.2.1) Ar42.2.2 hin44 hat44 (g := (mkF m 98 (LS_RRJsRJs r0 r1 (36028797018963967 : Int64) b1 z39) [(.int (4 : Int32)), (.ref r0)])) rfl rfl (hb hby d6_98) _ ?_
    show Steps p.tables e below (T41.setTop (mkF m 99 (LS_RRJsRJs r0 r1 (36028797018963967 : Int64) b1 z39) [(.long x4)])) _
    refine XS.aloadN X41.here hx rfl (hb hby d6_99) rfl rfl ?_
    show Steps p.tables e below (T41.setTop (mkF m 100 (LS_RRJsRJs r0 r1 (36028797018963967 : Int64) b1 z39) [(.ref r1), (.long x4)])) _
    refine XS.iconst X41.here hx rfl (hb hby d6_100) ?_
    show Steps p.tables e below (T41.setTop (mkF m 101 (LS_RRJsRJs r0 r1 (36028797018963967 : Int64) b1 z39) [(.int (4 : Int32)), (.ref r1), (.long x4)])) _
    refine X41.laload hx (j := (4 : Int32)) (v := (.long y4)) (by rw [e41]; exact Ar45.1) (State.isArrayOf_alike hZ.alike Ar45.2.1) Ar45.2.2 hin47 hat47 (g := (mkF m 101 (LS_RRJsRJs r0 r1 (36028797018963967 : Int64) b1 z39) [(.int (4 : Int32)), (.ref r1), (.long x4)])) rfl rfl (hb hby d6_101) _ ?_
    show Steps p.tables e below (T41.setTop (mkF m 102 (LS_RRJsRJs r0 r1 (36028797018963967 : Int64) b1 z39) [(.long y4), (.long x4)])) _
    refine XS.lsub X41.here hx rfl (hb hby d6_102) rfl ?_
    show Steps p.tables e below (T41.setTop (mkF m 103 (LS_RRJsRJs r0 r1 (36028797018963967 : Int64) b1 z39) [(.long (x4 - y4))])) _
    refine XS.lload X41.here hx rfl (hb hby d6_103) rfl ?_
    show Steps p.tables e below (T41.setTop (mkF m 105 (LS_RRJsRJs r0 r1 (36028797018963967 : Int64) b1 z39) [(.long z39), (.long (x4 - y4))])) _
    refine XS.bipush X41.here hx rfl (hb hby d6_105) ?_
    show Steps p.tables e below (T41.setTop (mkF m 107 (LS_RRJsRJs r0 r1 (36028797018963967 : Int64) b1 z39) [(.int (63 : Int32)), (.long z39), (.long (x4 - y4))])) _
    refine XS.lushr X41.here hx rfl (hb hby d6_107) rfl ?_
    show Steps p.tables e below (T41.setTop (mkF m 108 (LS_RRJsRJs r0 r1 (36028797018963967 : Int64) b1 z39) [(.long ((z39.toUInt64 >>> ((63 : Int32) &&& 0x3f).toInt64.toUInt64).toInt64)), (.long (x4 - y4))])) _
    refine XS.lsub X41.here hx rfl (hb hby d6_108) rfl ?_
    show Steps p.tables e below (T41.setTop (mkF m 109 (LS_RRJsRJs r0 r1 (36028797018963967 : Int64) b1 z39) [(.long ((x4 - y4) - ((z39.toUInt64 >>> ((63 : Int32) &&& 0x3f).toInt64.toUInt64).toInt64)))])) _
    refine XS.lstore X41.here hx rfl (hb hby d6_109) rfl (l' := (LS_RRJsRJs r0 r1 (36028797018963967 : Int64) b1 ((x4 - y4) - ((z39.toUInt64 >>> ((63 : Int32) &&& 0x3f).toInt64.toUInt64).toInt64)))) rfl ?_
    exact k
  obtain ⟨z48, hz48⟩ : ∃ z, z = ((x4 - y4) - ((z39.toUInt64 >>> ((63 : Int32) &&& 0x3f).toInt64.toUInt64).toInt64)) := ⟨_, rfl⟩
  refine own_go (B := T41.setTop (mkF m 111 (LS_RRJsRJs r0 r1 (36028797018963967 : Int64) b1 z48) [])) (fun t k => by rw [hz48] at k; exact k) ?_
  refine own_go (B := T41.setTop (mkF m 118 (LS_RRJsRJs r0 r1 (36028797018963967 : Int64) b1 z48) [(.long (z48 &&& (36028797018963967 : Int64))), (.int (4 : Int32)), (.ref b1)])) (fun t k => ?_) ?_
  · show Steps p.tables e below (T41.setTop (mkF m 111 (LS_RRJsRJs r0 r1 (36028797018963967 : Int64) b1 z48) [])) _
    refine XS.aload X41.here hx rfl (hb hby d6_111) rfl rfl ?_
    show Steps p.tables e below (T41.setTop (mkF m 113 (LS_RRJsRJs r0 r1 (36028797018963967 : Int64) b1 z48) [(.ref b1)])) _
    refine XS.iconst X41.here hx rfl (hb hby d6_113) ?_
    show Steps p.tables e below (T41.setTop (mkF m 114 (LS_RRJsRJs r0 r1 (36028797018963967 : Int64) b1 z48) [(.int (4 : Int32)), (.ref b1)])) _
    refine XS.lload X41.here hx rfl (hb hby d6_114) rfl ?_
    show Steps p.tables e below (T41.setTop (mkF m 116 (LS_RRJsRJs r0 r1 (36028797018963967 : Int64) b1 z48) [(.long z48), (.int (4 : Int32)), (.ref b1)])) _
    refine XS.lloadN X41.here hx rfl (hb hby d6_116) rfl ?_
    show Steps p.tables e below (T41.setTop (mkF m 117 (LS_RRJsRJs r0 r1 (36028797018963967 : Int64) b1 z48) [(.long (36028797018963967 : Int64)), (.long z48), (.int (4 : Int32)), (.ref b1)])) _
    refine XS.land X41.here hx rfl (hb hby d6_117) rfl ?_
    exact k
  obtain ⟨cl49, Ar49, qa49, Sa49, Na49, Ha49, Ga49⟩ := id V41
  have hin50 : ¬ ((4 : Int32) < 0 ∨ cl49.slots.size ≤ ((4 : Int32)).toNatClampNeg) := inb_of Sa49 ⟨by decide, by decide⟩
  obtain ⟨T50, h50, X50, e50, W50, st50⟩ := stJ X41 hx hZ e41 Ar49 (j := (4 : Int32)) hin50 (g := (mkF m 118 (LS_RRJsRJs r0 r1 (36028797018963967 : Int64) b1 z48) [(.long (z48 &&& (36028797018963967 : Int64))), (.int (4 : Int32)), (.ref b1)])) rfl rfl (hb hby d6_118)
  have N50 := Fr.snoc X50 N41 g_b1
  have V50 : Arv Z h50 b1 k1 .long (7 : Int32) [(.long (z8 &&& (36028797018963967 : Int64))), (.long (z19 &&& (36028797018963967 : Int64))), (.long (z30 &&& (36028797018963967 : Int64))), (.long (z39 &&& (36028797018963967 : Int64))), (.long (z48 &&& (36028797018963967 : Int64))), (.long (0 : Int64)), (.long (0 : Int64))] (.long (0 : Int64)) := Arv.set Ar49 qa49 Sa49 Na49 Ha49 Ga49 rfl W50 4 rfl (Nat.le_of_ble_eq_true rfl)
  refine own_go (B := T50.setTop (mkF m 119 (LS_RRJsRJs r0 r1 (36028797018963967 : Int64) b1 z48) [])) (fun t k => st50 _ k) ?_
  have Vq1_v52 := Vq1_v43.other W50 ne13
  obtain ⟨cl51, Ar51, qa51, Sa51, Na51, Ha51, Ga51⟩ := id Vq1_v52
  have hin53 : ¬ ((5 : Int32) < 0 ∨ cl51.slots.size ≤ ((5 : Int32)).toNatClampNeg) := inb_of Sa51 ⟨by decide, by decide⟩
  have hat53 : cl51.slots[((5 : Int32)).toNatClampNeg]? = some (.long x5) := Has.at Ha51 hin53 rfl
  have Vq2_v55 := Vq2_v46.other W50 ne17
  obtain ⟨cl54, Ar54, qa54, Sa54, Na54, Ha54, Ga54⟩ := id Vq2_v55
  have hin56 : ¬ ((5 : Int32) < 0 ∨ cl54.slots.size ≤ ((5 : Int32)).toNatClampNeg) := inb_of Sa54 ⟨by decide, by decide⟩
  have hat56 : cl54.slots[((5 : Int32)).toNatClampNeg]? = some (.long y5) := Has.at Ha54 hin56 rfl
  refine own_go (B := T50.setTop (mkF m 134 (LS_RRJsRJs r0 r1 (36028797018963967 : Int64) b1 ((x5 - y5) - ((z48.toUInt64 >>> ((63 : Int32) &&& 0x3f).toInt64.toUInt64).toInt64))) [])) (fun t k => ?_) ?_
  · show Steps p.tables e below (T50.setTop (mkF m 119 (LS_RRJsRJs r0 r1 (36028797018963967 : Int64) b1 z48) [])) _
    refine XS.aloadN X50.here hx rfl (hb hby d6_119) rfl rfl ?_
    show Steps p.tables e below (T50.setTop (mkF m 120 (LS_RRJsRJs r0 r1 (36028797018963967 : Int64) b1 z48) [(.ref r0)])) _
    refine XS.iconst X50.here hx rfl (hb hby d6_120) ?_
    show Steps p.tables e below (T50.setTop (mkF m 121 (LS_RRJsRJs r0 r1 (36028797018963967 : Int64) b1 z48) [(.int (5 : Int32)), (.ref r0)])) _
    refine X50.laload hx (j := (5 : Int32)) (v := (.long x5)) (by rw [e50]; exact Ar51.1) (State.isArrayOf_alike hZ.alike Ar51.2.1) Ar51.2.2 hin53 hat53 (g := (mkF m 121 (LS_RRJsRJs r0 r1 (36028797018963967 : Int64) b1 z48) [(.int (5 : Int32)), (.ref r0)])) rfl rfl (hb hby d6_121) _ ?_
    show Steps p.tables e below (T50.setTop (mkF m 122 (LS_RRJsRJs r0 r1 (36028797018963967 : Int64) b1 z48) [(.long x5)])) _
    refine XS.aloadN X50.here hx rfl (hb hby d6_122) rfl rfl ?_
    show Steps p.tables e below (T50.setTop (mkF m 123 (LS_RRJsRJs r0 r1 (36028797018963967 : Int64) b1 z48) [(.ref r1), (.long x5)])) _
    refine XS.iconst X50.here hx rfl (hb hby d6_123) ?_
    show Steps p.tables e below (T50.setTop (mkF m 124 (LS_RRJsRJs r0 r1 (36028797018963967 : Int64) b1 z48) [(.int (5 : Int32)), (.ref r1), (.long x5)])) _
    refine X50.laload hx (j := (5 : Int32)) (v := (.long y5)) (by rw [e50]; exact Ar54.1) (State.isArrayOf_alike hZ.alike Ar54.2.1) Ar54.2.2 hin56 hat56 (g := (mkF m 124 (LS_RRJsRJs r0 r1 (36028797018963967 : Int64) b1 z48) [(.int (5 : Int32)), (.ref r1), (.long x5)])) rfl rfl (hb hby d6_124) _ ?_
    show Steps p.tables e below (T50.setTop (mkF m 125 (LS_RRJsRJs r0 r1 (36028797018963967 : Int64) b1 z48) [(.long y5), (.long x5)])) _
    refine XS.lsub X50.here hx rfl (hb hby d6_125) rfl ?_
    show Steps p.tables e below (T50.setTop (mkF m 126 (LS_RRJsRJs r0 r1 (36028797018963967 : Int64) b1 z48) [(.long (x5 - y5))])) _
    refine XS.lload X50.here hx rfl (hb hby d6_126) rfl ?_
    show Steps p.tables e below (T50.setTop (mkF m 128 (LS_RRJsRJs r0 r1 (36028797018963967 : Int64) b1 z48) [(.long z48), (.long (x5 - y5))])) _
    refine XS.bipush X50.here hx rfl (hb hby d6_128) ?_
    show Steps p.tables e below (T50.setTop (mkF m 130 (LS_RRJsRJs r0 r1 (36028797018963967 : Int64) b1 z48) [(.int (63 : Int32)), (.long z48), (.long (x5 - y5))])) _
    refine XS.lushr X50.here hx rfl (hb hby d6_130) rfl ?_
    show Steps p.tables e below (T50.setTop (mkF m 131 (LS_RRJsRJs r0 r1 (36028797018963967 : Int64) b1 z48) [(.long ((z48.toUInt64 >>> ((63 : Int32) &&& 0x3f).toInt64.toUInt64).toInt64)), (.long (x5 - y5))])) _
    refine XS.lsub X50.here hx rfl (hb hby d6_131) rfl ?_
    show Steps p.tables e below (T50.setTop (mkF m 132 (LS_RRJsRJs r0 r1 (36028797018963967 : Int64) b1 z48) [(.long ((x5 - y5) - ((z48.toUInt64 >>> ((63 : Int32) &&& 0x3f).toInt64.toUInt64).toInt64)))])) _
    refine XS.lstore X50.here hx rfl (hb hby d6_132) rfl (l' := (LS_RRJsRJs r0 r1 (36028797018963967 : Int64) b1 ((x5 - y5) - ((z48.toUInt64 >>> ((63 : Int32) &&& 0x3f).toInt64.toUInt64).toInt64)))) rfl ?_
    exact k
  obtain ⟨z57, hz57⟩ : ∃ z, z = ((x5 - y5) - ((z48.toUInt64 >>> ((63 : Int32) &&& 0x3f).toInt64.toUInt64).toInt64)) := ⟨_, rfl⟩
  refine own_go (B := T50.setTop (mkF m 134 (LS_RRJsRJs r0 r1 (36028797018963967 : Int64) b1 z57) [])) (fun t k => by rw [hz57] at k; exact k) ?_
  refine own_go (B := T50.setTop (mkF m 141 (LS_RRJsRJs r0 r1 (36028797018963967 : Int64) b1 z57) [(.long (z57 &&& (36028797018963967 : Int64))), (.int (5 : Int32)), (.ref b1)])) (fun t k => ?_) ?_
  · show Steps p.tables e below (T50.setTop (mkF m 134 (LS_RRJsRJs r0 r1 (36028797018963967 : Int64) b1 z57) [])) _
    refine XS.aload X50.here hx rfl (hb hby d6_134) rfl rfl ?_
    show Steps p.tables e below (T50.setTop (mkF m 136 (LS_RRJsRJs r0 r1 (36028797018963967 : Int64) b1 z57) [(.ref b1)])) _
    refine XS.iconst X50.here hx rfl (hb hby d6_136) ?_
    show Steps p.tables e below (T50.setTop (mkF m 137 (LS_RRJsRJs r0 r1 (36028797018963967 : Int64) b1 z57) [(.int (5 : Int32)), (.ref b1)])) _
    refine XS.lload X50.here hx rfl (hb hby d6_137) rfl ?_
    show Steps p.tables e below (T50.setTop (mkF m 139 (LS_RRJsRJs r0 r1 (36028797018963967 : Int64) b1 z57) [(.long z57), (.int (5 : Int32)), (.ref b1)])) _
    refine XS.lloadN X50.here hx rfl (hb hby d6_139) rfl ?_
    show Steps p.tables e below (T50.setTop (mkF m 140 (LS_RRJsRJs r0 r1 (36028797018963967 : Int64) b1 z57) [(.long (36028797018963967 : Int64)), (.long z57), (.int (5 : Int32)), (.ref b1)])) _
    refine XS.land X50.here hx rfl (hb hby d6_140) rfl ?_
    exact k
  obtain ⟨cl58, Ar58, qa58, Sa58, Na58, Ha58, Ga58⟩ := id V50
  have hin59 : ¬ ((5 : Int32) < 0 ∨ cl58.slots.size ≤ ((5 : Int32)).toNatClampNeg) := inb_of Sa58 ⟨by decide, by decide⟩
  obtain ⟨T59, h59, X59, e59, W59, st59⟩ := stJ X50 hx hZ e50 Ar58 (j := (5 : Int32)) hin59 (g := (mkF m 141 (LS_RRJsRJs r0 r1 (36028797018963967 : Int64) b1 z57) [(.long (z57 &&& (36028797018963967 : Int64))), (.int (5 : Int32)), (.ref b1)])) rfl rfl (hb hby d6_141)
  have N59 := Fr.snoc X59 N50 g_b1
  have V59 : Arv Z h59 b1 k1 .long (7 : Int32) [(.long (z8 &&& (36028797018963967 : Int64))), (.long (z19 &&& (36028797018963967 : Int64))), (.long (z30 &&& (36028797018963967 : Int64))), (.long (z39 &&& (36028797018963967 : Int64))), (.long (z48 &&& (36028797018963967 : Int64))), (.long (z57 &&& (36028797018963967 : Int64))), (.long (0 : Int64))] (.long (0 : Int64)) := Arv.set Ar58 qa58 Sa58 Na58 Ha58 Ga58 rfl W59 5 rfl (Nat.le_of_ble_eq_true rfl)
  refine own_go (B := T59.setTop (mkF m 142 (LS_RRJsRJs r0 r1 (36028797018963967 : Int64) b1 z57) [])) (fun t k => st59 _ k) ?_
  have Vq1_v61 := Vq1_v52.other W59 ne13
  obtain ⟨cl60, Ar60, qa60, Sa60, Na60, Ha60, Ga60⟩ := id Vq1_v61
  have hin62 : ¬ ((6 : Int32) < 0 ∨ cl60.slots.size ≤ ((6 : Int32)).toNatClampNeg) := inb_of Sa60 ⟨by decide, by decide⟩
  have hat62 : cl60.slots[((6 : Int32)).toNatClampNeg]? = some (.long x6) := Has.at Ha60 hin62 rfl
  have Vq2_v64 := Vq2_v55.other W59 ne17
  obtain ⟨cl63, Ar63, qa63, Sa63, Na63, Ha63, Ga63⟩ := id Vq2_v64
  have hin65 : ¬ ((6 : Int32) < 0 ∨ cl63.slots.size ≤ ((6 : Int32)).toNatClampNeg) := inb_of Sa63 ⟨by decide, by decide⟩
  have hat65 : cl63.slots[((6 : Int32)).toNatClampNeg]? = some (.long y6) := Has.at Ha63 hin65 rfl
  refine own_go (B := T59.setTop (mkF m 159 (LS_RRJsRJs r0 r1 (36028797018963967 : Int64) b1 ((x6 - y6) - ((z57.toUInt64 >>> ((63 : Int32) &&& 0x3f).toInt64.toUInt64).toInt64))) [])) (fun t k => ?_) ?_
  · show Steps p.tables e below (T59.setTop (mkF m 142 (LS_RRJsRJs r0 r1 (36028797018963967 : Int64) b1 z57) [])) _
    refine XS.aloadN X59.here hx rfl (hb hby d6_142) rfl rfl ?_
    show Steps p.tables e below (T59.setTop (mkF m 143 (LS_RRJsRJs r0 r1 (36028797018963967 : Int64) b1 z57) [(.ref r0)])) _
    refine XS.bipush X59.here hx rfl (hb hby d6_143) ?_
    show Steps p.tables e below (T59.setTop (mkF m 145 (LS_RRJsRJs r0 r1 (36028797018963967 : Int64) b1 z57) [(.int (6 : Int32)), (.ref r0)])) _
    refine X59.laload hx (j := (6 : Int32)) (v := (.long x6)) (by rw [e59]; exact Ar60.1) (State.isArrayOf_alike hZ.alike Ar60.2.1) Ar60.2.2 hin62 hat62 (g := (mkF m 145 (LS_RRJsRJs r0 r1 (36028797018963967 : Int64) b1 z57) [(.int (6 : Int32)), (.ref r0)])) rfl rfl (hb hby d6_145) _ ?_
    show Steps p.tables e below (T59.setTop (mkF m 146 (LS_RRJsRJs r0 r1 (36028797018963967 : Int64) b1 z57) [(.long x6)])) _
    refine XS.aloadN X59.here hx rfl (hb hby d6_146) rfl rfl ?_
    show Steps p.tables e below (T59.setTop (mkF m 147 (LS_RRJsRJs r0 r1 (36028797018963967 : Int64) b1 z57) [(.ref r1), (.long x6)])) _
    refine XS.bipush X59.here hx rfl (hb hby d6_147) ?_
    show Steps p.tables e below (T59.setTop (mkF m 149 (LS_RRJsRJs r0 r1 (36028797018963967 : Int64) b1 z57) [(.int (6 : Int32)), (.ref r1), (.long x6)])) _
    refine X59.laload hx (j := (6 : Int32)) (v := (.long y6)) (by rw [e59]; exact Ar63.1) (State.isArrayOf_alike hZ.alike Ar63.2.1) Ar63.2.2 hin65 hat65 (g := (mkF m 149 (LS_RRJsRJs r0 r1 (36028797018963967 : Int64) b1 z57) [(.int (6 : Int32)), (.ref r1), (.long x6)])) rfl rfl (hb hby d6_149) _ ?_
    show Steps p.tables e below (T59.setTop (mkF m 150 (LS_RRJsRJs r0 r1 (36028797018963967 : Int64) b1 z57) [(.long y6), (.long x6)])) _
    refine XS.lsub X59.here hx rfl (hb hby d6_150) rfl ?_
    show Steps p.tables e below (T59.setTop (mkF m 151 (LS_RRJsRJs r0 r1 (36028797018963967 : Int64) b1 z57) [(.long (x6 - y6))])) _
    refine XS.lload X59.here hx rfl (hb hby d6_151) rfl ?_
    show Steps p.tables e below (T59.setTop (mkF m 153 (LS_RRJsRJs r0 r1 (36028797018963967 : Int64) b1 z57) [(.long z57), (.long (x6 - y6))])) _
    refine XS.bipush X59.here hx rfl (hb hby d6_153) ?_
    show Steps p.tables e below (T59.setTop (mkF m 155 (LS_RRJsRJs r0 r1 (36028797018963967 : Int64) b1 z57) [(.int (63 : Int32)), (.long z57), (.long (x6 - y6))])) _
    refine XS.lushr X59.here hx rfl (hb hby d6_155) rfl ?_
    show Steps p.tables e below (T59.setTop (mkF m 156 (LS_RRJsRJs r0 r1 (36028797018963967 : Int64) b1 z57) [(.long ((z57.toUInt64 >>> ((63 : Int32) &&& 0x3f).toInt64.toUInt64).toInt64)), (.long (x6 - y6))])) _
    refine XS.lsub X59.here hx rfl (hb hby d6_156) rfl ?_
    show Steps p.tables e below (T59.setTop (mkF m 157 (LS_RRJsRJs r0 r1 (36028797018963967 : Int64) b1 z57) [(.long ((x6 - y6) - ((z57.toUInt64 >>> ((63 : Int32) &&& 0x3f).toInt64.toUInt64).toInt64)))])) _
    refine XS.lstore X59.here hx rfl (hb hby d6_157) rfl (l' := (LS_RRJsRJs r0 r1 (36028797018963967 : Int64) b1 ((x6 - y6) - ((z57.toUInt64 >>> ((63 : Int32) &&& 0x3f).toInt64.toUInt64).toInt64)))) rfl ?_
    exact k
  obtain ⟨z66, hz66⟩ : ∃ z, z = ((x6 - y6) - ((z57.toUInt64 >>> ((63 : Int32) &&& 0x3f).toInt64.toUInt64).toInt64)) := ⟨_, rfl⟩
  refine own_go (B := T59.setTop (mkF m 159 (LS_RRJsRJs r0 r1 (36028797018963967 : Int64) b1 z66) [])) (fun t k => by rw [hz66] at k; exact k) ?_
  refine own_go (B := T59.setTop (mkF m 167 (LS_RRJsRJs r0 r1 (36028797018963967 : Int64) b1 z66) [(.long (z66 &&& (36028797018963967 : Int64))), (.int (6 : Int32)), (.ref b1)])) (fun t k => ?_) ?_
  · show Steps p.tables e below (T59.setTop (mkF m 159 (LS_RRJsRJs r0 r1 (36028797018963967 : Int64) b1 z66) [])) _
    refine XS.aload X59.here hx rfl (hb hby d6_159) rfl rfl ?_
    show Steps p.tables e below (T59.setTop (mkF m 161 (LS_RRJsRJs r0 r1 (36028797018963967 : Int64) b1 z66) [(.ref b1)])) _
    refine XS.bipush X59.here hx rfl (hb hby d6_161) ?_
    show Steps p.tables e below (T59.setTop (mkF m 163 (LS_RRJsRJs r0 r1 (36028797018963967 : Int64) b1 z66) [(.int (6 : Int32)), (.ref b1)])) _
    refine XS.lload X59.here hx rfl (hb hby d6_163) rfl ?_
    show Steps p.tables e below (T59.setTop (mkF m 165 (LS_RRJsRJs r0 r1 (36028797018963967 : Int64) b1 z66) [(.long z66), (.int (6 : Int32)), (.ref b1)])) _
    refine XS.lloadN X59.here hx rfl (hb hby d6_165) rfl ?_
    show Steps p.tables e below (T59.setTop (mkF m 166 (LS_RRJsRJs r0 r1 (36028797018963967 : Int64) b1 z66) [(.long (36028797018963967 : Int64)), (.long z66), (.int (6 : Int32)), (.ref b1)])) _
    refine XS.land X59.here hx rfl (hb hby d6_166) rfl ?_
    exact k
  obtain ⟨cl67, Ar67, qa67, Sa67, Na67, Ha67, Ga67⟩ := id V59
  have hin68 : ¬ ((6 : Int32) < 0 ∨ cl67.slots.size ≤ ((6 : Int32)).toNatClampNeg) := inb_of Sa67 ⟨by decide, by decide⟩
  obtain ⟨T68, h68, X68, e68, W68, st68⟩ := stJ X59 hx hZ e59 Ar67 (j := (6 : Int32)) hin68 (g := (mkF m 167 (LS_RRJsRJs r0 r1 (36028797018963967 : Int64) b1 z66) [(.long (z66 &&& (36028797018963967 : Int64))), (.int (6 : Int32)), (.ref b1)])) rfl rfl (hb hby d6_167)
  have N68 := Fr.snoc X68 N59 g_b1
  have V68 : Arv Z h68 b1 k1 .long (7 : Int32) [(.long (z8 &&& (36028797018963967 : Int64))), (.long (z19 &&& (36028797018963967 : Int64))), (.long (z30 &&& (36028797018963967 : Int64))), (.long (z39 &&& (36028797018963967 : Int64))), (.long (z48 &&& (36028797018963967 : Int64))), (.long (z57 &&& (36028797018963967 : Int64))), (.long (z66 &&& (36028797018963967 : Int64)))] (.long (0 : Int64)) := Arv.set Ar67 qa67 Sa67 Na67 Ha67 Ga67 rfl W68 6 rfl (Nat.le_of_ble_eq_true rfl)
  refine own_go (B := T68.setTop (mkF m 168 (LS_RRJsRJs r0 r1 (36028797018963967 : Int64) b1 z66) [])) (fun t k => st68 _ k) ?_
  refine own_go (B := T68.setTop (mkF m 170 (LS_RRJsRJs r0 r1 (36028797018963967 : Int64) b1 z66) [(.ref b1)])) (fun t k => ?_) ?_
  · show Steps p.tables e below (T68.setTop (mkF m 168 (LS_RRJsRJs r0 r1 (36028797018963967 : Int64) b1 z66) [])) _
    refine XS.aload X68.here hx rfl (hb hby d6_168) rfl rfl ?_
    exact k
  obtain ⟨fs, hr, hrun, hended, hW, hsame⟩ := X68.leave (v := some (.ref b1)) (fun h => by rw [Bd.returns] at h; cases h)
  refine ⟨_, _, ?_, hrun, hended, _, _, rfl, ?_, ⟨_, rfl⟩, hW, hsame.mono (by decide) (by decide)⟩
  · show Steps p.tables e below (T68.setTop (mkF m 170 (LS_RRJsRJs r0 r1 (36028797018963967 : Int64) b1 z66) [(.ref b1)])) _
    exact retOut X68 hx Bd.returns rfl (Or.inr (Or.inr (Or.inr (Or.inr ⟨rfl, rfl, rfl⟩)))) (hb hby d6_170) hr
  · show Q6 Z r0 r1 kq1 kq2 x0 x1 x2 x3 x4 x5 x6 y0 y1 y2 y3 y4 y5 y6 h0 n0 _ T68.heap _
    rw [e68]
    have K0_v69 := K0.ext E1
    have K0_v70 := K0_v69.wr W10 (Or.inr sz_b1)
    have K0_v71 := K0_v70.wr W21 (Or.inr sz_b1)
    have K0_v72 := K0_v71.wr W32 (Or.inr sz_b1)
    have K0_v73 := K0_v72.wr W41 (Or.inr sz_b1)
    have K0_v74 := K0_v73.wr W50 (Or.inr sz_b1)
    have K0_v75 := K0_v74.wr W59 (Or.inr sz_b1)
    have K0_v76 := K0_v75.wr W68 (Or.inr sz_b1)
    exact ⟨b1, k1, (z8 &&& (36028797018963967 : Int64)), (z19 &&& (36028797018963967 : Int64)), (z30 &&& (36028797018963967 : Int64)), (z39 &&& (36028797018963967 : Int64)), (z48 &&& (36028797018963967 : Int64)), (z57 &&& (36028797018963967 : Int64)), (z66 &&& (36028797018963967 : Int64)), rfl, N68, sz_b1, K0_v76, V68, own_mrng _, own_mrng _, own_mrng _, own_mrng _, own_mrng _, own_mrng _, own_mrng _⟩
theorem ef_2 (m : MethodId) (r0 : Addr) (r1 : Addr) : entryFrame m #[(.ref r0), (.ref r1)] 4 = mkF m 0 #[.val (.ref r0), .val (.ref r1), .unset, .unset] [] := by first | (simp [entryFrame, mkF, argsToLocals, Value.category]; done) | rfl
theorem pn_2 : plainName "com/example/barred_rows/barredrows/crypto/FpIsZeroPinLaw" = true := by first | (simp [plainName, overriddenIn]; done) | decide +kernel
abbrev LS_RRuu (a0 : Addr) (a1 : Addr) : Array Slot := #[.val (.ref a0), .val (.ref a1), .unset, .unset]
theorem d2_0 : decode method_5_code 0 = .ok (.aload_n 0, 1) := by decide +kernel
theorem d2_1 : decode method_5_code 1 = .ok (.iconst 0, 1) := by decide +kernel
theorem d2_2 : decode method_5_code 2 = .ok (.laload, 1) := by decide +kernel
theorem d2_3 : decode method_5_code 3 = .ok (.aload_n 0, 1) := by decide +kernel
theorem d2_4 : decode method_5_code 4 = .ok (.iconst 1, 1) := by decide +kernel
theorem d2_5 : decode method_5_code 5 = .ok (.laload, 1) := by decide +kernel
theorem d2_6 : decode method_5_code 6 = .ok (.lor, 1) := by decide +kernel
theorem d2_7 : decode method_5_code 7 = .ok (.aload_n 0, 1) := by decide +kernel
theorem d2_8 : decode method_5_code 8 = .ok (.iconst 2, 1) := by decide +kernel
theorem d2_9 : decode method_5_code 9 = .ok (.laload, 1) := by decide +kernel
theorem d2_10 : decode method_5_code 10 = .ok (.lor, 1) := by decide +kernel
theorem d2_11 : decode method_5_code 11 = .ok (.aload_n 0, 1) := by decide +kernel
theorem d2_12 : decode method_5_code 12 = .ok (.iconst 3, 1) := by decide +kernel
theorem d2_13 : decode method_5_code 13 = .ok (.laload, 1) := by decide +kernel
theorem d2_14 : decode method_5_code 14 = .ok (.lor, 1) := by decide +kernel
theorem d2_15 : decode method_5_code 15 = .ok (.aload_n 0, 1) := by decide +kernel
theorem d2_16 : decode method_5_code 16 = .ok (.iconst 4, 1) := by decide +kernel
theorem d2_17 : decode method_5_code 17 = .ok (.laload, 1) := by decide +kernel
theorem d2_18 : decode method_5_code 18 = .ok (.lor, 1) := by decide +kernel
theorem d2_19 : decode method_5_code 19 = .ok (.aload_n 0, 1) := by decide +kernel
theorem d2_20 : decode method_5_code 20 = .ok (.iconst 5, 1) := by decide +kernel
theorem d2_21 : decode method_5_code 21 = .ok (.laload, 1) := by decide +kernel
theorem d2_22 : decode method_5_code 22 = .ok (.lor, 1) := by decide +kernel
theorem d2_23 : decode method_5_code 23 = .ok (.aload_n 0, 1) := by decide +kernel
theorem d2_24 : decode method_5_code 24 = .ok (.bipush 6, 2) := by decide +kernel
theorem d2_26 : decode method_5_code 26 = .ok (.laload, 1) := by decide +kernel
theorem d2_27 : decode method_5_code 27 = .ok (.lor, 1) := by decide +kernel
theorem d2_28 : decode method_5_code 28 = .ok (.lconst 0, 1) := by decide +kernel
theorem d2_29 : decode method_5_code 29 = .ok (.lcmp, 1) := by decide +kernel
theorem d2_30 : decode method_5_code 30 = .ok (.ifCond .ne 7, 3) := by decide +kernel
theorem d2_33 : decode method_5_code 33 = .ok (.iconst 1, 1) := by decide +kernel
theorem d2_34 : decode method_5_code 34 = .ok (.goto 4, 3) := by decide +kernel
theorem d2_38 : decode method_5_code 38 = .ok (.istore_n 2, 1) := by decide +kernel
abbrev LS_RRIu (a0 : Addr) (a1 : Addr) (a2 : Int32) : Array Slot := #[.val (.ref a0), .val (.ref a1), .val (.int a2), .unset]
theorem d2_39 : decode method_5_code 39 = .ok (.aload_n 0, 1) := by decide +kernel
theorem d2_40 : decode method_5_code 40 = .ok (.iconst 0, 1) := by decide +kernel
theorem d2_41 : decode method_5_code 41 = .ok (.laload, 1) := by decide +kernel
theorem d2_42 : decode method_5_code 42 = .ok (.aload_n 1, 1) := by decide +kernel
theorem d2_43 : decode method_5_code 43 = .ok (.iconst 0, 1) := by decide +kernel
theorem d2_44 : decode method_5_code 44 = .ok (.laload, 1) := by decide +kernel
theorem d2_45 : decode method_5_code 45 = .ok (.lxor, 1) := by decide +kernel
theorem d2_46 : decode method_5_code 46 = .ok (.aload_n 0, 1) := by decide +kernel
theorem d2_47 : decode method_5_code 47 = .ok (.iconst 1, 1) := by decide +kernel
theorem d2_48 : decode method_5_code 48 = .ok (.laload, 1) := by decide +kernel
theorem d2_49 : decode method_5_code 49 = .ok (.aload_n 1, 1) := by decide +kernel
theorem d2_50 : decode method_5_code 50 = .ok (.iconst 1, 1) := by decide +kernel
theorem d2_51 : decode method_5_code 51 = .ok (.laload, 1) := by decide +kernel
theorem d2_52 : decode method_5_code 52 = .ok (.lxor, 1) := by decide +kernel
theorem d2_53 : decode method_5_code 53 = .ok (.lor, 1) := by decide +kernel
theorem d2_54 : decode method_5_code 54 = .ok (.aload_n 0, 1) := by decide +kernel
theorem d2_55 : decode method_5_code 55 = .ok (.iconst 2, 1) := by decide +kernel
theorem d2_56 : decode method_5_code 56 = .ok (.laload, 1) := by decide +kernel
theorem d2_57 : decode method_5_code 57 = .ok (.aload_n 1, 1) := by decide +kernel
theorem d2_58 : decode method_5_code 58 = .ok (.iconst 2, 1) := by decide +kernel
theorem d2_59 : decode method_5_code 59 = .ok (.laload, 1) := by decide +kernel
theorem d2_60 : decode method_5_code 60 = .ok (.lxor, 1) := by decide +kernel
theorem d2_61 : decode method_5_code 61 = .ok (.lor, 1) := by decide +kernel
theorem d2_62 : decode method_5_code 62 = .ok (.aload_n 0, 1) := by decide +kernel
theorem d2_63 : decode method_5_code 63 = .ok (.iconst 3, 1) := by decide +kernel
theorem d2_64 : decode method_5_code 64 = .ok (.laload, 1) := by decide +kernel
theorem d2_65 : decode method_5_code 65 = .ok (.aload_n 1, 1) := by decide +kernel
theorem d2_66 : decode method_5_code 66 = .ok (.iconst 3, 1) := by decide +kernel
theorem d2_67 : decode method_5_code 67 = .ok (.laload, 1) := by decide +kernel
theorem d2_68 : decode method_5_code 68 = .ok (.lxor, 1) := by decide +kernel
theorem d2_69 : decode method_5_code 69 = .ok (.lor, 1) := by decide +kernel
theorem d2_70 : decode method_5_code 70 = .ok (.aload_n 0, 1) := by decide +kernel
theorem d2_71 : decode method_5_code 71 = .ok (.iconst 4, 1) := by decide +kernel
theorem d2_72 : decode method_5_code 72 = .ok (.laload, 1) := by decide +kernel
theorem d2_73 : decode method_5_code 73 = .ok (.aload_n 1, 1) := by decide +kernel
theorem d2_74 : decode method_5_code 74 = .ok (.iconst 4, 1) := by decide +kernel
theorem d2_75 : decode method_5_code 75 = .ok (.laload, 1) := by decide +kernel
theorem d2_76 : decode method_5_code 76 = .ok (.lxor, 1) := by decide +kernel
theorem d2_77 : decode method_5_code 77 = .ok (.lor, 1) := by decide +kernel
theorem d2_78 : decode method_5_code 78 = .ok (.aload_n 0, 1) := by decide +kernel
theorem d2_79 : decode method_5_code 79 = .ok (.iconst 5, 1) := by decide +kernel
theorem d2_80 : decode method_5_code 80 = .ok (.laload, 1) := by decide +kernel
theorem d2_81 : decode method_5_code 81 = .ok (.aload_n 1, 1) := by decide +kernel
theorem d2_82 : decode method_5_code 82 = .ok (.iconst 5, 1) := by decide +kernel
theorem d2_83 : decode method_5_code 83 = .ok (.laload, 1) := by decide +kernel
theorem d2_84 : decode method_5_code 84 = .ok (.lxor, 1) := by decide +kernel
theorem d2_85 : decode method_5_code 85 = .ok (.lor, 1) := by decide +kernel
theorem d2_86 : decode method_5_code 86 = .ok (.aload_n 0, 1) := by decide +kernel
theorem d2_87 : decode method_5_code 87 = .ok (.bipush 6, 2) := by decide +kernel
theorem d2_89 : decode method_5_code 89 = .ok (.laload, 1) := by decide +kernel
theorem d2_90 : decode method_5_code 90 = .ok (.aload_n 1, 1) := by decide +kernel
theorem d2_91 : decode method_5_code 91 = .ok (.bipush 6, 2) := by decide +kernel
theorem d2_93 : decode method_5_code 93 = .ok (.laload, 1) := by decide +kernel
theorem d2_94 : decode method_5_code 94 = .ok (.lxor, 1) := by decide +kernel
theorem d2_95 : decode method_5_code 95 = .ok (.lor, 1) := by decide +kernel
theorem d2_96 : decode method_5_code 96 = .ok (.lconst 0, 1) := by decide +kernel
theorem d2_97 : decode method_5_code 97 = .ok (.lcmp, 1) := by decide +kernel
theorem d2_98 : decode method_5_code 98 = .ok (.ifCond .ne 7, 3) := by decide +kernel
theorem d2_101 : decode method_5_code 101 = .ok (.iconst 1, 1) := by decide +kernel
theorem d2_102 : decode method_5_code 102 = .ok (.goto 4, 3) := by decide +kernel
theorem d2_106 : decode method_5_code 106 = .ok (.istore_n 3, 1) := by decide +kernel
abbrev LS_RRII (a0 : Addr) (a1 : Addr) (a2 : Int32) (a3 : Int32) : Array Slot := #[.val (.ref a0), .val (.ref a1), .val (.int a2), .val (.int a3)]
theorem d2_107 : decode method_5_code 107 = .ok (.iload_n 2, 1) := by decide +kernel
theorem d2_108 : decode method_5_code 108 = .ok (.ifCond .ne 7, 3) := by decide +kernel
theorem d2_115 : decode method_5_code 115 = .ok (.iconst 1, 1) := by decide +kernel
theorem d2_116 : decode method_5_code 116 = .ok (.goto 4, 3) := by decide +kernel
theorem d2_120 : decode method_5_code 120 = .ok (.ireturn, 1) := by decide +kernel
theorem d2_105 : decode method_5_code 105 = .ok (.iconst 0, 1) := by decide +kernel
theorem d2_37 : decode method_5_code 37 = .ok (.iconst 0, 1) := by decide +kernel
theorem d2_111 : decode method_5_code 111 = .ok (.iload_n 3, 1) := by decide +kernel
theorem d2_112 : decode method_5_code 112 = .ok (.ifCond .eq 7, 3) := by decide +kernel
theorem d2_119 : decode method_5_code 119 = .ok (.iconst 0, 1) := by decide +kernel
def Q2 (Z : State) (r0 : Addr) (r1 : Addr) (kq1 kq2 : ClassId) (x0 x1 x2 x3 x4 x5 x6 : Int64) (h0 : Heap) (n0 : Nat) (v : Option Value) (h : Heap) (L : List Loc) : Prop := v = some (.int (if ((((((x0 ||| x1) ||| x2) ||| x3) ||| x4) ||| x5) ||| x6) = (0 : Int64) ∨ (((((((x0 ^^^ (35747322042231467 : Int64)) ||| (x1 ^^^ (36025922209447795 : Int64))) ||| (x2 ^^^ (1084959616957103 : Int64))) ||| (x3 ^^^ (7925923977987733 : Int64))) ||| (x4 ^^^ (16551456537884751 : Int64))) ||| (x5 ^^^ (23443114579904617 : Int64))) ||| (x6 ^^^ (1829881462546425 : Int64))) = (0 : Int64) then (1 : Int32) else (0 : Int32))) ∧ Fr n0 L ∧ h = h0
set_option maxRecDepth 65536 in
set_option maxHeartbeats 40000000 in
theorem rm2 (l : Launch) (Z : State) (a0 : Array Value) (hw : ∀ d ∈ tables_1, d.before a0 Z = true) (ws : List Jvm.Cond) (r0 : Addr) (r1 : Addr) (kq1 kq2 : ClassId) (x0 x1 x2 x3 x4 x5 x6 : Int64) (h0 : Heap) (n0 : Nat) (Z0 : n0 ≤ h0.size) (Vq1 : Arv Z h0 r0 kq1 .long (7 : Int32) [(.long x0), (.long x1), (.long x2), (.long x3), (.long x4), (.long x5), (.long x6)] (.long (0 : Int64))) (Vq2 : Arv Z h0 r1 kq2 .long (7 : Int32) [(.long (35747322042231467 : Int64)), (.long (36025922209447795 : Int64)), (.long (1084959616957103 : Int64)), (.long (7925923977987733 : Int64)), (.long (16551456537884751 : Int64)), (.long (23443114579904617 : Int64)), (.long (1829881462546425 : Int64))] (.long (0 : Int64))) :
    MetFree l (⟨"com/example/barred_rows/barredrows/crypto/FpIsZeroPinLaw", "zeroModP", "([J[J)Z"⟩ : MethodName) (head1 (Jvm.Cond.code (⟨"com/example/barred_rows/barredrows/crypto/FpIsZeroPinLaw", "zeroModP", "([J[J)Z"⟩ : MethodName) method_5_code 4 (some .boolean) :: ws) ({ frames := 0, cells := 0, slots := 0, locals := 0 } : Room)) (fun a U => a = #[(.ref r0), (.ref r1)] ∧ Z.Warmed39 U.vm ∧ U.heap = h0) (fun _ _ _ _ _ => True) (fun _ U o U' => ∃ v L, o = .returned v ∧ Q2 Z r0 r1 kq1 kq2 x0 x1 x2 x3 x4 x5 x6 h0 n0 v U'.heap L ∧ FrameEnd U o U' L ({ frames := 0, cells := 0, slots := 0, locals := 0 } : Room).cells ({ frames := 0, cells := 0, slots := 0, locals := 0 } : Room).slots) := by
  refine MetFree.of_bodySF (plainFor_of_name pn_2) hisR ?_
  intro p e s m args below meth c s₁ Bd hml0 hP hK
  obtain ⟨rfl, hZ, hh⟩ := hP
  have hx := Bd.exec
  have hby := Bd.bytes
  have hml : c.maxLocals = 4 := hml0
  have hown : s.vm.findClass "com/example/barred_rows/barredrows/crypto/FpIsZeroPinLaw" = some m.cls := findClass_of_methodNamed Bd.named
  have hnm := (name_of_methodNamed Bd.named Bd.method).1
  have X0 : Stand p l e ({ frames := 0, cells := 0, slots := 0, locals := 0 } : Room) s m #[(.ref r0), (.ref r1)] below meth c s₁ [] 0 0 := Stand.of_body Bd
  have e0 : s₁.heap = h0 := by rw [← hh, Bd.state]; rfl
  have N0 := Fr.nil n0
  refine own_go (B := s₁.setTop (mkF m 0 (LS_RRuu r0 r1) [])) (fun t k => castTop (ef_2 m r0 r1) k) ?_
  obtain ⟨cl1, Ar1, qa1, Sa1, Na1, Ha1, Ga1⟩ := id Vq1
  have hin2 : ¬ ((0 : Int32) < 0 ∨ cl1.slots.size ≤ ((0 : Int32)).toNatClampNeg) := inb_of Sa1 ⟨by decide, by decide⟩
  have hat2 : cl1.slots[((0 : Int32)).toNatClampNeg]? = some (.long x0) := Has.at Ha1 hin2 rfl
  obtain ⟨cl3, Ar3, qa3, Sa3, Na3, Ha3, Ga3⟩ := id Vq1
  have hin4 : ¬ ((1 : Int32) < 0 ∨ cl3.slots.size ≤ ((1 : Int32)).toNatClampNeg) := inb_of Sa3 ⟨by decide, by decide⟩
  have hat4 : cl3.slots[((1 : Int32)).toNatClampNeg]? = some (.long x1) := Has.at Ha3 hin4 rfl
  obtain ⟨cl5, Ar5, qa5, Sa5, Na5, Ha5, Ga5⟩ := id Vq1
  have hin6 : ¬ ((2 : Int32) < 0 ∨ cl5.slots.size ≤ ((2 : Int32)).toNatClampNeg) := inb_of Sa5 ⟨by decide, by decide⟩
  have hat6 : cl5.slots[((2 : Int32)).toNatClampNeg]? = some (.long x2) := Has.at Ha5 hin6 rfl
  obtain ⟨cl7, Ar7, qa7, Sa7, Na7, Ha7, Ga7⟩ := id Vq1
  have hin8 : ¬ ((3 : Int32) < 0 ∨ cl7.slots.size ≤ ((3 : Int32)).toNatClampNeg) := inb_of Sa7 ⟨by decide, by decide⟩
  have hat8 : cl7.slots[((3 : Int32)).toNatClampNeg]? = some (.long x3) := Has.at Ha7 hin8 rfl
  obtain ⟨cl9, Ar9, qa9, Sa9, Na9, Ha9, Ga9⟩ := id Vq1
  have hin10 : ¬ ((4 : Int32) < 0 ∨ cl9.slots.size ≤ ((4 : Int32)).toNatClampNeg) := inb_of Sa9 ⟨by decide, by decide⟩
  have hat10 : cl9.slots[((4 : Int32)).toNatClampNeg]? = some (.long x4) := Has.at Ha9 hin10 rfl
  obtain ⟨cl11, Ar11, qa11, Sa11, Na11, Ha11, Ga11⟩ := id Vq1
  have hin12 : ¬ ((5 : Int32) < 0 ∨ cl11.slots.size ≤ ((5 : Int32)).toNatClampNeg) := inb_of Sa11 ⟨by decide, by decide⟩
  have hat12 : cl11.slots[((5 : Int32)).toNatClampNeg]? = some (.long x5) := Has.at Ha11 hin12 rfl
  obtain ⟨cl13, Ar13, qa13, Sa13, Na13, Ha13, Ga13⟩ := id Vq1
  have hin14 : ¬ ((6 : Int32) < 0 ∨ cl13.slots.size ≤ ((6 : Int32)).toNatClampNeg) := inb_of Sa13 ⟨by decide, by decide⟩
  have hat14 : cl13.slots[((6 : Int32)).toNatClampNeg]? = some (.long x6) := Has.at Ha13 hin14 rfl
  refine own_go (B := s₁.setTop (mkF m 30 (LS_RRuu r0 r1) [(.int (lcmpW ((((((x0 ||| x1) ||| x2) ||| x3) ||| x4) ||| x5) ||| x6) (0 : Int64)))])) (fun t k => ?_) ?_
  · show Steps p.tables e below (s₁.setTop (mkF m 0 (LS_RRuu r0 r1) [])) _
    refine XS.aloadN X0.here hx rfl (hb hby d2_0) rfl rfl ?_
    show Steps p.tables e below (s₁.setTop (mkF m 1 (LS_RRuu r0 r1) [(.ref r0)])) _
    refine XS.iconst X0.here hx rfl (hb hby d2_1) ?_
    show Steps p.tables e below (s₁.setTop (mkF m 2 (LS_RRuu r0 r1) [(.int (0 : Int32)), (.ref r0)])) _
    refine X0.laload hx (j := (0 : Int32)) (v := (.long x0)) (by rw [e0]; exact Ar1.1) (State.isArrayOf_alike hZ.alike Ar1.2.1) Ar1.2.2 hin2 hat2 (g := (mkF m 2 (LS_RRuu r0 r1) [(.int (0 : Int32)), (.ref r0)])) rfl rfl (hb hby d2_2) _ ?_
    show Steps p.tables e below (s₁.setTop (mkF m 3 (LS_RRuu r0 r1) [(.long x0)])) _
    refine XS.aloadN X0.here hx rfl (hb hby d2_3) rfl rfl ?_
    show Steps p.tables e below (s₁.setTop (mkF m 4 (LS_RRuu r0 r1) [(.ref r0), (.long x0)])) _
    refine XS.iconst X0.here hx rfl (hb hby d2_4) ?_
    show Steps p.tables e below (s₁.setTop (mkF m 5 (LS_RRuu r0 r1) [(.int (1 : Int32)), (.ref r0), (.long x0)])) _
    refine X0.laload hx (j := (1 : Int32)) (v := (.long x1)) (by rw [e0]; exact Ar3.1) (State.isArrayOf_alike hZ.alike Ar3.2.1) Ar3.2.2 hin4 hat4 (g := (mkF m 5 (LS_RRuu r0 r1) [(.int (1 : Int32)), (.ref r0), (.long x0)])) rfl rfl (hb hby d2_5) _ ?_
    show Steps p.tables e below (s₁.setTop (mkF m 6 (LS_RRuu r0 r1) [(.long x1), (.long x0)])) _
    refine XS.lor X0.here hx rfl (hb hby d2_6) rfl ?_
    show Steps p.tables e below (s₁.setTop (mkF m 7 (LS_RRuu r0 r1) [(.long (x0 ||| x1))])) _
    refine XS.aloadN X0.here hx rfl (hb hby d2_7) rfl rfl ?_
    show Steps p.tables e below (s₁.setTop (mkF m 8 (LS_RRuu r0 r1) [(.ref r0), (.long (x0 ||| x1))])) _
    refine XS.iconst X0.here hx rfl (hb hby d2_8) ?_
    show Steps p.tables e below (s₁.setTop (mkF m 9 (LS_RRuu r0 r1) [(.int (2 : Int32)), (.ref r0), (.long (x0 ||| x1))])) _
    refine X0.laload hx (j := (2 : Int32)) (v := (.long x2)) (by rw [e0]; exact Ar5.1) (State.isArrayOf_alike hZ.alike Ar5.2.1) Ar5.2.2 hin6 hat6 (g := (mkF m 9 (LS_RRuu r0 r1) [(.int (2 : Int32)), (.ref r0), (.long (x0 ||| x1))])) rfl rfl (hb hby d2_9) _ ?_
    show Steps p.tables e below (s₁.setTop (mkF m 10 (LS_RRuu r0 r1) [(.long x2), (.long (x0 ||| x1))])) _
    refine XS.lor X0.here hx rfl (hb hby d2_10) rfl ?_
    show Steps p.tables e below (s₁.setTop (mkF m 11 (LS_RRuu r0 r1) [(.long ((x0 ||| x1) ||| x2))])) _
    refine XS.aloadN X0.here hx rfl (hb hby d2_11) rfl rfl ?_
    show Steps p.tables e below (s₁.setTop (mkF m 12 (LS_RRuu r0 r1) [(.ref r0), (.long ((x0 ||| x1) ||| x2))])) _
    refine XS.iconst X0.here hx rfl (hb hby d2_12) ?_
    show Steps p.tables e below (s₁.setTop (mkF m 13 (LS_RRuu r0 r1) [(.int (3 : Int32)), (.ref r0), (.long ((x0 ||| x1) ||| x2))])) _
    refine X0.laload hx (j := (3 : Int32)) (v := (.long x3)) (by rw [e0]; exact Ar7.1) (State.isArrayOf_alike hZ.alike Ar7.2.1) Ar7.2.2 hin8 hat8 (g := (mkF m 13 (LS_RRuu r0 r1) [(.int (3 : Int32)), (.ref r0), (.long ((x0 ||| x1) ||| x2))])) rfl rfl (hb hby d2_13) _ ?_
    show Steps p.tables e below (s₁.setTop (mkF m 14 (LS_RRuu r0 r1) [(.long x3), (.long ((x0 ||| x1) ||| x2))])) _
    refine XS.lor X0.here hx rfl (hb hby d2_14) rfl ?_
    show Steps p.tables e below (s₁.setTop (mkF m 15 (LS_RRuu r0 r1) [(.long (((x0 ||| x1) ||| x2) ||| x3))])) _
    refine XS.aloadN X0.here hx rfl (hb hby d2_15) rfl rfl ?_
    show Steps p.tables e below (s₁.setTop (mkF m 16 (LS_RRuu r0 r1) [(.ref r0), (.long (((x0 ||| x1) ||| x2) ||| x3))])) _
    refine XS.iconst X0.here hx rfl (hb hby d2_16) ?_
    show Steps p.tables e below (s₁.setTop (mkF m 17 (LS_RRuu r0 r1) [(.int (4 : Int32)), (.ref r0), (.long (((x0 ||| x1) ||| x2) ||| x3))])) _
    refine X0.laload hx (j := (4 : Int32)) (v := (.long x4)) (by rw [e0]; exact Ar9.1) (State.isArrayOf_alike hZ.alike Ar9.2.1) Ar9.2.2 hin10 hat10 (g := (mkF m 17 (LS_RRuu r0 r1) [(.int (4 : Int32)), (.ref r0), (.long (((x0 ||| x1) ||| x2) ||| x3))])) rfl rfl (hb hby d2_17) _ ?_
    show Steps p.tables e below (s₁.setTop (mkF m 18 (LS_RRuu r0 r1) [(.long x4), (.long (((x0 ||| x1) ||| x2) ||| x3))])) _
    refine XS.lor X0.here hx rfl (hb hby d2_18) rfl ?_
    show Steps p.tables e below (s₁.setTop (mkF m 19 (LS_RRuu r0 r1) [(.long ((((x0 ||| x1) ||| x2) ||| x3) ||| x4))])) _
    refine XS.aloadN X0.here hx rfl (hb hby d2_19) rfl rfl ?_
    show Steps p.tables e below (s₁.setTop (mkF m 20 (LS_RRuu r0 r1) [(.ref r0), (.long ((((x0 ||| x1) ||| x2) ||| x3) ||| x4))])) _
    refine XS.iconst X0.here hx rfl (hb hby d2_20) ?_
    show Steps p.tables e below (s₁.setTop (mkF m 21 (LS_RRuu r0 r1) [(.int (5 : Int32)), (.ref r0), (.long ((((x0 ||| x1) ||| x2) ||| x3) ||| x4))])) _
    refine X0.laload hx (j := (5 : Int32)) (v := (.long x5)) (by rw [e0]; exact Ar11.1) (State.isArrayOf_alike hZ.alike Ar11.2.1) Ar11.2.2 hin12 hat12 (g := (mkF m 21 (LS_RRuu r0 r1) [(.int (5 : Int32)), (.ref r0), (.long ((((x0 ||| x1) ||| x2) ||| x3) ||| x4))])) rfl rfl (hb hby d2_21) _ ?_
    show Steps p.tables e below (s₁.setTop (mkF m 22 (LS_RRuu r0 r1) [(.long x5), (.long ((((x0 ||| x1) ||| x2) ||| x3) ||| x4))])) _
    refine XS.lor X0.here hx rfl (hb hby d2_22) rfl ?_
    show Steps p.tables e below (s₁.setTop (mkF m 23 (LS_RRuu r0 r1) [(.long (((((x0 ||| x1) ||| x2) ||| x3) ||| x4) ||| x5))])) _
    refine XS.aloadN X0.here hx rfl (hb hby d2_23) rfl rfl ?_
    show Steps p.tables e below (s₁.setTop (mkF m 24 (LS_RRuu r0 r1) [(.ref r0), (.long (((((x0 ||| x1) ||| x2) ||| x3) ||| x4) ||| x5))])) _
    refine XS.bipush X0.here hx rfl (hb hby d2_24) ?_
    show Steps p.tables e below (s₁.setTop (mkF m 26 (LS_RRuu r0 r1) [(.int (6 : Int32)), (.ref r0), (.long (((((x0 ||| x1) ||| x2) ||| x3) ||| x4) ||| x5))])) _
    refine X0.laload hx (j := (6 : Int32)) (v := (.long x6)) (by rw [e0]; exact Ar13.1) (State.isArrayOf_alike hZ.alike Ar13.2.1) Ar13.2.2 hin14 hat14 (g := (mkF m 26 (LS_RRuu r0 r1) [(.int (6 : Int32)), (.ref r0), (.long (((((x0 ||| x1) ||| x2) ||| x3) ||| x4) ||| x5))])) rfl rfl (hb hby d2_26) _ ?_
    show Steps p.tables e below (s₁.setTop (mkF m 27 (LS_RRuu r0 r1) [(.long x6), (.long (((((x0 ||| x1) ||| x2) ||| x3) ||| x4) ||| x5))])) _
    refine XS.lor X0.here hx rfl (hb hby d2_27) rfl ?_
    show Steps p.tables e below (s₁.setTop (mkF m 28 (LS_RRuu r0 r1) [(.long ((((((x0 ||| x1) ||| x2) ||| x3) ||| x4) ||| x5) ||| x6))])) _
    refine XS.lconst X0.here hx rfl (hb hby d2_28) ?_
    show Steps p.tables e below (s₁.setTop (mkF m 29 (LS_RRuu r0 r1) [(.long (0 : Int64)), (.long ((((((x0 ||| x1) ||| x2) ||| x3) ||| x4) ||| x5) ||| x6))])) _
    refine XS.lcmp X0.here hx rfl (hb hby d2_29) rfl ?_
    exact k
  by_cases hc30_15 : ((((((x0 ||| x1) ||| x2) ||| x3) ||| x4) ||| x5) ||| x6) = (0 : Int64)
  · obtain ⟨cl16, Ar16, qa16, Sa16, Na16, Ha16, Ga16⟩ := id Vq1
    have hin17 : ¬ ((0 : Int32) < 0 ∨ cl16.slots.size ≤ ((0 : Int32)).toNatClampNeg) := inb_of Sa16 ⟨by decide, by decide⟩
    have hat17 : cl16.slots[((0 : Int32)).toNatClampNeg]? = some (.long x0) := Has.at Ha16 hin17 rfl
    obtain ⟨cl18, Ar18, qa18, Sa18, Na18, Ha18, Ga18⟩ := id Vq2
    have hin19 : ¬ ((0 : Int32) < 0 ∨ cl18.slots.size ≤ ((0 : Int32)).toNatClampNeg) := inb_of Sa18 ⟨by decide, by decide⟩
    have hat19 : cl18.slots[((0 : Int32)).toNatClampNeg]? = some (.long (35747322042231467 : Int64)) := Has.at Ha18 hin19 rfl
    obtain ⟨cl20, Ar20, qa20, Sa20, Na20, Ha20, Ga20⟩ := id Vq1
    have hin21 : ¬ ((1 : Int32) < 0 ∨ cl20.slots.size ≤ ((1 : Int32)).toNatClampNeg) := inb_of Sa20 ⟨by decide, by decide⟩
    have hat21 : cl20.slots[((1 : Int32)).toNatClampNeg]? = some (.long x1) := Has.at Ha20 hin21 rfl
    obtain ⟨cl22, Ar22, qa22, Sa22, Na22, Ha22, Ga22⟩ := id Vq2
    have hin23 : ¬ ((1 : Int32) < 0 ∨ cl22.slots.size ≤ ((1 : Int32)).toNatClampNeg) := inb_of Sa22 ⟨by decide, by decide⟩
    have hat23 : cl22.slots[((1 : Int32)).toNatClampNeg]? = some (.long (36025922209447795 : Int64)) := Has.at Ha22 hin23 rfl
    obtain ⟨cl24, Ar24, qa24, Sa24, Na24, Ha24, Ga24⟩ := id Vq1
    have hin25 : ¬ ((2 : Int32) < 0 ∨ cl24.slots.size ≤ ((2 : Int32)).toNatClampNeg) := inb_of Sa24 ⟨by decide, by decide⟩
    have hat25 : cl24.slots[((2 : Int32)).toNatClampNeg]? = some (.long x2) := Has.at Ha24 hin25 rfl
    obtain ⟨cl26, Ar26, qa26, Sa26, Na26, Ha26, Ga26⟩ := id Vq2
    have hin27 : ¬ ((2 : Int32) < 0 ∨ cl26.slots.size ≤ ((2 : Int32)).toNatClampNeg) := inb_of Sa26 ⟨by decide, by decide⟩
    have hat27 : cl26.slots[((2 : Int32)).toNatClampNeg]? = some (.long (1084959616957103 : Int64)) := Has.at Ha26 hin27 rfl
    obtain ⟨cl28, Ar28, qa28, Sa28, Na28, Ha28, Ga28⟩ := id Vq1
    have hin29 : ¬ ((3 : Int32) < 0 ∨ cl28.slots.size ≤ ((3 : Int32)).toNatClampNeg) := inb_of Sa28 ⟨by decide, by decide⟩
    have hat29 : cl28.slots[((3 : Int32)).toNatClampNeg]? = some (.long x3) := Has.at Ha28 hin29 rfl
    obtain ⟨cl30, Ar30, qa30, Sa30, Na30, Ha30, Ga30⟩ := id Vq2
    have hin31 : ¬ ((3 : Int32) < 0 ∨ cl30.slots.size ≤ ((3 : Int32)).toNatClampNeg) := inb_of Sa30 ⟨by decide, by decide⟩
    have hat31 : cl30.slots[((3 : Int32)).toNatClampNeg]? = some (.long (7925923977987733 : Int64)) := Has.at Ha30 hin31 rfl
    obtain ⟨cl32, Ar32, qa32, Sa32, Na32, Ha32, Ga32⟩ := id Vq1
    have hin33 : ¬ ((4 : Int32) < 0 ∨ cl32.slots.size ≤ ((4 : Int32)).toNatClampNeg) := inb_of Sa32 ⟨by decide, by decide⟩
    have hat33 : cl32.slots[((4 : Int32)).toNatClampNeg]? = some (.long x4) := Has.at Ha32 hin33 rfl
    obtain ⟨cl34, Ar34, qa34, Sa34, Na34, Ha34, Ga34⟩ := id Vq2
    have hin35 : ¬ ((4 : Int32) < 0 ∨ cl34.slots.size ≤ ((4 : Int32)).toNatClampNeg) := inb_of Sa34 ⟨by decide, by decide⟩
    have hat35 : cl34.slots[((4 : Int32)).toNatClampNeg]? = some (.long (16551456537884751 : Int64)) := Has.at Ha34 hin35 rfl
    obtain ⟨cl36, Ar36, qa36, Sa36, Na36, Ha36, Ga36⟩ := id Vq1
    have hin37 : ¬ ((5 : Int32) < 0 ∨ cl36.slots.size ≤ ((5 : Int32)).toNatClampNeg) := inb_of Sa36 ⟨by decide, by decide⟩
    have hat37 : cl36.slots[((5 : Int32)).toNatClampNeg]? = some (.long x5) := Has.at Ha36 hin37 rfl
    obtain ⟨cl38, Ar38, qa38, Sa38, Na38, Ha38, Ga38⟩ := id Vq2
    have hin39 : ¬ ((5 : Int32) < 0 ∨ cl38.slots.size ≤ ((5 : Int32)).toNatClampNeg) := inb_of Sa38 ⟨by decide, by decide⟩
    have hat39 : cl38.slots[((5 : Int32)).toNatClampNeg]? = some (.long (23443114579904617 : Int64)) := Has.at Ha38 hin39 rfl
    obtain ⟨cl40, Ar40, qa40, Sa40, Na40, Ha40, Ga40⟩ := id Vq1
    have hin41 : ¬ ((6 : Int32) < 0 ∨ cl40.slots.size ≤ ((6 : Int32)).toNatClampNeg) := inb_of Sa40 ⟨by decide, by decide⟩
    have hat41 : cl40.slots[((6 : Int32)).toNatClampNeg]? = some (.long x6) := Has.at Ha40 hin41 rfl
    obtain ⟨cl42, Ar42, qa42, Sa42, Na42, Ha42, Ga42⟩ := id Vq2
    have hin43 : ¬ ((6 : Int32) < 0 ∨ cl42.slots.size ≤ ((6 : Int32)).toNatClampNeg) := inb_of Sa42 ⟨by decide, by decide⟩
    have hat43 : cl42.slots[((6 : Int32)).toNatClampNeg]? = some (.long (1829881462546425 : Int64)) := Has.at Ha42 hin43 rfl
    refine own_go (B := s₁.setTop (mkF m 98 (LS_RRIu r0 r1 (1 : Int32)) [(.int (lcmpW (((((((x0 ^^^ (35747322042231467 : Int64)) ||| (x1 ^^^ (36025922209447795 : Int64))) ||| (x2 ^^^ (1084959616957103 : Int64))) ||| (x3 ^^^ (7925923977987733 : Int64))) ||| (x4 ^^^ (16551456537884751 : Int64))) ||| (x5 ^^^ (23443114579904617 : Int64))) ||| (x6 ^^^ (1829881462546425 : Int64))) (0 : Int64)))])) (fun t k => ?_) ?_
    · show Steps p.tables e below (s₁.setTop (mkF m 30 (LS_RRuu r0 r1) [(.int (lcmpW ((((((x0 ||| x1) ||| x2) ||| x3) ||| x4) ||| x5) ||| x6) (0 : Int64)))])) _
      refine XS.ifNo X0.here hx rfl (hb hby d2_30) rfl ((if0 _ _).trans (teq ((lw_eq ((((((x0 ||| x1) ||| x2) ||| x3) ||| x4) ||| x5) ||| x6) (0 : Int64)).mpr hc30_15)).2) ?_
      show Steps p.tables e below (s₁.setTop (mkF m 33 (LS_RRuu r0 r1) [])) _
      refine XS.iconst X0.here hx rfl (hb hby d2_33) ?_
      show Steps p.tables e below (s₁.setTop (mkF m 34 (LS_RRuu r0 r1) [(.int (1 : Int32))])) _
      refine XS.goto X0.here hx rfl (pc0 := 34) (pc' := 38) rfl (hb hby d2_34) (by decide) (by decide) ?_
      show Steps p.tables e below (s₁.setTop (mkF m 38 (LS_RRuu r0 r1) [(.int (1 : Int32))])) _
      refine XS.istoreN X0.here hx rfl (hb hby d2_38) rfl (l' := (LS_RRIu r0 r1 (1 : Int32))) rfl ?_
      show Steps p.tables e below (s₁.setTop (mkF m 39 (LS_RRIu r0 r1 (1 : Int32)) [])) _
      refine XS.aloadN X0.here hx rfl (hb hby d2_39) rfl rfl ?_
      show Steps p.tables e below (s₁.setTop (mkF m 40 (LS_RRIu r0 r1 (1 : Int32)) [(.ref r0)])) _
      refine XS.iconst X0.here hx rfl (hb hby d2_40) ?_
      show Steps p.tables e below (s₁.setTop (mkF m 41 (LS_RRIu r0 r1 (1 : Int32)) [(.int (0 : Int32)), (.ref r0)])) _
      refine X0.laload hx (j := (0 : Int32)) (v := (.long x0)) (by rw [e0]; exact Ar16.1) (State.isArrayOf_alike hZ.alike Ar16.2.1) Ar16.2.2 hin17 hat17 (g := (mkF m 41 (LS_RRIu r0 r1 (1 : Int32)) [(.int (0 : Int32)), (.ref r0)])) rfl rfl (hb hby d2_41) _ ?_
      show Steps p.tables e below (s₁.setTop (mkF m 42 (LS_RRIu r0 r1 (1 : Int32)) [(.long x0)])) _
      refine XS.aloadN X0.here hx rfl (hb hby d2_42) rfl rfl ?_
      show Steps p.tables e below (s₁.setTop (mkF m 43 (LS_RRIu r0 r1 (1 : Int32)) [(.ref r1), (.long x0)])) _
      refine XS.iconst X0.here hx rfl (hb hby d2_43) ?_
      show Steps p.tables e below (s₁.setTop (mkF m 44 (LS_RRIu r0 r1 (1 : Int32)) [(.int (0 : Int32)), (.ref r1), (.long x0)])) _
      refine X0.laload hx (j := (0 : Int32)) (v := (.long (35747322042231467 : Int64))) (by rw [e0]; exact Ar18.1) (State.isArrayOf_alike hZ.alike Ar18.2.1) Ar18.2.2 hin19 hat19 (g := (mkF m 44 (LS_RRIu r0 r1 (1 : Int32)) [(.int (0 : Int32)), (.ref r1), (.long x0)])) rfl rfl (hb hby d2_44) _ ?_
      show Steps p.tables e below (s₁.setTop (mkF m 45 (LS_RRIu r0 r1 (1 : Int32)) [(.long (35747322042231467 : Int64)), (.long x0)])) _
      refine XS.lxor X0.here hx rfl (hb hby d2_45) rfl ?_
      show Steps p.tables e below (s₁.setTop (mkF m 46 (LS_RRIu r0 r1 (1 : Int32)) [(.long (x0 ^^^ (35747322042231467 : Int64)))])) _
      refine XS.aloadN X0.here hx rfl (hb hby d2_46) rfl rfl ?_
      show Steps p.tables e below (s₁.setTop (mkF m 47 (LS_RRIu r0 r1 (1 : Int32)) [(.ref r0), (.long (x0 ^^^ (35747322042231467 : Int64)))])) _
      refine XS.iconst X0.here hx rfl (hb hby d2_47) ?_
      show Steps p.tables e below (s₁.setTop (mkF m 48 (LS_RRIu r0 r1 (1 : Int32)) [(.int (1 : Int32)), (.ref r0), (.long (x0 ^^^ (35747322042231467 : Int64)))])) _
      refine X0.laload hx (j := (1 : Int32)) (v := (.long x1)) (by rw [e0]; exact Ar20.1) (State.isArrayOf_alike hZ.alike Ar20.2.1) Ar20.2.2 hin21 hat21 (g := (mkF m 48 (LS_RRIu r0 r1 (1 : Int32)) [(.int (1 : Int32)), (.ref r0), (.long (x0 ^^^ (35747322042231467 : Int64)))])) rfl rfl (hb hby d2_48) _ ?_
      show Steps p.tables e below (s₁.setTop (mkF m 49 (LS_RRIu r0 r1 (1 : Int32)) [(.long x1), (.long (x0 ^^^ (35747322042231467 : Int64)))])) _
      refine XS.aloadN X0.here hx rfl (hb hby d2_49) rfl rfl ?_
      show Steps p.tables e below (s₁.setTop (mkF m 50 (LS_RRIu r0 r1 (1 : Int32)) [(.ref r1), (.long x1), (.long (x0 ^^^ (35747322042231467 : Int64)))])) _
      refine XS.iconst X0.here hx rfl (hb hby d2_50) ?_
      show Steps p.tables e below (s₁.setTop (mkF m 51 (LS_RRIu r0 r1 (1 : Int32)) [(.int (1 : Int32)), (.ref r1), (.long x1), (.long (x0 ^^^ (35747322042231467 : Int64)))])) _
      refine X0.laload hx (j := (1 : Int32)) (v := (.long (36025922209447795 : Int64))) (by rw [e0]; exact Ar22.1) (State.isArrayOf_alike hZ.alike Ar22.2.1) Ar22.2.2 hin23 hat23 (g := (mkF m 51 (LS_RRIu r0 r1 (1 : Int32)) [(.int (1 : Int32)), (.ref r1), (.long x1), (.long (x0 ^^^ (35747322042231467 : Int64)))])) rfl rfl (hb hby d2_51) _ ?_
      show Steps p.tables e below (s₁.setTop (mkF m 52 (LS_RRIu r0 r1 (1 : Int32)) [(.long (36025922209447795 : Int64)), (.long x1), (.long (x0 ^^^ (35747322042231467 : Int64)))])) _
      refine XS.lxor X0.here hx rfl (hb hby d2_52) rfl ?_
      show Steps p.tables e below (s₁.setTop (mkF m 53 (LS_RRIu r0 r1 (1 : Int32)) [(.long (x1 ^^^ (36025922209447795 : Int64))), (.long (x0 ^^^ (35747322042231467 : Int64)))])) _
      refine XS.lor X0.here hx rfl (hb hby d2_53) rfl ?_
      show Steps p.tables e below (s₁.setTop (mkF m 54 (LS_RRIu r0 r1 (1 : Int32)) [(.long ((x0 ^^^ (35747322042231467 : Int64)) ||| (x1 ^^^ (36025922209447795 : Int64))))])) _
      refine XS.aloadN X0.here hx rfl (hb hby d2_54) rfl rfl ?_
      show Steps p.tables e below (s₁.setTop (mkF m 55 (LS_RRIu r0 r1 (1 : Int32)) [(.ref r0), (.long ((x0 ^^^ (35747322042231467 : Int64)) ||| (x1 ^^^ (36025922209447795 : Int64))))])) _
      refine XS.iconst X0.here hx rfl (hb hby d2_55) ?_
      show Steps p.tables e below (s₁.setTop (mkF m 56 (LS_RRIu r0 r1 (1 : Int32)) [(.int (2 : Int32)), (.ref r0), (.long ((x0 ^^^ (35747322042231467 : Int64)) ||| (x1 ^^^ (36025922209447795 : Int64))))])) _
      refine X0.laload hx (j := (2 : Int32)) (v := (.long x2)) (by rw [e0]; exact Ar24.1) (State.isArrayOf_alike hZ.alike Ar24.2.1) Ar24.2.2 hin25 hat25 (g := (mkF m 56 (LS_RRIu r0 r1 (1 : Int32)) [(.int (2 : Int32)), (.ref r0), (.long ((x0 ^^^ (35747322042231467 : Int64)) ||| (x1 ^^^ (36025922209447795 : Int64))))])) rfl rfl (hb hby d2_56) _ ?_
      show Steps p.tables e below (s₁.setTop (mkF m 57 (LS_RRIu r0 r1 (1 : Int32)) [(.long x2), (.long ((x0 ^^^ (35747322042231467 : Int64)) ||| (x1 ^^^ (36025922209447795 : Int64))))])) _
      refine XS.aloadN X0.here hx rfl (hb hby d2_57) rfl rfl ?_
      show Steps p.tables e below (s₁.setTop (mkF m 58 (LS_RRIu r0 r1 (1 : Int32)) [(.ref r1), (.long x2), (.long ((x0 ^^^ (35747322042231467 : Int64)) ||| (x1 ^^^ (36025922209447795 : Int64))))])) _
      refine XS.iconst X0.here hx rfl (hb hby d2_58) ?_
      show Steps p.tables e below (s₁.setTop (mkF m 59 (LS_RRIu r0 r1 (1 : Int32)) [(.int (2 : Int32)), (.ref r1), (.long x2), (.long ((x0 ^^^ (35747322042231467 : Int64)) ||| (x1 ^^^ (36025922209447795 : Int64))))])) _
      refine X0.laload hx (j := (2 : Int32)) (v := (.long (1084959616957103 : Int64))) (by rw [e0]; exact Ar26.1) (State.isArrayOf_alike hZ.alike Ar26.2.1) Ar26.2.2 hin27 hat27 (g := (mkF m 59 (LS_RRIu r0 r1 (1 : Int32)) [(.int (2 : Int32)), (.ref r1), (.long x2), (.long ((x0 ^^^ (35747322042231467 : Int64)) ||| (x1 ^^^ (36025922209447795 : Int64))))])) rfl rfl (hb hby d2_59) _ ?_
      show Steps p.tables e below (s₁.setTop (mkF m 60 (LS_RRIu r0 r1 (1 : Int32)) [(.long (1084959616957103 : Int64)), (.long x2), (.long ((x0 ^^^ (35747322042231467 : Int64)) ||| (x1 ^^^ (36025922209447795 : Int64))))])) _
      refine XS.lxor X0.here hx rfl (hb hby d2_60) rfl ?_
      show Steps p.tables e below (s₁.setTop (mkF m 61 (LS_RRIu r0 r1 (1 : Int32)) [(.long (x2 ^^^ (1084959616957103 : Int64))), (.long ((x0 ^^^ (35747322042231467 : Int64)) ||| (x1 ^^^ (36025922209447795 : Int64))))])) _
      refine XS.lor X0.here hx rfl (hb hby d2_61) rfl ?_
      show Steps p.tables e below (s₁.setTop (mkF m 62 (LS_RRIu r0 r1 (1 : Int32)) [(.long (((x0 ^^^ (35747322042231467 : Int64)) ||| (x1 ^^^ (36025922209447795 : Int64))) ||| (x2 ^^^ (1084959616957103 : Int64))))])) _
      refine XS.aloadN X0.here hx rfl (hb hby d2_62) rfl rfl ?_
      show Steps p.tables e below (s₁.setTop (mkF m 63 (LS_RRIu r0 r1 (1 : Int32)) [(.ref r0), (.long (((x0 ^^^ (35747322042231467 : Int64)) ||| (x1 ^^^ (36025922209447795 : Int64))) ||| (x2 ^^^ (1084959616957103 : Int64))))])) _
      refine XS.iconst X0.here hx rfl (hb hby d2_63) ?_
      show Steps p.tables e below (s₁.setTop (mkF m 64 (LS_RRIu r0 r1 (1 : Int32)) [(.int (3 : Int32)), (.ref r0), (.long (((x0 ^^^ (35747322042231467 : Int64)) ||| (x1 ^^^ (36025922209447795 : Int64))) ||| (x2 ^^^ (1084959616957103 : Int64))))])) _
      refine X0.laload hx (j := (3 : Int32)) (v := (.long x3)) (by rw [e0]; exact Ar28.1) (State.isArrayOf_alike hZ.alike Ar28.2.1) Ar28.2.2 hin29 hat29 (g := (mkF m 64 (LS_RRIu r0 r1 (1 : Int32)) [(.int (3 : Int32)), (.ref r0), (.long (((x0 ^^^ (35747322042231467 : Int64)) ||| (x1 ^^^ (36025922209447795 : Int64))) ||| (x2 ^^^ (1084959616957103 : Int64))))])) rfl rfl (hb hby d2_64) _ ?_
      show Steps p.tables e below (s₁.setTop (mkF m 65 (LS_RRIu r0 r1 (1 : Int32)) [(.long x3), (.long (((x0 ^^^ (35747322042231467 : Int64)) ||| (x1 ^^^ (36025922209447795 : Int64))) ||| (x2 ^^^ (1084959616957103 : Int64))))])) _
      refine XS.aloadN X0.here hx rfl (hb hby d2_65) rfl rfl ?_
      show Steps p.tables e below (s₁.setTop (mkF m 66 (LS_RRIu r0 r1 (1 : Int32)) [(.ref r1), (.long x3), (.long (((x0 ^^^ (35747322042231467 : Int64)) ||| (x1 ^^^ (36025922209447795 : Int64))) ||| (x2 ^^^ (1084959616957103 : Int64))))])) _
      refine XS.iconst X0.here hx rfl (hb hby d2_66) ?_
      show Steps p.tables e below (s₁.setTop (mkF m 67 (LS_RRIu r0 r1 (1 : Int32)) [(.int (3 : Int32)), (.ref r1), (.long x3), (.long (((x0 ^^^ (35747322042231467 : Int64)) ||| (x1 ^^^ (36025922209447795 : Int64))) ||| (x2 ^^^ (1084959616957103 : Int64))))])) _
      refine X0.laload hx (j := (3 : Int32)) (v := (.long (7925923977987733 : Int64))) (by rw [e0]; exact Ar30.1) (State.isArrayOf_alike hZ.alike Ar30.2.1) Ar30.2.2 hin31 hat31 (g := (mkF m 67 (LS_RRIu r0 r1 (1 : Int32)) [(.int (3 : Int32)), (.ref r1), (.long x3), (.long (((x0 ^^^ (35747322042231467 : Int64)) ||| (x1 ^^^ (36025922209447795 : Int64))) ||| (x2 ^^^ (1084959616957103 : Int64))))])) rfl rfl (hb hby d2_67) _ ?_
      show Steps p.tables e below (s₁.setTop (mkF m 68 (LS_RRIu r0 r1 (1 : Int32)) [(.long (7925923977987733 : Int64)), (.long x3), (.long (((x0 ^^^ (35747322042231467 : Int64)) ||| (x1 ^^^ (36025922209447795 : Int64))) ||| (x2 ^^^ (1084959616957103 : Int64))))])) _
      refine XS.lxor X0.here hx rfl (hb hby d2_68) rfl ?_
      show Steps p.tables e below (s₁.setTop (mkF m 69 (LS_RRIu r0 r1 (1 : Int32)) [(.long (x3 ^^^ (7925923977987733 : Int64))), (.long (((x0 ^^^ (35747322042231467 : Int64)) ||| (x1 ^^^ (36025922209447795 : Int64))) ||| (x2 ^^^ (1084959616957103 : Int64))))])) _
      refine XS.lor X0.here hx rfl (hb hby d2_69) rfl ?_
      show Steps p.tables e below (s₁.setTop (mkF m 70 (LS_RRIu r0 r1 (1 : Int32)) [(.long ((((x0 ^^^ (35747322042231467 : Int64)) ||| (x1 ^^^ (36025922209447795 : Int64))) ||| (x2 ^^^ (1084959616957103 : Int64))) ||| (x3 ^^^ (7925923977987733 : Int64))))])) _
      refine XS.aloadN X0.here hx rfl (hb hby d2_70) rfl rfl ?_
      show Steps p.tables e below (s₁.setTop (mkF m 71 (LS_RRIu r0 r1 (1 : Int32)) [(.ref r0), (.long ((((x0 ^^^ (35747322042231467 : Int64)) ||| (x1 ^^^ (36025922209447795 : Int64))) ||| (x2 ^^^ (1084959616957103 : Int64))) ||| (x3 ^^^ (7925923977987733 : Int64))))])) _
      refine XS.iconst X0.here hx rfl (hb hby d2_71) ?_
      show Steps p.tables e below (s₁.setTop (mkF m 72 (LS_RRIu r0 r1 (1 : Int32)) [(.int (4 : Int32)), (.ref r0), (.long ((((x0 ^^^ (35747322042231467 : Int64)) ||| (x1 ^^^ (36025922209447795 : Int64))) ||| (x2 ^^^ (1084959616957103 : Int64))) ||| (x3 ^^^ (7925923977987733 : Int64))))])) _
      refine X0.laload hx (j := (4 : Int32)) (v := (.long x4)) (by rw [e0]; exact Ar32.1) (State.isArrayOf_alike hZ.alike Ar32.2.1) Ar32.2.2 hin33 hat33 (g := (mkF m 72 (LS_RRIu r0 r1 (1 : Int32)) [(.int (4 : Int32)), (.ref r0), (.long ((((x0 ^^^ (35747322042231467 : Int64)) ||| (x1 ^^^ (36025922209447795 : Int64))) ||| (x2 ^^^ (1084959616957103 : Int64))) ||| (x3 ^^^ (7925923977987733 : Int64))))])) rfl rfl (hb hby d2_72) _ ?_
      show Steps p.tables e below (s₁.setTop (mkF m 73 (LS_RRIu r0 r1 (1 : Int32)) [(.long x4), (.long ((((x0 ^^^ (35747322042231467 : Int64)) ||| (x1 ^^^ (36025922209447795 : Int64))) ||| (x2 ^^^ (1084959616957103 : Int64))) ||| (x3 ^^^ (7925923977987733 : Int64))))])) _
      refine XS.aloadN X0.here hx rfl (hb hby d2_73) rfl rfl ?_
      show Steps p.tables e below (s₁.setTop (mkF m 74 (LS_RRIu r0 r1 (1 : Int32)) [(.ref r1), (.long x4), (.long ((((x0 ^^^ (35747322042231467 : Int64)) ||| (x1 ^^^ (36025922209447795 : Int64))) ||| (x2 ^^^ (1084959616957103 : Int64))) ||| (x3 ^^^ (7925923977987733 : Int64))))])) _
      refine XS.iconst X0.here hx rfl (hb hby d2_74) ?_
      show Steps p.tables e below (s₁.setTop (mkF m 75 (LS_RRIu r0 r1 (1 : Int32)) [(.int (4 : Int32)), (.ref r1), (.long x4), (.long ((((x0 ^^^ (35747322042231467 : Int64)) ||| (x1 ^^^ (36025922209447795 : Int64))) ||| (x2 ^^^ (1084959616957103 : Int64))) ||| (x3 ^^^ (7925923977987733 : Int64))))])) _
      refine X0.laload hx (j := (4 : Int32)) (v := (.long (16551456537884751 : Int64))) (by rw [e0]; exact Ar34.1) (State.isArrayOf_alike hZ.alike Ar34.2.1) Ar34.2.2 hin35 hat35 (g := (mkF m 75 (LS_RRIu r0 r1 (1 : Int32)) [(.int (4 : Int32)), (.ref r1), (.long x4), (.long ((((x0 ^^^ (35747322042231467 : Int64)) ||| (x1 ^^^ (36025922209447795 : Int64))) ||| (x2 ^^^ (1084959616957103 : Int64))) ||| (x3 ^^^ (7925923977987733 : Int64))))])) rfl rfl (hb hby d2_75) _ ?_
      show Steps p.tables e below (s₁.setTop (mkF m 76 (LS_RRIu r0 r1 (1 : Int32)) [(.long (16551456537884751 : Int64)), (.long x4), (.long ((((x0 ^^^ (35747322042231467 : Int64)) ||| (x1 ^^^ (36025922209447795 : Int64))) ||| (x2 ^^^ (1084959616957103 : Int64))) ||| (x3 ^^^ (7925923977987733 : Int64))))])) _
      refine XS.lxor X0.here hx rfl (hb hby d2_76) rfl ?_
      show Steps p.tables e below (s₁.setTop (mkF m 77 (LS_RRIu r0 r1 (1 : Int32)) [(.long (x4 ^^^ (16551456537884751 : Int64))), (.long ((((x0 ^^^ (35747322042231467 : Int64)) ||| (x1 ^^^ (36025922209447795 : Int64))) ||| (x2 ^^^ (1084959616957103 : Int64))) ||| (x3 ^^^ (7925923977987733 : Int64))))])) _
      refine XS.lor X0.here hx rfl (hb hby d2_77) rfl ?_
      show Steps p.tables e below (s₁.setTop (mkF m 78 (LS_RRIu r0 r1 (1 : Int32)) [(.long (((((x0 ^^^ (35747322042231467 : Int64)) ||| (x1 ^^^ (36025922209447795 : Int64))) ||| (x2 ^^^ (1084959616957103 : Int64))) ||| (x3 ^^^ (7925923977987733 : Int64))) ||| (x4 ^^^ (16551456537884751 : Int64))))])) _
      refine XS.aloadN X0.here hx rfl (hb hby d2_78) rfl rfl ?_
      show Steps p.tables e below (s₁.setTop (mkF m 79 (LS_RRIu r0 r1 (1 : Int32)) [(.ref r0), (.long (((((x0 ^^^ (35747322042231467 : Int64)) ||| (x1 ^^^ (36025922209447795 : Int64))) ||| (x2 ^^^ (1084959616957103 : Int64))) ||| (x3 ^^^ (7925923977987733 : Int64))) ||| (x4 ^^^ (16551456537884751 : Int64))))])) _
      refine XS.iconst X0.here hx rfl (hb hby d2_79) ?_
      show Steps p.tables e below (s₁.setTop (mkF m 80 (LS_RRIu r0 r1 (1 : Int32)) [(.int (5 : Int32)), (.ref r0), (.long (((((x0 ^^^ (35747322042231467 : Int64)) ||| (x1 ^^^ (36025922209447795 : Int64))) ||| (x2 ^^^ (1084959616957103 : Int64))) ||| (x3 ^^^ (7925923977987733 : Int64))) ||| (x4 ^^^ (16551456537884751 : Int64))))])) _
      refine X0.laload hx (j := (5 : Int32)) (v := (.long x5)) (by rw [e0]; exact Ar36.1) (State.isArrayOf_alike hZ.alike Ar36.2.1) Ar36.2.2 hin37 hat37 (g := (mkF m 80 (LS_RRIu r0 r1 (1 : Int32)) [(.int (5 : Int32)), (.ref r0), (.long (((((x0 ^^^ (35747322042231467 : Int64)) ||| (x1 ^^^ (36025922209447795 : Int64))) ||| (x2 ^^^ (1084959616957103 : Int64))) ||| (x3 ^^^ (7925923977987733 : Int64))) ||| (x4 ^^^ (16551456537884751 : Int64))))])) rfl rfl (hb hby d2_80) _ ?_
      show Steps p.tables e below (s₁.setTop (mkF m 81 (LS_RRIu r0 r1 (1 : Int32)) [(.long x5), (.long (((((x0 ^^^ (35747322042231467 : Int64)) ||| (x1 ^^^ (36025922209447795 : Int64))) ||| (x2 ^^^ (1084959616957103 : Int64))) ||| (x3 ^^^ (7925923977987733 : Int64))) ||| (x4 ^^^ (16551456537884751 : Int64))))])) _
      refine XS.aloadN X0.here hx rfl (hb hby d2_81) rfl rfl ?_
      show Steps p.tables e below (s₁.setTop (mkF m 82 (LS_RRIu r0 r1 (1 : Int32)) [(.ref r1), (.long x5), (.long (((((x0 ^^^ (35747322042231467 : Int64)) ||| (x1 ^^^ (36025922209447795 : Int64))) ||| (x2 ^^^ (1084959616957103 : Int64))) ||| (x3 ^^^ (7925923977987733 : Int64))) ||| (x4 ^^^ (16551456537884751 : Int64))))])) _
      refine XS.iconst X0.here hx rfl (hb hby d2_82) ?_
      show Steps p.tables e below (s₁.setTop (mkF m 83 (LS_RRIu r0 r1 (1 : Int32)) [(.int (5 : Int32)), (.ref r1), (.long x5), (.long (((((x0 ^^^ (35747322042231467 : Int64)) ||| (x1 ^^^ (36025922209447795 : Int64))) ||| (x2 ^^^ (1084959616957103 : Int64))) ||| (x3 ^^^ (7925923977987733 : Int64))) ||| (x4 ^^^ (16551456537884751 : Int64))))])) _
      refine X0.laload hx (j := (5 : Int32)) (v := (.long (23443114579904617 : Int64))) (by rw [e0]; exact Ar38.1) (State.isArrayOf_alike hZ.alike Ar38.2.1) Ar38.2.2 hin39 hat39 (g := (mkF m 83 (LS_RRIu r0 r1 (1 : Int32)) [(.int (5 : Int32)), (.ref r1), (.long x5), (.long (((((x0 ^^^ (35747322042231467 : Int64)) ||| (x1 ^^^ (36025922209447795 : Int64))) ||| (x2 ^^^ (1084959616957103 : Int64))) ||| (x3 ^^^ (7925923977987733 : Int64))) ||| (x4 ^^^ (16551456537884751 : Int64))))])) rfl rfl (hb hby d2_83) _ ?_
      show Steps p.tables e below (s₁.setTop (mkF m 84 (LS_RRIu r0 r1 (1 : Int32)) [(.long (23443114579904617 : Int64)), (.long x5), (.long (((((x0 ^^^ (35747322042231467 : Int64)) ||| (x1 ^^^ (36025922209447795 : Int64))) ||| (x2 ^^^ (1084959616957103 : Int64))) ||| (x3 ^^^ (7925923977987733 : Int64))) ||| (x4 ^^^ (16551456537884751 : Int64))))])) _
      refine XS.lxor X0.here hx rfl (hb hby d2_84) rfl ?_
      show Steps p.tables e below (s₁.setTop (mkF m 85 (LS_RRIu r0 r1 (1 : Int32)) [(.long (x5 ^^^ (23443114579904617 : Int64))), (.long (((((x0 ^^^ (35747322042231467 : Int64)) ||| (x1 ^^^ (36025922209447795 : Int64))) ||| (x2 ^^^ (1084959616957103 : Int64))) ||| (x3 ^^^ (7925923977987733 : Int64))) ||| (x4 ^^^ (16551456537884751 : Int64))))])) _
      refine XS.lor X0.here hx rfl (hb hby d2_85) rfl ?_
      show Steps p.tables e below (s₁.setTop (mkF m 86 (LS_RRIu r0 r1 (1 : Int32)) [(.long ((((((x0 ^^^ (35747322042231467 : Int64)) ||| (x1 ^^^ (36025922209447795 : Int64))) ||| (x2 ^^^ (1084959616957103 : Int64))) ||| (x3 ^^^ (7925923977987733 : Int64))) ||| (x4 ^^^ (16551456537884751 : Int64))) ||| (x5 ^^^ (23443114579904617 : Int64))))])) _
      refine XS.aloadN X0.here hx rfl (hb hby d2_86) rfl rfl ?_
      show Steps p.tables e below (s₁.setTop (mkF m 87 (LS_RRIu r0 r1 (1 : Int32)) [(.ref r0), (.long ((((((x0 ^^^ (35747322042231467 : Int64)) ||| (x1 ^^^ (36025922209447795 : Int64))) ||| (x2 ^^^ (1084959616957103 : Int64))) ||| (x3 ^^^ (7925923977987733 : Int64))) ||| (x4 ^^^ (16551456537884751 : Int64))) ||| (x5 ^^^ (23443114579904617 : Int64))))])) _
      refine XS.bipush X0.here hx rfl (hb hby d2_87) ?_
      show Steps p.tables e below (s₁.setTop (mkF m 89 (LS_RRIu r0 r1 (1 : Int32)) [(.int (6 : Int32)), (.ref r0), (.long ((((((x0 ^^^ (35747322042231467 : Int64)) ||| (x1 ^^^ (36025922209447795 : Int64))) ||| (x2 ^^^ (1084959616957103 : Int64))) ||| (x3 ^^^ (7925923977987733 : Int64))) ||| (x4 ^^^ (16551456537884751 : Int64))) ||| (x5 ^^^ (23443114579904617 : Int64))))])) _
      refine X0.laload hx (j := (6 : Int32)) (v := (.long x6)) (by rw [e0]; exact Ar40.1) (State.isArrayOf_alike hZ.alike Ar40.2.1) Ar40.2.2 hin41 hat41 (g := (mkF m 89 (LS_RRIu r0 r1 (1 : Int32)) [(.int (6 : Int32)), (.ref r0), (.long ((((((x0 ^^^ (35747322042231467 : Int64)) ||| (x1 ^^^ (36025922209447795 : Int64))) ||| (x2 ^^^ (1084959616957103 : Int64))) ||| (x3 ^^^ (7925923977987733 : Int64))) ||| (x4 ^^^ (16551456537884751 : Int64))) ||| (x5 ^^^ (23443114579904617 : Int64))))])) rfl rfl (hb hby d2_89) _ ?_
      show Steps p.tables e below (s₁.setTop (mkF m 90 (LS_RRIu r0 r1 (1 : Int32)) [(.long x6), (.long ((((((x0 ^^^ (35747322042231467 : Int64)) ||| (x1 ^^^ (36025922209447795 : Int64))) ||| (x2 ^^^ (1084959616957103 : Int64))) ||| (x3 ^^^ (7925923977987733 : Int64))) ||| (x4 ^^^ (16551456537884751 : Int64))) ||| (x5 ^^^ (23443114579904617 : Int64))))])) _
      refine XS.aloadN X0.here hx rfl (hb hby d2_90) rfl rfl ?_
      show Steps p.tables e below (s₁.setTop (mkF m 91 (LS_RRIu r0 r1 (1 : Int32)) [(.ref r1), (.long x6), (.long ((((((x0 ^^^ (35747322042231467 : Int64)) ||| (x1 ^^^ (36025922209447795 : Int64))) ||| (x2 ^^^ (1084959616957103 : Int64))) ||| (x3 ^^^ (7925923977987733 : Int64))) ||| (x4 ^^^ (16551456537884751 : Int64))) ||| (x5 ^^^ (23443114579904617 : Int64))))])) _
      refine XS.bipush X0.here hx rfl (hb hby d2_91) ?_
      show Steps p.tables e below (s₁.setTop (mkF m 93 (LS_RRIu r0 r1 (1 : Int32)) [(.int (6 : Int32)), (.ref r1), (.long x6), (.long ((((((x0 ^^^ (35747322042231467 : Int64)) ||| (x1 ^^^ (36025922209447795 : Int64))) ||| (x2 ^^^ (1084959616957103 : Int64))) ||| (x3 ^^^ (7925923977987733 : Int64))) ||| (x4 ^^^ (16551456537884751 : Int64))) ||| (x5 ^^^ (23443114579904617 : Int64))))])) _
      refine X0.laload hx (j := (6 : Int32)) (v := (.long (1829881462546425 : Int64))) (by rw [e0]; exact Ar42.1) (State.isArrayOf_alike hZ.alike Ar42.2.1) Ar42.2.2 hin43 hat43 (g := (mkF m 93 (LS_RRIu r0 r1 (1 : Int32)) [(.int (6 : Int32)), (.ref r1), (.long x6), (.long ((((((x0 ^^^ (35747322042231467 : Int64)) ||| (x1 ^^^ (36025922209447795 : Int64))) ||| (x2 ^^^ (1084959616957103 : Int64))) ||| (x3 ^^^ (7925923977987733 : Int64))) ||| (x4 ^^^ (16551456537884751 : Int64))) ||| (x5 ^^^ (23443114579904617 : Int64))))])) rfl rfl (hb hby d2_93) _ ?_
      show Steps p.tables e below (s₁.setTop (mkF m 94 (LS_RRIu r0 r1 (1 : Int32)) [(.long (1829881462546425 : Int64)), (.long x6), (.long ((((((x0 ^^^ (35747322042231467 : Int64)) ||| (x1 ^^^ (36025922209447795 : Int64))) ||| (x2 ^^^ (1084959616957103 : Int64))) ||| (x3 ^^^ (7925923977987733 : Int64))) ||| (x4 ^^^ (16551456537884751 : Int64))) ||| (x5 ^^^ (23443114579904617 : Int64))))])) _
      refine XS.lxor X0.here hx rfl (hb hby d2_94) rfl ?_
      show Steps p.tables e below (s₁.setTop (mkF m 95 (LS_RRIu r0 r1 (1 : Int32)) [(.long (x6 ^^^ (1829881462546425 : Int64))), (.long ((((((x0 ^^^ (35747322042231467 : Int64)) ||| (x1 ^^^ (36025922209447795 : Int64))) ||| (x2 ^^^ (1084959616957103 : Int64))) ||| (x3 ^^^ (7925923977987733 : Int64))) ||| (x4 ^^^ (16551456537884751 : Int64))) ||| (x5 ^^^ (23443114579904617 : Int64))))])) _
      refine XS.lor X0.here hx rfl (hb hby d2_95) rfl ?_
      show Steps p.tables e below (s₁.setTop (mkF m 96 (LS_RRIu r0 r1 (1 : Int32)) [(.long (((((((x0 ^^^ (35747322042231467 : Int64)) ||| (x1 ^^^ (36025922209447795 : Int64))) ||| (x2 ^^^ (1084959616957103 : Int64))) ||| (x3 ^^^ (7925923977987733 : Int64))) ||| (x4 ^^^ (16551456537884751 : Int64))) ||| (x5 ^^^ (23443114579904617 : Int64))) ||| (x6 ^^^ (1829881462546425 : Int64))))])) _
      refine XS.lconst X0.here hx rfl (hb hby d2_96) ?_
      show Steps p.tables e below (s₁.setTop (mkF m 97 (LS_RRIu r0 r1 (1 : Int32)) [(.long (0 : Int64)), (.long (((((((x0 ^^^ (35747322042231467 : Int64)) ||| (x1 ^^^ (36025922209447795 : Int64))) ||| (x2 ^^^ (1084959616957103 : Int64))) ||| (x3 ^^^ (7925923977987733 : Int64))) ||| (x4 ^^^ (16551456537884751 : Int64))) ||| (x5 ^^^ (23443114579904617 : Int64))) ||| (x6 ^^^ (1829881462546425 : Int64))))])) _
      refine XS.lcmp X0.here hx rfl (hb hby d2_97) rfl ?_
      exact k
    by_cases hc98_44 : (((((((x0 ^^^ (35747322042231467 : Int64)) ||| (x1 ^^^ (36025922209447795 : Int64))) ||| (x2 ^^^ (1084959616957103 : Int64))) ||| (x3 ^^^ (7925923977987733 : Int64))) ||| (x4 ^^^ (16551456537884751 : Int64))) ||| (x5 ^^^ (23443114579904617 : Int64))) ||| (x6 ^^^ (1829881462546425 : Int64))) = (0 : Int64)
    · refine own_go (B := s₁.setTop (mkF m 120 (LS_RRII r0 r1 (1 : Int32) (1 : Int32)) [(.int (1 : Int32))])) (fun t k => ?_) ?_
      · show Steps p.tables e below (s₁.setTop (mkF m 98 (LS_RRIu r0 r1 (1 : Int32)) [(.int (lcmpW (((((((x0 ^^^ (35747322042231467 : Int64)) ||| (x1 ^^^ (36025922209447795 : Int64))) ||| (x2 ^^^ (1084959616957103 : Int64))) ||| (x3 ^^^ (7925923977987733 : Int64))) ||| (x4 ^^^ (16551456537884751 : Int64))) ||| (x5 ^^^ (23443114579904617 : Int64))) ||| (x6 ^^^ (1829881462546425 : Int64))) (0 : Int64)))])) _
        refine XS.ifNo X0.here hx rfl (hb hby d2_98) rfl ((if0 _ _).trans (teq ((lw_eq (((((((x0 ^^^ (35747322042231467 : Int64)) ||| (x1 ^^^ (36025922209447795 : Int64))) ||| (x2 ^^^ (1084959616957103 : Int64))) ||| (x3 ^^^ (7925923977987733 : Int64))) ||| (x4 ^^^ (16551456537884751 : Int64))) ||| (x5 ^^^ (23443114579904617 : Int64))) ||| (x6 ^^^ (1829881462546425 : Int64))) (0 : Int64)).mpr hc98_44)).2) ?_
        show Steps p.tables e below (s₁.setTop (mkF m 101 (LS_RRIu r0 r1 (1 : Int32)) [])) _
        refine XS.iconst X0.here hx rfl (hb hby d2_101) ?_
        show Steps p.tables e below (s₁.setTop (mkF m 102 (LS_RRIu r0 r1 (1 : Int32)) [(.int (1 : Int32))])) _
        refine XS.goto X0.here hx rfl (pc0 := 102) (pc' := 106) rfl (hb hby d2_102) (by decide) (by decide) ?_
        show Steps p.tables e below (s₁.setTop (mkF m 106 (LS_RRIu r0 r1 (1 : Int32)) [(.int (1 : Int32))])) _
        refine XS.istoreN X0.here hx rfl (hb hby d2_106) rfl (l' := (LS_RRII r0 r1 (1 : Int32) (1 : Int32))) rfl ?_
        show Steps p.tables e below (s₁.setTop (mkF m 107 (LS_RRII r0 r1 (1 : Int32) (1 : Int32)) [])) _
        refine XS.iloadN X0.here hx rfl (hb hby d2_107) rfl ?_
        show Steps p.tables e below (s₁.setTop (mkF m 108 (LS_RRII r0 r1 (1 : Int32) (1 : Int32)) [(.int (1 : Int32))])) _
        refine XS.ifYes X0.here hx rfl (pc0 := 108) (pc' := 115) rfl (hb hby d2_108) rfl ((if0 _ _).trans (feq (by decide : ¬ ((1 : Int32) = (0 : Int32)))).2) (by decide) (by decide) ?_
        show Steps p.tables e below (s₁.setTop (mkF m 115 (LS_RRII r0 r1 (1 : Int32) (1 : Int32)) [])) _
        refine XS.iconst X0.here hx rfl (hb hby d2_115) ?_
        show Steps p.tables e below (s₁.setTop (mkF m 116 (LS_RRII r0 r1 (1 : Int32) (1 : Int32)) [(.int (1 : Int32))])) _
        refine XS.goto X0.here hx rfl (pc0 := 116) (pc' := 120) rfl (hb hby d2_116) (by decide) (by decide) ?_
        exact k
      obtain ⟨fs, hr, hrun, hended, hW, hsame⟩ := X0.leave (v := some (.int (1 : Int32))) (fun h => by rw [Bd.returns] at h; cases h)
      refine ⟨_, _, ?_, hrun, hended, _, _, rfl, ?_, ⟨_, rfl⟩, hW, hsame.mono (by decide) (by decide)⟩
      · show Steps p.tables e below (s₁.setTop (mkF m 120 (LS_RRII r0 r1 (1 : Int32) (1 : Int32)) [(.int (1 : Int32))])) _
        exact retN X0 hx (t := .boolean) Bd.returns (by simp) (hb hby d2_120) hr
      · show Q2 Z r0 r1 kq1 kq2 x0 x1 x2 x3 x4 x5 x6 h0 n0 _ s₁.heap _
        rw [e0]
        exact ⟨by rw [if_pos (Or.inl hc30_15)], N0, rfl⟩
    · refine own_go (B := s₁.setTop (mkF m 120 (LS_RRII r0 r1 (1 : Int32) (0 : Int32)) [(.int (1 : Int32))])) (fun t k => ?_) ?_
      · show Steps p.tables e below (s₁.setTop (mkF m 98 (LS_RRIu r0 r1 (1 : Int32)) [(.int (lcmpW (((((((x0 ^^^ (35747322042231467 : Int64)) ||| (x1 ^^^ (36025922209447795 : Int64))) ||| (x2 ^^^ (1084959616957103 : Int64))) ||| (x3 ^^^ (7925923977987733 : Int64))) ||| (x4 ^^^ (16551456537884751 : Int64))) ||| (x5 ^^^ (23443114579904617 : Int64))) ||| (x6 ^^^ (1829881462546425 : Int64))) (0 : Int64)))])) _
        refine XS.ifYes X0.here hx rfl (pc0 := 98) (pc' := 105) rfl (hb hby d2_98) rfl ((if0 _ _).trans (feq (fun q => hc98_44 ((lw_eq (((((((x0 ^^^ (35747322042231467 : Int64)) ||| (x1 ^^^ (36025922209447795 : Int64))) ||| (x2 ^^^ (1084959616957103 : Int64))) ||| (x3 ^^^ (7925923977987733 : Int64))) ||| (x4 ^^^ (16551456537884751 : Int64))) ||| (x5 ^^^ (23443114579904617 : Int64))) ||| (x6 ^^^ (1829881462546425 : Int64))) (0 : Int64)).mp q))).2) (by decide) (by decide) ?_
        show Steps p.tables e below (s₁.setTop (mkF m 105 (LS_RRIu r0 r1 (1 : Int32)) [])) _
        refine XS.iconst X0.here hx rfl (hb hby d2_105) ?_
        show Steps p.tables e below (s₁.setTop (mkF m 106 (LS_RRIu r0 r1 (1 : Int32)) [(.int (0 : Int32))])) _
        refine XS.istoreN X0.here hx rfl (hb hby d2_106) rfl (l' := (LS_RRII r0 r1 (1 : Int32) (0 : Int32))) rfl ?_
        show Steps p.tables e below (s₁.setTop (mkF m 107 (LS_RRII r0 r1 (1 : Int32) (0 : Int32)) [])) _
        refine XS.iloadN X0.here hx rfl (hb hby d2_107) rfl ?_
        show Steps p.tables e below (s₁.setTop (mkF m 108 (LS_RRII r0 r1 (1 : Int32) (0 : Int32)) [(.int (1 : Int32))])) _
        refine XS.ifYes X0.here hx rfl (pc0 := 108) (pc' := 115) rfl (hb hby d2_108) rfl ((if0 _ _).trans (feq (by decide : ¬ ((1 : Int32) = (0 : Int32)))).2) (by decide) (by decide) ?_
        show Steps p.tables e below (s₁.setTop (mkF m 115 (LS_RRII r0 r1 (1 : Int32) (0 : Int32)) [])) _
        refine XS.iconst X0.here hx rfl (hb hby d2_115) ?_
        show Steps p.tables e below (s₁.setTop (mkF m 116 (LS_RRII r0 r1 (1 : Int32) (0 : Int32)) [(.int (1 : Int32))])) _
        refine XS.goto X0.here hx rfl (pc0 := 116) (pc' := 120) rfl (hb hby d2_116) (by decide) (by decide) ?_
        exact k
      obtain ⟨fs, hr, hrun, hended, hW, hsame⟩ := X0.leave (v := some (.int (1 : Int32))) (fun h => by rw [Bd.returns] at h; cases h)
      refine ⟨_, _, ?_, hrun, hended, _, _, rfl, ?_, ⟨_, rfl⟩, hW, hsame.mono (by decide) (by decide)⟩
      · show Steps p.tables e below (s₁.setTop (mkF m 120 (LS_RRII r0 r1 (1 : Int32) (0 : Int32)) [(.int (1 : Int32))])) _
        exact retN X0 hx (t := .boolean) Bd.returns (by simp) (hb hby d2_120) hr
      · show Q2 Z r0 r1 kq1 kq2 x0 x1 x2 x3 x4 x5 x6 h0 n0 _ s₁.heap _
        rw [e0]
        exact ⟨by rw [if_pos (Or.inl hc30_15)], N0, rfl⟩
  · obtain ⟨cl45, Ar45, qa45, Sa45, Na45, Ha45, Ga45⟩ := id Vq1
    have hin46 : ¬ ((0 : Int32) < 0 ∨ cl45.slots.size ≤ ((0 : Int32)).toNatClampNeg) := inb_of Sa45 ⟨by decide, by decide⟩
    have hat46 : cl45.slots[((0 : Int32)).toNatClampNeg]? = some (.long x0) := Has.at Ha45 hin46 rfl
    obtain ⟨cl47, Ar47, qa47, Sa47, Na47, Ha47, Ga47⟩ := id Vq2
    have hin48 : ¬ ((0 : Int32) < 0 ∨ cl47.slots.size ≤ ((0 : Int32)).toNatClampNeg) := inb_of Sa47 ⟨by decide, by decide⟩
    have hat48 : cl47.slots[((0 : Int32)).toNatClampNeg]? = some (.long (35747322042231467 : Int64)) := Has.at Ha47 hin48 rfl
    obtain ⟨cl49, Ar49, qa49, Sa49, Na49, Ha49, Ga49⟩ := id Vq1
    have hin50 : ¬ ((1 : Int32) < 0 ∨ cl49.slots.size ≤ ((1 : Int32)).toNatClampNeg) := inb_of Sa49 ⟨by decide, by decide⟩
    have hat50 : cl49.slots[((1 : Int32)).toNatClampNeg]? = some (.long x1) := Has.at Ha49 hin50 rfl
    obtain ⟨cl51, Ar51, qa51, Sa51, Na51, Ha51, Ga51⟩ := id Vq2
    have hin52 : ¬ ((1 : Int32) < 0 ∨ cl51.slots.size ≤ ((1 : Int32)).toNatClampNeg) := inb_of Sa51 ⟨by decide, by decide⟩
    have hat52 : cl51.slots[((1 : Int32)).toNatClampNeg]? = some (.long (36025922209447795 : Int64)) := Has.at Ha51 hin52 rfl
    obtain ⟨cl53, Ar53, qa53, Sa53, Na53, Ha53, Ga53⟩ := id Vq1
    have hin54 : ¬ ((2 : Int32) < 0 ∨ cl53.slots.size ≤ ((2 : Int32)).toNatClampNeg) := inb_of Sa53 ⟨by decide, by decide⟩
    have hat54 : cl53.slots[((2 : Int32)).toNatClampNeg]? = some (.long x2) := Has.at Ha53 hin54 rfl
    obtain ⟨cl55, Ar55, qa55, Sa55, Na55, Ha55, Ga55⟩ := id Vq2
    have hin56 : ¬ ((2 : Int32) < 0 ∨ cl55.slots.size ≤ ((2 : Int32)).toNatClampNeg) := inb_of Sa55 ⟨by decide, by decide⟩
    have hat56 : cl55.slots[((2 : Int32)).toNatClampNeg]? = some (.long (1084959616957103 : Int64)) := Has.at Ha55 hin56 rfl
    obtain ⟨cl57, Ar57, qa57, Sa57, Na57, Ha57, Ga57⟩ := id Vq1
    have hin58 : ¬ ((3 : Int32) < 0 ∨ cl57.slots.size ≤ ((3 : Int32)).toNatClampNeg) := inb_of Sa57 ⟨by decide, by decide⟩
    have hat58 : cl57.slots[((3 : Int32)).toNatClampNeg]? = some (.long x3) := Has.at Ha57 hin58 rfl
    obtain ⟨cl59, Ar59, qa59, Sa59, Na59, Ha59, Ga59⟩ := id Vq2
    have hin60 : ¬ ((3 : Int32) < 0 ∨ cl59.slots.size ≤ ((3 : Int32)).toNatClampNeg) := inb_of Sa59 ⟨by decide, by decide⟩
    have hat60 : cl59.slots[((3 : Int32)).toNatClampNeg]? = some (.long (7925923977987733 : Int64)) := Has.at Ha59 hin60 rfl
    obtain ⟨cl61, Ar61, qa61, Sa61, Na61, Ha61, Ga61⟩ := id Vq1
    have hin62 : ¬ ((4 : Int32) < 0 ∨ cl61.slots.size ≤ ((4 : Int32)).toNatClampNeg) := inb_of Sa61 ⟨by decide, by decide⟩
    have hat62 : cl61.slots[((4 : Int32)).toNatClampNeg]? = some (.long x4) := Has.at Ha61 hin62 rfl
    obtain ⟨cl63, Ar63, qa63, Sa63, Na63, Ha63, Ga63⟩ := id Vq2
    have hin64 : ¬ ((4 : Int32) < 0 ∨ cl63.slots.size ≤ ((4 : Int32)).toNatClampNeg) := inb_of Sa63 ⟨by decide, by decide⟩
    have hat64 : cl63.slots[((4 : Int32)).toNatClampNeg]? = some (.long (16551456537884751 : Int64)) := Has.at Ha63 hin64 rfl
    obtain ⟨cl65, Ar65, qa65, Sa65, Na65, Ha65, Ga65⟩ := id Vq1
    have hin66 : ¬ ((5 : Int32) < 0 ∨ cl65.slots.size ≤ ((5 : Int32)).toNatClampNeg) := inb_of Sa65 ⟨by decide, by decide⟩
    have hat66 : cl65.slots[((5 : Int32)).toNatClampNeg]? = some (.long x5) := Has.at Ha65 hin66 rfl
    obtain ⟨cl67, Ar67, qa67, Sa67, Na67, Ha67, Ga67⟩ := id Vq2
    have hin68 : ¬ ((5 : Int32) < 0 ∨ cl67.slots.size ≤ ((5 : Int32)).toNatClampNeg) := inb_of Sa67 ⟨by decide, by decide⟩
    have hat68 : cl67.slots[((5 : Int32)).toNatClampNeg]? = some (.long (23443114579904617 : Int64)) := Has.at Ha67 hin68 rfl
    obtain ⟨cl69, Ar69, qa69, Sa69, Na69, Ha69, Ga69⟩ := id Vq1
    have hin70 : ¬ ((6 : Int32) < 0 ∨ cl69.slots.size ≤ ((6 : Int32)).toNatClampNeg) := inb_of Sa69 ⟨by decide, by decide⟩
    have hat70 : cl69.slots[((6 : Int32)).toNatClampNeg]? = some (.long x6) := Has.at Ha69 hin70 rfl
    obtain ⟨cl71, Ar71, qa71, Sa71, Na71, Ha71, Ga71⟩ := id Vq2
    have hin72 : ¬ ((6 : Int32) < 0 ∨ cl71.slots.size ≤ ((6 : Int32)).toNatClampNeg) := inb_of Sa71 ⟨by decide, by decide⟩
    have hat72 : cl71.slots[((6 : Int32)).toNatClampNeg]? = some (.long (1829881462546425 : Int64)) := Has.at Ha71 hin72 rfl
    refine own_go (B := s₁.setTop (mkF m 98 (LS_RRIu r0 r1 (0 : Int32)) [(.int (lcmpW (((((((x0 ^^^ (35747322042231467 : Int64)) ||| (x1 ^^^ (36025922209447795 : Int64))) ||| (x2 ^^^ (1084959616957103 : Int64))) ||| (x3 ^^^ (7925923977987733 : Int64))) ||| (x4 ^^^ (16551456537884751 : Int64))) ||| (x5 ^^^ (23443114579904617 : Int64))) ||| (x6 ^^^ (1829881462546425 : Int64))) (0 : Int64)))])) (fun t k => ?_) ?_
    · show Steps p.tables e below (s₁.setTop (mkF m 30 (LS_RRuu r0 r1) [(.int (lcmpW ((((((x0 ||| x1) ||| x2) ||| x3) ||| x4) ||| x5) ||| x6) (0 : Int64)))])) _
      refine XS.ifYes X0.here hx rfl (pc0 := 30) (pc' := 37) rfl (hb hby d2_30) rfl ((if0 _ _).trans (feq (fun q => hc30_15 ((lw_eq ((((((x0 ||| x1) ||| x2) ||| x3) ||| x4) ||| x5) ||| x6) (0 : Int64)).mp q))).2) (by decide) (by decide) ?_
      show Steps p.tables e below (s₁.setTop (mkF m 37 (LS_RRuu r0 r1) [])) _
      refine XS.iconst X0.here hx rfl (hb hby d2_37) ?_
      show Steps p.tables e below (s₁.setTop (mkF m 38 (LS_RRuu r0 r1) [(.int (0 : Int32))])) _
      refine XS.istoreN X0.here hx rfl (hb hby d2_38) rfl (l' := (LS_RRIu r0 r1 (0 : Int32))) rfl ?_
      show Steps p.tables e below (s₁.setTop (mkF m 39 (LS_RRIu r0 r1 (0 : Int32)) [])) _
      refine XS.aloadN X0.here hx rfl (hb hby d2_39) rfl rfl ?_
      show Steps p.tables e below (s₁.setTop (mkF m 40 (LS_RRIu r0 r1 (0 : Int32)) [(.ref r0)])) _
      refine XS.iconst X0.here hx rfl (hb hby d2_40) ?_
      show Steps p.tables e below (s₁.setTop (mkF m 41 (LS_RRIu r0 r1 (0 : Int32)) [(.int (0 : Int32)), (.ref r0)])) _
      refine X0.laload hx (j := (0 : Int32)) (v := (.long x0)) (by rw [e0]; exact Ar45.1) (State.isArrayOf_alike hZ.alike Ar45.2.1) Ar45.2.2 hin46 hat46 (g := (mkF m 41 (LS_RRIu r0 r1 (0 : Int32)) [(.int (0 : Int32)), (.ref r0)])) rfl rfl (hb hby d2_41) _ ?_
      show Steps p.tables e below (s₁.setTop (mkF m 42 (LS_RRIu r0 r1 (0 : Int32)) [(.long x0)])) _
      refine XS.aloadN X0.here hx rfl (hb hby d2_42) rfl rfl ?_
      show Steps p.tables e below (s₁.setTop (mkF m 43 (LS_RRIu r0 r1 (0 : Int32)) [(.ref r1), (.long x0)])) _
      refine XS.iconst X0.here hx rfl (hb hby d2_43) ?_
      show Steps p.tables e below (s₁.setTop (mkF m 44 (LS_RRIu r0 r1 (0 : Int32)) [(.int (0 : Int32)), (.ref r1), (.long x0)])) _
      refine X0.laload hx (j := (0 : Int32)) (v := (.long (35747322042231467 : Int64))) (by rw [e0]; exact Ar47.1) (State.isArrayOf_alike hZ.alike Ar47.2.1) Ar47.2.2 hin48 hat48 (g := (mkF m 44 (LS_RRIu r0 r1 (0 : Int32)) [(.int (0 : Int32)), (.ref r1), (.long x0)])) rfl rfl (hb hby d2_44) _ ?_
      show Steps p.tables e below (s₁.setTop (mkF m 45 (LS_RRIu r0 r1 (0 : Int32)) [(.long (35747322042231467 : Int64)), (.long x0)])) _
      refine XS.lxor X0.here hx rfl (hb hby d2_45) rfl ?_
      show Steps p.tables e below (s₁.setTop (mkF m 46 (LS_RRIu r0 r1 (0 : Int32)) [(.long (x0 ^^^ (35747322042231467 : Int64)))])) _
      refine XS.aloadN X0.here hx rfl (hb hby d2_46) rfl rfl ?_
      show Steps p.tables e below (s₁.setTop (mkF m 47 (LS_RRIu r0 r1 (0 : Int32)) [(.ref r0), (.long (x0 ^^^ (35747322042231467 : Int64)))])) _
      refine XS.iconst X0.here hx rfl (hb hby d2_47) ?_
      show Steps p.tables e below (s₁.setTop (mkF m 48 (LS_RRIu r0 r1 (0 : Int32)) [(.int (1 : Int32)), (.ref r0), (.long (x0 ^^^ (35747322042231467 : Int64)))])) _
      refine X0.laload hx (j := (1 : Int32)) (v := (.long x1)) (by rw [e0]; exact Ar49.1) (State.isArrayOf_alike hZ.alike Ar49.2.1) Ar49.2.2 hin50 hat50 (g := (mkF m 48 (LS_RRIu r0 r1 (0 : Int32)) [(.int (1 : Int32)), (.ref r0), (.long (x0 ^^^ (35747322042231467 : Int64)))])) rfl rfl (hb hby d2_48) _ ?_
      show Steps p.tables e below (s₁.setTop (mkF m 49 (LS_RRIu r0 r1 (0 : Int32)) [(.long x1), (.long (x0 ^^^ (35747322042231467 : Int64)))])) _
      refine XS.aloadN X0.here hx rfl (hb hby d2_49) rfl rfl ?_
      show Steps p.tables e below (s₁.setTop (mkF m 50 (LS_RRIu r0 r1 (0 : Int32)) [(.ref r1), (.long x1), (.long (x0 ^^^ (35747322042231467 : Int64)))])) _
      refine XS.iconst X0.here hx rfl (hb hby d2_50) ?_
      show Steps p.tables e below (s₁.setTop (mkF m 51 (LS_RRIu r0 r1 (0 : Int32)) [(.int (1 : Int32)), (.ref r1), (.long x1), (.long (x0 ^^^ (35747322042231467 : Int64)))])) _
      refine X0.laload hx (j := (1 : Int32)) (v := (.long (36025922209447795 : Int64))) (by rw [e0]; exact Ar51.1) (State.isArrayOf_alike hZ.alike Ar51.2.1) Ar51.2.2 hin52 hat52 (g := (mkF m 51 (LS_RRIu r0 r1 (0 : Int32)) [(.int (1 : Int32)), (.ref r1), (.long x1), (.long (x0 ^^^ (35747322042231467 : Int64)))])) rfl rfl (hb hby d2_51) _ ?_
      show Steps p.tables e below (s₁.setTop (mkF m 52 (LS_RRIu r0 r1 (0 : Int32)) [(.long (36025922209447795 : Int64)), (.long x1), (.long (x0 ^^^ (35747322042231467 : Int64)))])) _
      refine XS.lxor X0.here hx rfl (hb hby d2_52) rfl ?_
      show Steps p.tables e below (s₁.setTop (mkF m 53 (LS_RRIu r0 r1 (0 : Int32)) [(.long (x1 ^^^ (36025922209447795 : Int64))), (.long (x0 ^^^ (35747322042231467 : Int64)))])) _
      refine XS.lor X0.here hx rfl (hb hby d2_53) rfl ?_
      show Steps p.tables e below (s₁.setTop (mkF m 54 (LS_RRIu r0 r1 (0 : Int32)) [(.long ((x0 ^^^ (35747322042231467 : Int64)) ||| (x1 ^^^ (36025922209447795 : Int64))))])) _
      refine XS.aloadN X0.here hx rfl (hb hby d2_54) rfl rfl ?_
      show Steps p.tables e below (s₁.setTop (mkF m 55 (LS_RRIu r0 r1 (0 : Int32)) [(.ref r0), (.long ((x0 ^^^ (35747322042231467 : Int64)) ||| (x1 ^^^ (36025922209447795 : Int64))))])) _
      refine XS.iconst X0.here hx rfl (hb hby d2_55) ?_
      show Steps p.tables e below (s₁.setTop (mkF m 56 (LS_RRIu r0 r1 (0 : Int32)) [(.int (2 : Int32)), (.ref r0), (.long ((x0 ^^^ (35747322042231467 : Int64)) ||| (x1 ^^^ (36025922209447795 : Int64))))])) _
      refine X0.laload hx (j := (2 : Int32)) (v := (.long x2)) (by rw [e0]; exact Ar53.1) (State.isArrayOf_alike hZ.alike Ar53.2.1) Ar53.2.2 hin54 hat54 (g := (mkF m 56 (LS_RRIu r0 r1 (0 : Int32)) [(.int (2 : Int32)), (.ref r0), (.long ((x0 ^^^ (35747322042231467 : Int64)) ||| (x1 ^^^ (36025922209447795 : Int64))))])) rfl rfl (hb hby d2_56) _ ?_
      show Steps p.tables e below (s₁.setTop (mkF m 57 (LS_RRIu r0 r1 (0 : Int32)) [(.long x2), (.long ((x0 ^^^ (35747322042231467 : Int64)) ||| (x1 ^^^ (36025922209447795 : Int64))))])) _
      refine XS.aloadN X0.here hx rfl (hb hby d2_57) rfl rfl ?_
      show Steps p.tables e below (s₁.setTop (mkF m 58 (LS_RRIu r0 r1 (0 : Int32)) [(.ref r1), (.long x2), (.long ((x0 ^^^ (35747322042231467 : Int64)) ||| (x1 ^^^ (36025922209447795 : Int64))))])) _
      refine XS.iconst X0.here hx rfl (hb hby d2_58) ?_
      show Steps p.tables e below (s₁.setTop (mkF m 59 (LS_RRIu r0 r1 (0 : Int32)) [(.int (2 : Int32)), (.ref r1), (.long x2), (.long ((x0 ^^^ (35747322042231467 : Int64)) ||| (x1 ^^^ (36025922209447795 : Int64))))])) _
      refine X0.laload hx (j := (2 : Int32)) (v := (.long (1084959616957103 : Int64))) (by rw [e0]; exact Ar55.1) (State.isArrayOf_alike hZ.alike Ar55.2.1) Ar55.2.2 hin56 hat56 (g := (mkF m 59 (LS_RRIu r0 r1 (0 : Int32)) [(.int (2 : Int32)), (.ref r1), (.long x2), (.long ((x0 ^^^ (35747322042231467 : Int64)) ||| (x1 ^^^ (36025922209447795 : Int64))))])) rfl rfl (hb hby d2_59) _ ?_
      show Steps p.tables e below (s₁.setTop (mkF m 60 (LS_RRIu r0 r1 (0 : Int32)) [(.long (1084959616957103 : Int64)), (.long x2), (.long ((x0 ^^^ (35747322042231467 : Int64)) ||| (x1 ^^^ (36025922209447795 : Int64))))])) _
      refine XS.lxor X0.here hx rfl (hb hby d2_60) rfl ?_
      show Steps p.tables e below (s₁.setTop (mkF m 61 (LS_RRIu r0 r1 (0 : Int32)) [(.long (x2 ^^^ (1084959616957103 : Int64))), (.long ((x0 ^^^ (35747322042231467 : Int64)) ||| (x1 ^^^ (36025922209447795 : Int64))))])) _
      refine XS.lor X0.here hx rfl (hb hby d2_61) rfl ?_
      show Steps p.tables e below (s₁.setTop (mkF m 62 (LS_RRIu r0 r1 (0 : Int32)) [(.long (((x0 ^^^ (35747322042231467 : Int64)) ||| (x1 ^^^ (36025922209447795 : Int64))) ||| (x2 ^^^ (1084959616957103 : Int64))))])) _
      refine XS.aloadN X0.here hx rfl (hb hby d2_62) rfl rfl ?_
      show Steps p.tables e below (s₁.setTop (mkF m 63 (LS_RRIu r0 r1 (0 : Int32)) [(.ref r0), (.long (((x0 ^^^ (35747322042231467 : Int64)) ||| (x1 ^^^ (36025922209447795 : Int64))) ||| (x2 ^^^ (1084959616957103 : Int64))))])) _
      refine XS.iconst X0.here hx rfl (hb hby d2_63) ?_
      show Steps p.tables e below (s₁.setTop (mkF m 64 (LS_RRIu r0 r1 (0 : Int32)) [(.int (3 : Int32)), (.ref r0), (.long (((x0 ^^^ (35747322042231467 : Int64)) ||| (x1 ^^^ (36025922209447795 : Int64))) ||| (x2 ^^^ (1084959616957103 : Int64))))])) _
      refine X0.laload hx (j := (3 : Int32)) (v := (.long x3)) (by rw [e0]; exact Ar57.1) (State.isArrayOf_alike hZ.alike Ar57.2.1) Ar57.2.2 hin58 hat58 (g := (mkF m 64 (LS_RRIu r0 r1 (0 : Int32)) [(.int (3 : Int32)), (.ref r0), (.long (((x0 ^^^ (35747322042231467 : Int64)) ||| (x1 ^^^ (36025922209447795 : Int64))) ||| (x2 ^^^ (1084959616957103 : Int64))))])) rfl rfl (hb hby d2_64) _ ?_
      show Steps p.tables e below (s₁.setTop (mkF m 65 (LS_RRIu r0 r1 (0 : Int32)) [(.long x3), (.long (((x0 ^^^ (35747322042231467 : Int64)) ||| (x1 ^^^ (36025922209447795 : Int64))) ||| (x2 ^^^ (1084959616957103 : Int64))))])) _
      refine XS.aloadN X0.here hx rfl (hb hby d2_65) rfl rfl ?_
      show Steps p.tables e below (s₁.setTop (mkF m 66 (LS_RRIu r0 r1 (0 : Int32)) [(.ref r1), (.long x3), (.long (((x0 ^^^ (35747322042231467 : Int64)) ||| (x1 ^^^ (36025922209447795 : Int64))) ||| (x2 ^^^ (1084959616957103 : Int64))))])) _
      refine XS.iconst X0.here hx rfl (hb hby d2_66) ?_
      show Steps p.tables e below (s₁.setTop (mkF m 67 (LS_RRIu r0 r1 (0 : Int32)) [(.int (3 : Int32)), (.ref r1), (.long x3), (.long (((x0 ^^^ (35747322042231467 : Int64)) ||| (x1 ^^^ (36025922209447795 : Int64))) ||| (x2 ^^^ (1084959616957103 : Int64))))])) _
      refine X0.laload hx (j := (3 : Int32)) (v := (.long (7925923977987733 : Int64))) (by rw [e0]; exact Ar59.1) (State.isArrayOf_alike hZ.alike Ar59.2.1) Ar59.2.2 hin60 hat60 (g := (mkF m 67 (LS_RRIu r0 r1 (0 : Int32)) [(.int (3 : Int32)), (.ref r1), (.long x3), (.long (((x0 ^^^ (35747322042231467 : Int64)) ||| (x1 ^^^ (36025922209447795 : Int64))) ||| (x2 ^^^ (1084959616957103 : Int64))))])) rfl rfl (hb hby d2_67) _ ?_
      show Steps p.tables e below (s₁.setTop (mkF m 68 (LS_RRIu r0 r1 (0 : Int32)) [(.long (7925923977987733 : Int64)), (.long x3), (.long (((x0 ^^^ (35747322042231467 : Int64)) ||| (x1 ^^^ (36025922209447795 : Int64))) ||| (x2 ^^^ (1084959616957103 : Int64))))])) _
      refine XS.lxor X0.here hx rfl (hb hby d2_68) rfl ?_
      show Steps p.tables e below (s₁.setTop (mkF m 69 (LS_RRIu r0 r1 (0 : Int32)) [(.long (x3 ^^^ (7925923977987733 : Int64))), (.long (((x0 ^^^ (35747322042231467 : Int64)) ||| (x1 ^^^ (36025922209447795 : Int64))) ||| (x2 ^^^ (1084959616957103 : Int64))))])) _
      refine XS.lor X0.here hx rfl (hb hby d2_69) rfl ?_
      show Steps p.tables e below (s₁.setTop (mkF m 70 (LS_RRIu r0 r1 (0 : Int32)) [(.long ((((x0 ^^^ (35747322042231467 : Int64)) ||| (x1 ^^^ (36025922209447795 : Int64))) ||| (x2 ^^^ (1084959616957103 : Int64))) ||| (x3 ^^^ (7925923977987733 : Int64))))])) _
      refine XS.aloadN X0.here hx rfl (hb hby d2_70) rfl rfl ?_
      show Steps p.tables e below (s₁.setTop (mkF m 71 (LS_RRIu r0 r1 (0 : Int32)) [(.ref r0), (.long ((((x0 ^^^ (35747322042231467 : Int64)) ||| (x1 ^^^ (36025922209447795 : Int64))) ||| (x2 ^^^ (1084959616957103 : Int64))) ||| (x3 ^^^ (7925923977987733 : Int64))))])) _
      refine XS.iconst X0.here hx rfl (hb hby d2_71) ?_
      show Steps p.tables e below (s₁.setTop (mkF m 72 (LS_RRIu r0 r1 (0 : Int32)) [(.int (4 : Int32)), (.ref r0), (.long ((((x0 ^^^ (35747322042231467 : Int64)) ||| (x1 ^^^ (36025922209447795 : Int64))) ||| (x2 ^^^ (1084959616957103 : Int64))) ||| (x3 ^^^ (7925923977987733 : Int64))))])) _
      refine X0.laload hx (j := (4 : Int32)) (v := (.long x4)) (by rw [e0]; exact Ar61.1) (State.isArrayOf_alike hZ.alike Ar61.2.1) Ar61.2.2 hin62 hat62 (g := (mkF m 72 (LS_RRIu r0 r1 (0 : Int32)) [(.int (4 : Int32)), (.ref r0), (.long ((((x0 ^^^ (35747322042231467 : Int64)) ||| (x1 ^^^ (36025922209447795 : Int64))) ||| (x2 ^^^ (1084959616957103 : Int64))) ||| (x3 ^^^ (7925923977987733 : Int64))))])) rfl rfl (hb hby d2_72) _ ?_
      show Steps p.tables e below (s₁.setTop (mkF m 73 (LS_RRIu r0 r1 (0 : Int32)) [(.long x4), (.long ((((x0 ^^^ (35747322042231467 : Int64)) ||| (x1 ^^^ (36025922209447795 : Int64))) ||| (x2 ^^^ (1084959616957103 : Int64))) ||| (x3 ^^^ (7925923977987733 : Int64))))])) _
      refine XS.aloadN X0.here hx rfl (hb hby d2_73) rfl rfl ?_
      show Steps p.tables e below (s₁.setTop (mkF m 74 (LS_RRIu r0 r1 (0 : Int32)) [(.ref r1), (.long x4), (.long ((((x0 ^^^ (35747322042231467 : Int64)) ||| (x1 ^^^ (36025922209447795 : Int64))) ||| (x2 ^^^ (1084959616957103 : Int64))) ||| (x3 ^^^ (7925923977987733 : Int64))))])) _
      refine XS.iconst X0.here hx rfl (hb hby d2_74) ?_
      show Steps p.tables e below (s₁.setTop (mkF m 75 (LS_RRIu r0 r1 (0 : Int32)) [(.int (4 : Int32)), (.ref r1), (.long x4), (.long ((((x0 ^^^ (35747322042231467 : Int64)) ||| (x1 ^^^ (36025922209447795 : Int64))) ||| (x2 ^^^ (1084959616957103 : Int64))) ||| (x3 ^^^ (7925923977987733 : Int64))))])) _
      refine X0.laload hx (j := (4 : Int32)) (v := (.long (16551456537884751 : Int64))) (by rw [e0]; exact Ar63.1) (State.isArrayOf_alike hZ.alike Ar63.2.1) Ar63.2.2 hin64 hat64 (g := (mkF m 75 (LS_RRIu r0 r1 (0 : Int32)) [(.int (4 : Int32)), (.ref r1), (.long x4), (.long ((((x0 ^^^ (35747322042231467 : Int64)) ||| (x1 ^^^ (36025922209447795 : Int64))) ||| (x2 ^^^ (1084959616957103 : Int64))) ||| (x3 ^^^ (7925923977987733 : Int64))))])) rfl rfl (hb hby d2_75) _ ?_
      show Steps p.tables e below (s₁.setTop (mkF m 76 (LS_RRIu r0 r1 (0 : Int32)) [(.long (16551456537884751 : Int64)), (.long x4), (.long ((((x0 ^^^ (35747322042231467 : Int64)) ||| (x1 ^^^ (36025922209447795 : Int64))) ||| (x2 ^^^ (1084959616957103 : Int64))) ||| (x3 ^^^ (7925923977987733 : Int64))))])) _
      refine XS.lxor X0.here hx rfl (hb hby d2_76) rfl ?_
      show Steps p.tables e below (s₁.setTop (mkF m 77 (LS_RRIu r0 r1 (0 : Int32)) [(.long (x4 ^^^ (16551456537884751 : Int64))), (.long ((((x0 ^^^ (35747322042231467 : Int64)) ||| (x1 ^^^ (36025922209447795 : Int64))) ||| (x2 ^^^ (1084959616957103 : Int64))) ||| (x3 ^^^ (7925923977987733 : Int64))))])) _
      refine XS.lor X0.here hx rfl (hb hby d2_77) rfl ?_
      show Steps p.tables e below (s₁.setTop (mkF m 78 (LS_RRIu r0 r1 (0 : Int32)) [(.long (((((x0 ^^^ (35747322042231467 : Int64)) ||| (x1 ^^^ (36025922209447795 : Int64))) ||| (x2 ^^^ (1084959616957103 : Int64))) ||| (x3 ^^^ (7925923977987733 : Int64))) ||| (x4 ^^^ (16551456537884751 : Int64))))])) _
      refine XS.aloadN X0.here hx rfl (hb hby d2_78) rfl rfl ?_
      show Steps p.tables e below (s₁.setTop (mkF m 79 (LS_RRIu r0 r1 (0 : Int32)) [(.ref r0), (.long (((((x0 ^^^ (35747322042231467 : Int64)) ||| (x1 ^^^ (36025922209447795 : Int64))) ||| (x2 ^^^ (1084959616957103 : Int64))) ||| (x3 ^^^ (7925923977987733 : Int64))) ||| (x4 ^^^ (16551456537884751 : Int64))))])) _
      refine XS.iconst X0.here hx rfl (hb hby d2_79) ?_
      show Steps p.tables e below (s₁.setTop (mkF m 80 (LS_RRIu r0 r1 (0 : Int32)) [(.int (5 : Int32)), (.ref r0), (.long (((((x0 ^^^ (35747322042231467 : Int64)) ||| (x1 ^^^ (36025922209447795 : Int64))) ||| (x2 ^^^ (1084959616957103 : Int64))) ||| (x3 ^^^ (7925923977987733 : Int64))) ||| (x4 ^^^ (16551456537884751 : Int64))))])) _
      refine X0.laload hx (j := (5 : Int32)) (v := (.long x5)) (by rw [e0]; exact Ar65.1) (State.isArrayOf_alike hZ.alike Ar65.2.1) Ar65.2.2 hin66 hat66 (g := (mkF m 80 (LS_RRIu r0 r1 (0 : Int32)) [(.int (5 : Int32)), (.ref r0), (.long (((((x0 ^^^ (35747322042231467 : Int64)) ||| (x1 ^^^ (36025922209447795 : Int64))) ||| (x2 ^^^ (1084959616957103 : Int64))) ||| (x3 ^^^ (7925923977987733 : Int64))) ||| (x4 ^^^ (16551456537884751 : Int64))))])) rfl rfl (hb hby d2_80) _ ?_
      show Steps p.tables e below (s₁.setTop (mkF m 81 (LS_RRIu r0 r1 (0 : Int32)) [(.long x5), (.long (((((x0 ^^^ (35747322042231467 : Int64)) ||| (x1 ^^^ (36025922209447795 : Int64))) ||| (x2 ^^^ (1084959616957103 : Int64))) ||| (x3 ^^^ (7925923977987733 : Int64))) ||| (x4 ^^^ (16551456537884751 : Int64))))])) _
      refine XS.aloadN X0.here hx rfl (hb hby d2_81) rfl rfl ?_
      show Steps p.tables e below (s₁.setTop (mkF m 82 (LS_RRIu r0 r1 (0 : Int32)) [(.ref r1), (.long x5), (.long (((((x0 ^^^ (35747322042231467 : Int64)) ||| (x1 ^^^ (36025922209447795 : Int64))) ||| (x2 ^^^ (1084959616957103 : Int64))) ||| (x3 ^^^ (7925923977987733 : Int64))) ||| (x4 ^^^ (16551456537884751 : Int64))))])) _
      refine XS.iconst X0.here hx rfl (hb hby d2_82) ?_
      show Steps p.tables e below (s₁.setTop (mkF m 83 (LS_RRIu r0 r1 (0 : Int32)) [(.int (5 : Int32)), (.ref r1), (.long x5), (.long (((((x0 ^^^ (35747322042231467 : Int64)) ||| (x1 ^^^ (36025922209447795 : Int64))) ||| (x2 ^^^ (1084959616957103 : Int64))) ||| (x3 ^^^ (7925923977987733 : Int64))) ||| (x4 ^^^ (16551456537884751 : Int64))))])) _
      refine X0.laload hx (j := (5 : Int32)) (v := (.long (23443114579904617 : Int64))) (by rw [e0]; exact Ar67.1) (State.isArrayOf_alike hZ.alike Ar67.2.1) Ar67.2.2 hin68 hat68 (g := (mkF m 83 (LS_RRIu r0 r1 (0 : Int32)) [(.int (5 : Int32)), (.ref r1), (.long x5), (.long (((((x0 ^^^ (35747322042231467 : Int64)) ||| (x1 ^^^ (36025922209447795 : Int64))) ||| (x2 ^^^ (1084959616957103 : Int64))) ||| (x3 ^^^ (7925923977987733 : Int64))) ||| (x4 ^^^ (16551456537884751 : Int64))))])) rfl rfl (hb hby d2_83) _ ?_
      show Steps p.tables e below (s₁.setTop (mkF m 84 (LS_RRIu r0 r1 (0 : Int32)) [(.long (23443114579904617 : Int64)), (.long x5), (.long (((((x0 ^^^ (35747322042231467 : Int64)) ||| (x1 ^^^ (36025922209447795 : Int64))) ||| (x2 ^^^ (1084959616957103 : Int64))) ||| (x3 ^^^ (7925923977987733 : Int64))) ||| (x4 ^^^ (16551456537884751 : Int64))))])) _
      refine XS.lxor X0.here hx rfl (hb hby d2_84) rfl ?_
      show Steps p.tables e below (s₁.setTop (mkF m 85 (LS_RRIu r0 r1 (0 : Int32)) [(.long (x5 ^^^ (23443114579904617 : Int64))), (.long (((((x0 ^^^ (35747322042231467 : Int64)) ||| (x1 ^^^ (36025922209447795 : Int64))) ||| (x2 ^^^ (1084959616957103 : Int64))) ||| (x3 ^^^ (7925923977987733 : Int64))) ||| (x4 ^^^ (16551456537884751 : Int64))))])) _
      refine XS.lor X0.here hx rfl (hb hby d2_85) rfl ?_
      show Steps p.tables e below (s₁.setTop (mkF m 86 (LS_RRIu r0 r1 (0 : Int32)) [(.long ((((((x0 ^^^ (35747322042231467 : Int64)) ||| (x1 ^^^ (36025922209447795 : Int64))) ||| (x2 ^^^ (1084959616957103 : Int64))) ||| (x3 ^^^ (7925923977987733 : Int64))) ||| (x4 ^^^ (16551456537884751 : Int64))) ||| (x5 ^^^ (23443114579904617 : Int64))))])) _
      refine XS.aloadN X0.here hx rfl (hb hby d2_86) rfl rfl ?_
      show Steps p.tables e below (s₁.setTop (mkF m 87 (LS_RRIu r0 r1 (0 : Int32)) [(.ref r0), (.long ((((((x0 ^^^ (35747322042231467 : Int64)) ||| (x1 ^^^ (36025922209447795 : Int64))) ||| (x2 ^^^ (1084959616957103 : Int64))) ||| (x3 ^^^ (7925923977987733 : Int64))) ||| (x4 ^^^ (16551456537884751 : Int64))) ||| (x5 ^^^ (23443114579904617 : Int64))))])) _
      refine XS.bipush X0.here hx rfl (hb hby d2_87) ?_
      show Steps p.tables e below (s₁.setTop (mkF m 89 (LS_RRIu r0 r1 (0 : Int32)) [(.int (6 : Int32)), (.ref r0), (.long ((((((x0 ^^^ (35747322042231467 : Int64)) ||| (x1 ^^^ (36025922209447795 : Int64))) ||| (x2 ^^^ (1084959616957103 : Int64))) ||| (x3 ^^^ (7925923977987733 : Int64))) ||| (x4 ^^^ (16551456537884751 : Int64))) ||| (x5 ^^^ (23443114579904617 : Int64))))])) _
      refine X0.laload hx (j := (6 : Int32)) (v := (.long x6)) (by rw [e0]; exact Ar69.1) (State.isArrayOf_alike hZ.alike Ar69.2.1) Ar69.2.2 hin70 hat70 (g := (mkF m 89 (LS_RRIu r0 r1 (0 : Int32)) [(.int (6 : Int32)), (.ref r0), (.long ((((((x0 ^^^ (35747322042231467 : Int64)) ||| (x1 ^^^ (36025922209447795 : Int64))) ||| (x2 ^^^ (1084959616957103 : Int64))) ||| (x3 ^^^ (7925923977987733 : Int64))) ||| (x4 ^^^ (16551456537884751 : Int64))) ||| (x5 ^^^ (23443114579904617 : Int64))))])) rfl rfl (hb hby d2_89) _ ?_
      show Steps p.tables e below (s₁.setTop (mkF m 90 (LS_RRIu r0 r1 (0 : Int32)) [(.long x6), (.long ((((((x0 ^^^ (35747322042231467 : Int64)) ||| (x1 ^^^ (36025922209447795 : Int64))) ||| (x2 ^^^ (1084959616957103 : Int64))) ||| (x3 ^^^ (7925923977987733 : Int64))) ||| (x4 ^^^ (16551456537884751 : Int64))) ||| (x5 ^^^ (23443114579904617 : Int64))))])) _
      refine XS.aloadN X0.here hx rfl (hb hby d2_90) rfl rfl ?_
      show Steps p.tables e below (s₁.setTop (mkF m 91 (LS_RRIu r0 r1 (0 : Int32)) [(.ref r1), (.long x6), (.long ((((((x0 ^^^ (35747322042231467 : Int64)) ||| (x1 ^^^ (36025922209447795 : Int64))) ||| (x2 ^^^ (1084959616957103 : Int64))) ||| (x3 ^^^ (7925923977987733 : Int64))) ||| (x4 ^^^ (16551456537884751 : Int64))) ||| (x5 ^^^ (23443114579904617 : Int64))))])) _
      refine XS.bipush X0.here hx rfl (hb hby d2_91) ?_
      show Steps p.tables e below (s₁.setTop (mkF m 93 (LS_RRIu r0 r1 (0 : Int32)) [(.int (6 : Int32)), (.ref r1), (.long x6), (.long ((((((x0 ^^^ (35747322042231467 : Int64)) ||| (x1 ^^^ (36025922209447795 : Int64))) ||| (x2 ^^^ (1084959616957103 : Int64))) ||| (x3 ^^^ (7925923977987733 : Int64))) ||| (x4 ^^^ (16551456537884751 : Int64))) ||| (x5 ^^^ (23443114579904617 : Int64))))])) _
      refine X0.laload hx (j := (6 : Int32)) (v := (.long (1829881462546425 : Int64))) (by rw [e0]; exact Ar71.1) (State.isArrayOf_alike hZ.alike Ar71.2.1) Ar71.2.2 hin72 hat72 (g := (mkF m 93 (LS_RRIu r0 r1 (0 : Int32)) [(.int (6 : Int32)), (.ref r1), (.long x6), (.long ((((((x0 ^^^ (35747322042231467 : Int64)) ||| (x1 ^^^ (36025922209447795 : Int64))) ||| (x2 ^^^ (1084959616957103 : Int64))) ||| (x3 ^^^ (7925923977987733 : Int64))) ||| (x4 ^^^ (16551456537884751 : Int64))) ||| (x5 ^^^ (23443114579904617 : Int64))))])) rfl rfl (hb hby d2_93) _ ?_
      show Steps p.tables e below (s₁.setTop (mkF m 94 (LS_RRIu r0 r1 (0 : Int32)) [(.long (1829881462546425 : Int64)), (.long x6), (.long ((((((x0 ^^^ (35747322042231467 : Int64)) ||| (x1 ^^^ (36025922209447795 : Int64))) ||| (x2 ^^^ (1084959616957103 : Int64))) ||| (x3 ^^^ (7925923977987733 : Int64))) ||| (x4 ^^^ (16551456537884751 : Int64))) ||| (x5 ^^^ (23443114579904617 : Int64))))])) _
      refine XS.lxor X0.here hx rfl (hb hby d2_94) rfl ?_
      show Steps p.tables e below (s₁.setTop (mkF m 95 (LS_RRIu r0 r1 (0 : Int32)) [(.long (x6 ^^^ (1829881462546425 : Int64))), (.long ((((((x0 ^^^ (35747322042231467 : Int64)) ||| (x1 ^^^ (36025922209447795 : Int64))) ||| (x2 ^^^ (1084959616957103 : Int64))) ||| (x3 ^^^ (7925923977987733 : Int64))) ||| (x4 ^^^ (16551456537884751 : Int64))) ||| (x5 ^^^ (23443114579904617 : Int64))))])) _
      refine XS.lor X0.here hx rfl (hb hby d2_95) rfl ?_
      show Steps p.tables e below (s₁.setTop (mkF m 96 (LS_RRIu r0 r1 (0 : Int32)) [(.long (((((((x0 ^^^ (35747322042231467 : Int64)) ||| (x1 ^^^ (36025922209447795 : Int64))) ||| (x2 ^^^ (1084959616957103 : Int64))) ||| (x3 ^^^ (7925923977987733 : Int64))) ||| (x4 ^^^ (16551456537884751 : Int64))) ||| (x5 ^^^ (23443114579904617 : Int64))) ||| (x6 ^^^ (1829881462546425 : Int64))))])) _
      refine XS.lconst X0.here hx rfl (hb hby d2_96) ?_
      show Steps p.tables e below (s₁.setTop (mkF m 97 (LS_RRIu r0 r1 (0 : Int32)) [(.long (0 : Int64)), (.long (((((((x0 ^^^ (35747322042231467 : Int64)) ||| (x1 ^^^ (36025922209447795 : Int64))) ||| (x2 ^^^ (1084959616957103 : Int64))) ||| (x3 ^^^ (7925923977987733 : Int64))) ||| (x4 ^^^ (16551456537884751 : Int64))) ||| (x5 ^^^ (23443114579904617 : Int64))) ||| (x6 ^^^ (1829881462546425 : Int64))))])) _
      refine XS.lcmp X0.here hx rfl (hb hby d2_97) rfl ?_
      exact k
    by_cases hc98_73 : (((((((x0 ^^^ (35747322042231467 : Int64)) ||| (x1 ^^^ (36025922209447795 : Int64))) ||| (x2 ^^^ (1084959616957103 : Int64))) ||| (x3 ^^^ (7925923977987733 : Int64))) ||| (x4 ^^^ (16551456537884751 : Int64))) ||| (x5 ^^^ (23443114579904617 : Int64))) ||| (x6 ^^^ (1829881462546425 : Int64))) = (0 : Int64)
    · refine own_go (B := s₁.setTop (mkF m 120 (LS_RRII r0 r1 (0 : Int32) (1 : Int32)) [(.int (1 : Int32))])) (fun t k => ?_) ?_
      · show Steps p.tables e below (s₁.setTop (mkF m 98 (LS_RRIu r0 r1 (0 : Int32)) [(.int (lcmpW (((((((x0 ^^^ (35747322042231467 : Int64)) ||| (x1 ^^^ (36025922209447795 : Int64))) ||| (x2 ^^^ (1084959616957103 : Int64))) ||| (x3 ^^^ (7925923977987733 : Int64))) ||| (x4 ^^^ (16551456537884751 : Int64))) ||| (x5 ^^^ (23443114579904617 : Int64))) ||| (x6 ^^^ (1829881462546425 : Int64))) (0 : Int64)))])) _
        refine XS.ifNo X0.here hx rfl (hb hby d2_98) rfl ((if0 _ _).trans (teq ((lw_eq (((((((x0 ^^^ (35747322042231467 : Int64)) ||| (x1 ^^^ (36025922209447795 : Int64))) ||| (x2 ^^^ (1084959616957103 : Int64))) ||| (x3 ^^^ (7925923977987733 : Int64))) ||| (x4 ^^^ (16551456537884751 : Int64))) ||| (x5 ^^^ (23443114579904617 : Int64))) ||| (x6 ^^^ (1829881462546425 : Int64))) (0 : Int64)).mpr hc98_73)).2) ?_
        show Steps p.tables e below (s₁.setTop (mkF m 101 (LS_RRIu r0 r1 (0 : Int32)) [])) _
        refine XS.iconst X0.here hx rfl (hb hby d2_101) ?_
        show Steps p.tables e below (s₁.setTop (mkF m 102 (LS_RRIu r0 r1 (0 : Int32)) [(.int (1 : Int32))])) _
        refine XS.goto X0.here hx rfl (pc0 := 102) (pc' := 106) rfl (hb hby d2_102) (by decide) (by decide) ?_
        show Steps p.tables e below (s₁.setTop (mkF m 106 (LS_RRIu r0 r1 (0 : Int32)) [(.int (1 : Int32))])) _
        refine XS.istoreN X0.here hx rfl (hb hby d2_106) rfl (l' := (LS_RRII r0 r1 (0 : Int32) (1 : Int32))) rfl ?_
        show Steps p.tables e below (s₁.setTop (mkF m 107 (LS_RRII r0 r1 (0 : Int32) (1 : Int32)) [])) _
        refine XS.iloadN X0.here hx rfl (hb hby d2_107) rfl ?_
        show Steps p.tables e below (s₁.setTop (mkF m 108 (LS_RRII r0 r1 (0 : Int32) (1 : Int32)) [(.int (0 : Int32))])) _
        refine XS.ifNo X0.here hx rfl (hb hby d2_108) rfl ((if0 _ _).trans (teq (by decide : (0 : Int32) = (0 : Int32))).2) ?_
        show Steps p.tables e below (s₁.setTop (mkF m 111 (LS_RRII r0 r1 (0 : Int32) (1 : Int32)) [])) _
        refine XS.iloadN X0.here hx rfl (hb hby d2_111) rfl ?_
        show Steps p.tables e below (s₁.setTop (mkF m 112 (LS_RRII r0 r1 (0 : Int32) (1 : Int32)) [(.int (1 : Int32))])) _
        refine XS.ifNo X0.here hx rfl (hb hby d2_112) rfl ((if0 _ _).trans (feq (by decide : ¬ ((1 : Int32) = (0 : Int32)))).1) ?_
        show Steps p.tables e below (s₁.setTop (mkF m 115 (LS_RRII r0 r1 (0 : Int32) (1 : Int32)) [])) _
        refine XS.iconst X0.here hx rfl (hb hby d2_115) ?_
        show Steps p.tables e below (s₁.setTop (mkF m 116 (LS_RRII r0 r1 (0 : Int32) (1 : Int32)) [(.int (1 : Int32))])) _
        refine XS.goto X0.here hx rfl (pc0 := 116) (pc' := 120) rfl (hb hby d2_116) (by decide) (by decide) ?_
        exact k
      obtain ⟨fs, hr, hrun, hended, hW, hsame⟩ := X0.leave (v := some (.int (1 : Int32))) (fun h => by rw [Bd.returns] at h; cases h)
      refine ⟨_, _, ?_, hrun, hended, _, _, rfl, ?_, ⟨_, rfl⟩, hW, hsame.mono (by decide) (by decide)⟩
      · show Steps p.tables e below (s₁.setTop (mkF m 120 (LS_RRII r0 r1 (0 : Int32) (1 : Int32)) [(.int (1 : Int32))])) _
        exact retN X0 hx (t := .boolean) Bd.returns (by simp) (hb hby d2_120) hr
      · show Q2 Z r0 r1 kq1 kq2 x0 x1 x2 x3 x4 x5 x6 h0 n0 _ s₁.heap _
        rw [e0]
        exact ⟨by rw [if_pos (Or.inr hc98_73)], N0, rfl⟩
    · refine own_go (B := s₁.setTop (mkF m 120 (LS_RRII r0 r1 (0 : Int32) (0 : Int32)) [(.int (0 : Int32))])) (fun t k => ?_) ?_
      · show Steps p.tables e below (s₁.setTop (mkF m 98 (LS_RRIu r0 r1 (0 : Int32)) [(.int (lcmpW (((((((x0 ^^^ (35747322042231467 : Int64)) ||| (x1 ^^^ (36025922209447795 : Int64))) ||| (x2 ^^^ (1084959616957103 : Int64))) ||| (x3 ^^^ (7925923977987733 : Int64))) ||| (x4 ^^^ (16551456537884751 : Int64))) ||| (x5 ^^^ (23443114579904617 : Int64))) ||| (x6 ^^^ (1829881462546425 : Int64))) (0 : Int64)))])) _
        refine XS.ifYes X0.here hx rfl (pc0 := 98) (pc' := 105) rfl (hb hby d2_98) rfl ((if0 _ _).trans (feq (fun q => hc98_73 ((lw_eq (((((((x0 ^^^ (35747322042231467 : Int64)) ||| (x1 ^^^ (36025922209447795 : Int64))) ||| (x2 ^^^ (1084959616957103 : Int64))) ||| (x3 ^^^ (7925923977987733 : Int64))) ||| (x4 ^^^ (16551456537884751 : Int64))) ||| (x5 ^^^ (23443114579904617 : Int64))) ||| (x6 ^^^ (1829881462546425 : Int64))) (0 : Int64)).mp q))).2) (by decide) (by decide) ?_
        show Steps p.tables e below (s₁.setTop (mkF m 105 (LS_RRIu r0 r1 (0 : Int32)) [])) _
        refine XS.iconst X0.here hx rfl (hb hby d2_105) ?_
        show Steps p.tables e below (s₁.setTop (mkF m 106 (LS_RRIu r0 r1 (0 : Int32)) [(.int (0 : Int32))])) _
        refine XS.istoreN X0.here hx rfl (hb hby d2_106) rfl (l' := (LS_RRII r0 r1 (0 : Int32) (0 : Int32))) rfl ?_
        show Steps p.tables e below (s₁.setTop (mkF m 107 (LS_RRII r0 r1 (0 : Int32) (0 : Int32)) [])) _
        refine XS.iloadN X0.here hx rfl (hb hby d2_107) rfl ?_
        show Steps p.tables e below (s₁.setTop (mkF m 108 (LS_RRII r0 r1 (0 : Int32) (0 : Int32)) [(.int (0 : Int32))])) _
        refine XS.ifNo X0.here hx rfl (hb hby d2_108) rfl ((if0 _ _).trans (teq (by decide : (0 : Int32) = (0 : Int32))).2) ?_
        show Steps p.tables e below (s₁.setTop (mkF m 111 (LS_RRII r0 r1 (0 : Int32) (0 : Int32)) [])) _
        refine XS.iloadN X0.here hx rfl (hb hby d2_111) rfl ?_
        show Steps p.tables e below (s₁.setTop (mkF m 112 (LS_RRII r0 r1 (0 : Int32) (0 : Int32)) [(.int (0 : Int32))])) _
        refine XS.ifYes X0.here hx rfl (pc0 := 112) (pc' := 119) rfl (hb hby d2_112) rfl ((if0 _ _).trans (teq (by decide : (0 : Int32) = (0 : Int32))).1) (by decide) (by decide) ?_
        show Steps p.tables e below (s₁.setTop (mkF m 119 (LS_RRII r0 r1 (0 : Int32) (0 : Int32)) [])) _
        refine XS.iconst X0.here hx rfl (hb hby d2_119) ?_
        exact k
      obtain ⟨fs, hr, hrun, hended, hW, hsame⟩ := X0.leave (v := some (.int (0 : Int32))) (fun h => by rw [Bd.returns] at h; cases h)
      refine ⟨_, _, ?_, hrun, hended, _, _, rfl, ?_, ⟨_, rfl⟩, hW, hsame.mono (by decide) (by decide)⟩
      · show Steps p.tables e below (s₁.setTop (mkF m 120 (LS_RRII r0 r1 (0 : Int32) (0 : Int32)) [(.int (0 : Int32))])) _
        exact retN X0 hx (t := .boolean) Bd.returns (by simp) (hb hby d2_120) hr
      · show Q2 Z r0 r1 kq1 kq2 x0 x1 x2 x3 x4 x5 x6 h0 n0 _ s₁.heap _
        rw [e0]
        exact ⟨by rw [if_neg fun q => q.elim hc30_15 hc98_73], N0, rfl⟩
theorem ef_4 (m : MethodId) (r0 : Addr) (r1 : Addr) (p2 : Int32) : entryFrame m #[(.ref r0), (.ref r1), (.int p2)] 21 = mkF m 0 #[.val (.ref r0), .val (.ref r1), .val (.int p2), .unset, .unset, .unset, .unset, .unset, .unset, .unset, .unset, .unset, .unset, .unset, .unset, .unset, .unset, .unset, .unset, .unset, .unset] [] := by first | (simp [entryFrame, mkF, argsToLocals, Value.category]; done) | rfl
theorem pn_4 : plainName "com/example/barred_rows/barredrows/crypto/Fp" = true := by first | (simp [plainName, overriddenIn]; done) | decide +kernel
abbrev LS_RRIuuuuuuuuuuuuuuuuuu (a0 : Addr) (a1 : Addr) (a2 : Int32) : Array Slot := #[.val (.ref a0), .val (.ref a1), .val (.int a2), .unset, .unset, .unset, .unset, .unset, .unset, .unset, .unset, .unset, .unset, .unset, .unset, .unset, .unset, .unset, .unset, .unset, .unset]
theorem d4_0 : decode prog_7_method_26_code 0 = .ok (.aload_n 1, 1) := by decide +kernel
theorem d4_1 : decode prog_7_method_26_code 1 = .ok (.iload_n 2, 1) := by decide +kernel
theorem d4_2 : decode prog_7_method_26_code 2 = .ok (.laload, 1) := by decide +kernel
theorem d4_3 : decode prog_7_method_26_code 3 = .ok (.getstatic 59, 3) := by decide +kernel
theorem d4_6 : decode prog_7_method_26_code 6 = .ok (.lsub, 1) := by decide +kernel
theorem d4_7 : decode prog_7_method_26_code 7 = .ok (.lstore_n 3, 1) := by decide +kernel
abbrev LS_RRIJsuuuuuuuuuuuuuuuu (a0 : Addr) (a1 : Addr) (a2 : Int32) (a3 : Int64) : Array Slot := #[.val (.ref a0), .val (.ref a1), .val (.int a2), .val (.long a3), .second, .unset, .unset, .unset, .unset, .unset, .unset, .unset, .unset, .unset, .unset, .unset, .unset, .unset, .unset, .unset, .unset]
theorem d4_8 : decode prog_7_method_26_code 8 = .ok (.lload_n 3, 1) := by decide +kernel
theorem d4_9 : decode prog_7_method_26_code 9 = .ok (.ldc2_w 57, 3) := by decide +kernel
theorem d4_12 : decode prog_7_method_26_code 12 = .ok (.land, 1) := by decide +kernel
theorem d4_13 : decode prog_7_method_26_code 13 = .ok (.lstore 5, 2) := by decide +kernel
abbrev LS_RRIJsJsuuuuuuuuuuuuuu (a0 : Addr) (a1 : Addr) (a2 : Int32) (a3 : Int64) (a4 : Int64) : Array Slot := #[.val (.ref a0), .val (.ref a1), .val (.int a2), .val (.long a3), .second, .val (.long a4), .second, .unset, .unset, .unset, .unset, .unset, .unset, .unset, .unset, .unset, .unset, .unset, .unset, .unset, .unset]
theorem d4_15 : decode prog_7_method_26_code 15 = .ok (.aload_n 1, 1) := by decide +kernel
theorem d4_16 : decode prog_7_method_26_code 16 = .ok (.iload_n 2, 1) := by decide +kernel
theorem d4_17 : decode prog_7_method_26_code 17 = .ok (.iconst 1, 1) := by decide +kernel
theorem d4_18 : decode prog_7_method_26_code 18 = .ok (.iadd, 1) := by decide +kernel
theorem d4_19 : decode prog_7_method_26_code 19 = .ok (.laload, 1) := by decide +kernel
theorem d4_20 : decode prog_7_method_26_code 20 = .ok (.getstatic 63, 3) := by decide +kernel
theorem d4_23 : decode prog_7_method_26_code 23 = .ok (.lsub, 1) := by decide +kernel
theorem d4_24 : decode prog_7_method_26_code 24 = .ok (.lload_n 3, 1) := by decide +kernel
theorem d4_25 : decode prog_7_method_26_code 25 = .ok (.bipush 63, 2) := by decide +kernel
theorem d4_27 : decode prog_7_method_26_code 27 = .ok (.lushr, 1) := by decide +kernel
theorem d4_28 : decode prog_7_method_26_code 28 = .ok (.lsub, 1) := by decide +kernel
theorem d4_29 : decode prog_7_method_26_code 29 = .ok (.lstore_n 3, 1) := by decide +kernel
theorem d4_30 : decode prog_7_method_26_code 30 = .ok (.lload_n 3, 1) := by decide +kernel
theorem d4_31 : decode prog_7_method_26_code 31 = .ok (.ldc2_w 57, 3) := by decide +kernel
theorem d4_34 : decode prog_7_method_26_code 34 = .ok (.land, 1) := by decide +kernel
theorem d4_35 : decode prog_7_method_26_code 35 = .ok (.lstore 7, 2) := by decide +kernel
abbrev LS_RRIJsJsJsuuuuuuuuuuuu (a0 : Addr) (a1 : Addr) (a2 : Int32) (a3 : Int64) (a4 : Int64) (a5 : Int64) : Array Slot := #[.val (.ref a0), .val (.ref a1), .val (.int a2), .val (.long a3), .second, .val (.long a4), .second, .val (.long a5), .second, .unset, .unset, .unset, .unset, .unset, .unset, .unset, .unset, .unset, .unset, .unset, .unset]
theorem d4_37 : decode prog_7_method_26_code 37 = .ok (.aload_n 1, 1) := by decide +kernel
theorem d4_38 : decode prog_7_method_26_code 38 = .ok (.iload_n 2, 1) := by decide +kernel
theorem d4_39 : decode prog_7_method_26_code 39 = .ok (.iconst 2, 1) := by decide +kernel
theorem d4_40 : decode prog_7_method_26_code 40 = .ok (.iadd, 1) := by decide +kernel
theorem d4_41 : decode prog_7_method_26_code 41 = .ok (.laload, 1) := by decide +kernel
theorem d4_42 : decode prog_7_method_26_code 42 = .ok (.getstatic 66, 3) := by decide +kernel
theorem d4_45 : decode prog_7_method_26_code 45 = .ok (.lsub, 1) := by decide +kernel
theorem d4_46 : decode prog_7_method_26_code 46 = .ok (.lload_n 3, 1) := by decide +kernel
theorem d4_47 : decode prog_7_method_26_code 47 = .ok (.bipush 63, 2) := by decide +kernel
theorem d4_49 : decode prog_7_method_26_code 49 = .ok (.lushr, 1) := by decide +kernel
theorem d4_50 : decode prog_7_method_26_code 50 = .ok (.lsub, 1) := by decide +kernel
theorem d4_51 : decode prog_7_method_26_code 51 = .ok (.lstore_n 3, 1) := by decide +kernel
theorem d4_52 : decode prog_7_method_26_code 52 = .ok (.lload_n 3, 1) := by decide +kernel
theorem d4_53 : decode prog_7_method_26_code 53 = .ok (.ldc2_w 57, 3) := by decide +kernel
theorem d4_56 : decode prog_7_method_26_code 56 = .ok (.land, 1) := by decide +kernel
theorem d4_57 : decode prog_7_method_26_code 57 = .ok (.lstore 9, 2) := by decide +kernel
abbrev LS_RRIJsJsJsJsuuuuuuuuuu (a0 : Addr) (a1 : Addr) (a2 : Int32) (a3 : Int64) (a4 : Int64) (a5 : Int64) (a6 : Int64) : Array Slot := #[.val (.ref a0), .val (.ref a1), .val (.int a2), .val (.long a3), .second, .val (.long a4), .second, .val (.long a5), .second, .val (.long a6), .second, .unset, .unset, .unset, .unset, .unset, .unset, .unset, .unset, .unset, .unset]
theorem d4_59 : decode prog_7_method_26_code 59 = .ok (.aload_n 1, 1) := by decide +kernel
theorem d4_60 : decode prog_7_method_26_code 60 = .ok (.iload_n 2, 1) := by decide +kernel
theorem d4_61 : decode prog_7_method_26_code 61 = .ok (.iconst 3, 1) := by decide +kernel
theorem d4_62 : decode prog_7_method_26_code 62 = .ok (.iadd, 1) := by decide +kernel
theorem d4_63 : decode prog_7_method_26_code 63 = .ok (.laload, 1) := by decide +kernel
theorem d4_64 : decode prog_7_method_26_code 64 = .ok (.getstatic 69, 3) := by decide +kernel
theorem d4_67 : decode prog_7_method_26_code 67 = .ok (.lsub, 1) := by decide +kernel
theorem d4_68 : decode prog_7_method_26_code 68 = .ok (.lload_n 3, 1) := by decide +kernel
theorem d4_69 : decode prog_7_method_26_code 69 = .ok (.bipush 63, 2) := by decide +kernel
theorem d4_71 : decode prog_7_method_26_code 71 = .ok (.lushr, 1) := by decide +kernel
theorem d4_72 : decode prog_7_method_26_code 72 = .ok (.lsub, 1) := by decide +kernel
theorem d4_73 : decode prog_7_method_26_code 73 = .ok (.lstore_n 3, 1) := by decide +kernel
theorem d4_74 : decode prog_7_method_26_code 74 = .ok (.lload_n 3, 1) := by decide +kernel
theorem d4_75 : decode prog_7_method_26_code 75 = .ok (.ldc2_w 57, 3) := by decide +kernel
theorem d4_78 : decode prog_7_method_26_code 78 = .ok (.land, 1) := by decide +kernel
theorem d4_79 : decode prog_7_method_26_code 79 = .ok (.lstore 11, 2) := by decide +kernel
abbrev LS_RRIJsJsJsJsJsuuuuuuuu (a0 : Addr) (a1 : Addr) (a2 : Int32) (a3 : Int64) (a4 : Int64) (a5 : Int64) (a6 : Int64) (a7 : Int64) : Array Slot := #[.val (.ref a0), .val (.ref a1), .val (.int a2), .val (.long a3), .second, .val (.long a4), .second, .val (.long a5), .second, .val (.long a6), .second, .val (.long a7), .second, .unset, .unset, .unset, .unset, .unset, .unset, .unset, .unset]
theorem d4_81 : decode prog_7_method_26_code 81 = .ok (.aload_n 1, 1) := by decide +kernel
theorem d4_82 : decode prog_7_method_26_code 82 = .ok (.iload_n 2, 1) := by decide +kernel
theorem d4_83 : decode prog_7_method_26_code 83 = .ok (.iconst 4, 1) := by decide +kernel
theorem d4_84 : decode prog_7_method_26_code 84 = .ok (.iadd, 1) := by decide +kernel
theorem d4_85 : decode prog_7_method_26_code 85 = .ok (.laload, 1) := by decide +kernel
theorem d4_86 : decode prog_7_method_26_code 86 = .ok (.getstatic 72, 3) := by decide +kernel
theorem d4_89 : decode prog_7_method_26_code 89 = .ok (.lsub, 1) := by decide +kernel
theorem d4_90 : decode prog_7_method_26_code 90 = .ok (.lload_n 3, 1) := by decide +kernel
theorem d4_91 : decode prog_7_method_26_code 91 = .ok (.bipush 63, 2) := by decide +kernel
theorem d4_93 : decode prog_7_method_26_code 93 = .ok (.lushr, 1) := by decide +kernel
theorem d4_94 : decode prog_7_method_26_code 94 = .ok (.lsub, 1) := by decide +kernel
theorem d4_95 : decode prog_7_method_26_code 95 = .ok (.lstore_n 3, 1) := by decide +kernel
theorem d4_96 : decode prog_7_method_26_code 96 = .ok (.lload_n 3, 1) := by decide +kernel
theorem d4_97 : decode prog_7_method_26_code 97 = .ok (.ldc2_w 57, 3) := by decide +kernel
theorem d4_100 : decode prog_7_method_26_code 100 = .ok (.land, 1) := by decide +kernel
theorem d4_101 : decode prog_7_method_26_code 101 = .ok (.lstore 13, 2) := by decide +kernel
abbrev LS_RRIJsJsJsJsJsJsuuuuuu (a0 : Addr) (a1 : Addr) (a2 : Int32) (a3 : Int64) (a4 : Int64) (a5 : Int64) (a6 : Int64) (a7 : Int64) (a8 : Int64) : Array Slot := #[.val (.ref a0), .val (.ref a1), .val (.int a2), .val (.long a3), .second, .val (.long a4), .second, .val (.long a5), .second, .val (.long a6), .second, .val (.long a7), .second, .val (.long a8), .second, .unset, .unset, .unset, .unset, .unset, .unset]
theorem d4_103 : decode prog_7_method_26_code 103 = .ok (.aload_n 1, 1) := by decide +kernel
theorem d4_104 : decode prog_7_method_26_code 104 = .ok (.iload_n 2, 1) := by decide +kernel
theorem d4_105 : decode prog_7_method_26_code 105 = .ok (.iconst 5, 1) := by decide +kernel
theorem d4_106 : decode prog_7_method_26_code 106 = .ok (.iadd, 1) := by decide +kernel
theorem d4_107 : decode prog_7_method_26_code 107 = .ok (.laload, 1) := by decide +kernel
theorem d4_108 : decode prog_7_method_26_code 108 = .ok (.getstatic 75, 3) := by decide +kernel
theorem d4_111 : decode prog_7_method_26_code 111 = .ok (.lsub, 1) := by decide +kernel
theorem d4_112 : decode prog_7_method_26_code 112 = .ok (.lload_n 3, 1) := by decide +kernel
theorem d4_113 : decode prog_7_method_26_code 113 = .ok (.bipush 63, 2) := by decide +kernel
theorem d4_115 : decode prog_7_method_26_code 115 = .ok (.lushr, 1) := by decide +kernel
theorem d4_116 : decode prog_7_method_26_code 116 = .ok (.lsub, 1) := by decide +kernel
theorem d4_117 : decode prog_7_method_26_code 117 = .ok (.lstore_n 3, 1) := by decide +kernel
theorem d4_118 : decode prog_7_method_26_code 118 = .ok (.lload_n 3, 1) := by decide +kernel
theorem d4_119 : decode prog_7_method_26_code 119 = .ok (.ldc2_w 57, 3) := by decide +kernel
theorem d4_122 : decode prog_7_method_26_code 122 = .ok (.land, 1) := by decide +kernel
theorem d4_123 : decode prog_7_method_26_code 123 = .ok (.lstore 15, 2) := by decide +kernel
abbrev LS_RRIJsJsJsJsJsJsJsuuuu (a0 : Addr) (a1 : Addr) (a2 : Int32) (a3 : Int64) (a4 : Int64) (a5 : Int64) (a6 : Int64) (a7 : Int64) (a8 : Int64) (a9 : Int64) : Array Slot := #[.val (.ref a0), .val (.ref a1), .val (.int a2), .val (.long a3), .second, .val (.long a4), .second, .val (.long a5), .second, .val (.long a6), .second, .val (.long a7), .second, .val (.long a8), .second, .val (.long a9), .second, .unset, .unset, .unset, .unset]
theorem d4_125 : decode prog_7_method_26_code 125 = .ok (.aload_n 1, 1) := by decide +kernel
theorem d4_126 : decode prog_7_method_26_code 126 = .ok (.iload_n 2, 1) := by decide +kernel
theorem d4_127 : decode prog_7_method_26_code 127 = .ok (.bipush 6, 2) := by decide +kernel
theorem d4_129 : decode prog_7_method_26_code 129 = .ok (.iadd, 1) := by decide +kernel
theorem d4_130 : decode prog_7_method_26_code 130 = .ok (.laload, 1) := by decide +kernel
theorem d4_131 : decode prog_7_method_26_code 131 = .ok (.getstatic 78, 3) := by decide +kernel
theorem d4_134 : decode prog_7_method_26_code 134 = .ok (.lsub, 1) := by decide +kernel
theorem d4_135 : decode prog_7_method_26_code 135 = .ok (.lload_n 3, 1) := by decide +kernel
theorem d4_136 : decode prog_7_method_26_code 136 = .ok (.bipush 63, 2) := by decide +kernel
theorem d4_138 : decode prog_7_method_26_code 138 = .ok (.lushr, 1) := by decide +kernel
theorem d4_139 : decode prog_7_method_26_code 139 = .ok (.lsub, 1) := by decide +kernel
theorem d4_140 : decode prog_7_method_26_code 140 = .ok (.lstore_n 3, 1) := by decide +kernel
theorem d4_141 : decode prog_7_method_26_code 141 = .ok (.lload_n 3, 1) := by decide +kernel
theorem d4_142 : decode prog_7_method_26_code 142 = .ok (.ldc2_w 57, 3) := by decide +kernel
theorem d4_145 : decode prog_7_method_26_code 145 = .ok (.land, 1) := by decide +kernel
theorem d4_146 : decode prog_7_method_26_code 146 = .ok (.lstore 17, 2) := by decide +kernel
abbrev LS_RRIJsJsJsJsJsJsJsJsuu (a0 : Addr) (a1 : Addr) (a2 : Int32) (a3 : Int64) (a4 : Int64) (a5 : Int64) (a6 : Int64) (a7 : Int64) (a8 : Int64) (a9 : Int64) (a10 : Int64) : Array Slot := #[.val (.ref a0), .val (.ref a1), .val (.int a2), .val (.long a3), .second, .val (.long a4), .second, .val (.long a5), .second, .val (.long a6), .second, .val (.long a7), .second, .val (.long a8), .second, .val (.long a9), .second, .val (.long a10), .second, .unset, .unset]
theorem d4_148 : decode prog_7_method_26_code 148 = .ok (.lload_n 3, 1) := by decide +kernel
theorem d4_149 : decode prog_7_method_26_code 149 = .ok (.bipush 63, 2) := by decide +kernel
theorem d4_151 : decode prog_7_method_26_code 151 = .ok (.lushr, 1) := by decide +kernel
theorem d4_152 : decode prog_7_method_26_code 152 = .ok (.lneg, 1) := by decide +kernel
theorem d4_153 : decode prog_7_method_26_code 153 = .ok (.lstore 19, 2) := by decide +kernel
abbrev LS_RRIJsJsJsJsJsJsJsJsJs (a0 : Addr) (a1 : Addr) (a2 : Int32) (a3 : Int64) (a4 : Int64) (a5 : Int64) (a6 : Int64) (a7 : Int64) (a8 : Int64) (a9 : Int64) (a10 : Int64) (a11 : Int64) : Array Slot := #[.val (.ref a0), .val (.ref a1), .val (.int a2), .val (.long a3), .second, .val (.long a4), .second, .val (.long a5), .second, .val (.long a6), .second, .val (.long a7), .second, .val (.long a8), .second, .val (.long a9), .second, .val (.long a10), .second, .val (.long a11), .second]
theorem d4_155 : decode prog_7_method_26_code 155 = .ok (.aload_n 0, 1) := by decide +kernel
theorem d4_156 : decode prog_7_method_26_code 156 = .ok (.iconst 0, 1) := by decide +kernel
theorem d4_157 : decode prog_7_method_26_code 157 = .ok (.aload_n 1, 1) := by decide +kernel
theorem d4_158 : decode prog_7_method_26_code 158 = .ok (.iload_n 2, 1) := by decide +kernel
theorem d4_159 : decode prog_7_method_26_code 159 = .ok (.laload, 1) := by decide +kernel
theorem d4_160 : decode prog_7_method_26_code 160 = .ok (.lload 19, 2) := by decide +kernel
theorem d4_162 : decode prog_7_method_26_code 162 = .ok (.land, 1) := by decide +kernel
theorem d4_163 : decode prog_7_method_26_code 163 = .ok (.lload 5, 2) := by decide +kernel
theorem d4_165 : decode prog_7_method_26_code 165 = .ok (.lload 19, 2) := by decide +kernel
theorem d4_167 : decode prog_7_method_26_code 167 = .ok (.ldc2_w 136, 3) := by decide +kernel
theorem d4_170 : decode prog_7_method_26_code 170 = .ok (.lxor, 1) := by decide +kernel
theorem d4_171 : decode prog_7_method_26_code 171 = .ok (.land, 1) := by decide +kernel
theorem d4_172 : decode prog_7_method_26_code 172 = .ok (.lor, 1) := by decide +kernel
theorem d4_173 : decode prog_7_method_26_code 173 = .ok (.lastore, 1) := by decide +kernel
theorem d4_174 : decode prog_7_method_26_code 174 = .ok (.aload_n 0, 1) := by decide +kernel
theorem d4_175 : decode prog_7_method_26_code 175 = .ok (.iconst 1, 1) := by decide +kernel
theorem d4_176 : decode prog_7_method_26_code 176 = .ok (.aload_n 1, 1) := by decide +kernel
theorem d4_177 : decode prog_7_method_26_code 177 = .ok (.iload_n 2, 1) := by decide +kernel
theorem d4_178 : decode prog_7_method_26_code 178 = .ok (.iconst 1, 1) := by decide +kernel
theorem d4_179 : decode prog_7_method_26_code 179 = .ok (.iadd, 1) := by decide +kernel
theorem d4_180 : decode prog_7_method_26_code 180 = .ok (.laload, 1) := by decide +kernel
theorem d4_181 : decode prog_7_method_26_code 181 = .ok (.lload 19, 2) := by decide +kernel
theorem d4_183 : decode prog_7_method_26_code 183 = .ok (.land, 1) := by decide +kernel
theorem d4_184 : decode prog_7_method_26_code 184 = .ok (.lload 7, 2) := by decide +kernel
theorem d4_186 : decode prog_7_method_26_code 186 = .ok (.lload 19, 2) := by decide +kernel
theorem d4_188 : decode prog_7_method_26_code 188 = .ok (.ldc2_w 136, 3) := by decide +kernel
theorem d4_191 : decode prog_7_method_26_code 191 = .ok (.lxor, 1) := by decide +kernel
theorem d4_192 : decode prog_7_method_26_code 192 = .ok (.land, 1) := by decide +kernel
theorem d4_193 : decode prog_7_method_26_code 193 = .ok (.lor, 1) := by decide +kernel
theorem d4_194 : decode prog_7_method_26_code 194 = .ok (.lastore, 1) := by decide +kernel
theorem d4_195 : decode prog_7_method_26_code 195 = .ok (.aload_n 0, 1) := by decide +kernel
theorem d4_196 : decode prog_7_method_26_code 196 = .ok (.iconst 2, 1) := by decide +kernel
theorem d4_197 : decode prog_7_method_26_code 197 = .ok (.aload_n 1, 1) := by decide +kernel
theorem d4_198 : decode prog_7_method_26_code 198 = .ok (.iload_n 2, 1) := by decide +kernel
theorem d4_199 : decode prog_7_method_26_code 199 = .ok (.iconst 2, 1) := by decide +kernel
theorem d4_200 : decode prog_7_method_26_code 200 = .ok (.iadd, 1) := by decide +kernel
theorem d4_201 : decode prog_7_method_26_code 201 = .ok (.laload, 1) := by decide +kernel
theorem d4_202 : decode prog_7_method_26_code 202 = .ok (.lload 19, 2) := by decide +kernel
theorem d4_204 : decode prog_7_method_26_code 204 = .ok (.land, 1) := by decide +kernel
theorem d4_205 : decode prog_7_method_26_code 205 = .ok (.lload 9, 2) := by decide +kernel
theorem d4_207 : decode prog_7_method_26_code 207 = .ok (.lload 19, 2) := by decide +kernel
theorem d4_209 : decode prog_7_method_26_code 209 = .ok (.ldc2_w 136, 3) := by decide +kernel
theorem d4_212 : decode prog_7_method_26_code 212 = .ok (.lxor, 1) := by decide +kernel
theorem d4_213 : decode prog_7_method_26_code 213 = .ok (.land, 1) := by decide +kernel
theorem d4_214 : decode prog_7_method_26_code 214 = .ok (.lor, 1) := by decide +kernel
theorem d4_215 : decode prog_7_method_26_code 215 = .ok (.lastore, 1) := by decide +kernel
theorem d4_216 : decode prog_7_method_26_code 216 = .ok (.aload_n 0, 1) := by decide +kernel
theorem d4_217 : decode prog_7_method_26_code 217 = .ok (.iconst 3, 1) := by decide +kernel
theorem d4_218 : decode prog_7_method_26_code 218 = .ok (.aload_n 1, 1) := by decide +kernel
theorem d4_219 : decode prog_7_method_26_code 219 = .ok (.iload_n 2, 1) := by decide +kernel
theorem d4_220 : decode prog_7_method_26_code 220 = .ok (.iconst 3, 1) := by decide +kernel
theorem d4_221 : decode prog_7_method_26_code 221 = .ok (.iadd, 1) := by decide +kernel
theorem d4_222 : decode prog_7_method_26_code 222 = .ok (.laload, 1) := by decide +kernel
theorem d4_223 : decode prog_7_method_26_code 223 = .ok (.lload 19, 2) := by decide +kernel
theorem d4_225 : decode prog_7_method_26_code 225 = .ok (.land, 1) := by decide +kernel
theorem d4_226 : decode prog_7_method_26_code 226 = .ok (.lload 11, 2) := by decide +kernel
theorem d4_228 : decode prog_7_method_26_code 228 = .ok (.lload 19, 2) := by decide +kernel
theorem d4_230 : decode prog_7_method_26_code 230 = .ok (.ldc2_w 136, 3) := by decide +kernel
theorem d4_233 : decode prog_7_method_26_code 233 = .ok (.lxor, 1) := by decide +kernel
theorem d4_234 : decode prog_7_method_26_code 234 = .ok (.land, 1) := by decide +kernel
theorem d4_235 : decode prog_7_method_26_code 235 = .ok (.lor, 1) := by decide +kernel
theorem d4_236 : decode prog_7_method_26_code 236 = .ok (.lastore, 1) := by decide +kernel
theorem d4_237 : decode prog_7_method_26_code 237 = .ok (.aload_n 0, 1) := by decide +kernel
theorem d4_238 : decode prog_7_method_26_code 238 = .ok (.iconst 4, 1) := by decide +kernel
theorem d4_239 : decode prog_7_method_26_code 239 = .ok (.aload_n 1, 1) := by decide +kernel
theorem d4_240 : decode prog_7_method_26_code 240 = .ok (.iload_n 2, 1) := by decide +kernel
theorem d4_241 : decode prog_7_method_26_code 241 = .ok (.iconst 4, 1) := by decide +kernel
theorem d4_242 : decode prog_7_method_26_code 242 = .ok (.iadd, 1) := by decide +kernel
theorem d4_243 : decode prog_7_method_26_code 243 = .ok (.laload, 1) := by decide +kernel
theorem d4_244 : decode prog_7_method_26_code 244 = .ok (.lload 19, 2) := by decide +kernel
theorem d4_246 : decode prog_7_method_26_code 246 = .ok (.land, 1) := by decide +kernel
theorem d4_247 : decode prog_7_method_26_code 247 = .ok (.lload 13, 2) := by decide +kernel
theorem d4_249 : decode prog_7_method_26_code 249 = .ok (.lload 19, 2) := by decide +kernel
theorem d4_251 : decode prog_7_method_26_code 251 = .ok (.ldc2_w 136, 3) := by decide +kernel
theorem d4_254 : decode prog_7_method_26_code 254 = .ok (.lxor, 1) := by decide +kernel
theorem d4_255 : decode prog_7_method_26_code 255 = .ok (.land, 1) := by decide +kernel
theorem d4_256 : decode prog_7_method_26_code 256 = .ok (.lor, 1) := by decide +kernel
theorem d4_257 : decode prog_7_method_26_code 257 = .ok (.lastore, 1) := by decide +kernel
theorem d4_258 : decode prog_7_method_26_code 258 = .ok (.aload_n 0, 1) := by decide +kernel
theorem d4_259 : decode prog_7_method_26_code 259 = .ok (.iconst 5, 1) := by decide +kernel
theorem d4_260 : decode prog_7_method_26_code 260 = .ok (.aload_n 1, 1) := by decide +kernel
theorem d4_261 : decode prog_7_method_26_code 261 = .ok (.iload_n 2, 1) := by decide +kernel
theorem d4_262 : decode prog_7_method_26_code 262 = .ok (.iconst 5, 1) := by decide +kernel
theorem d4_263 : decode prog_7_method_26_code 263 = .ok (.iadd, 1) := by decide +kernel
theorem d4_264 : decode prog_7_method_26_code 264 = .ok (.laload, 1) := by decide +kernel
theorem d4_265 : decode prog_7_method_26_code 265 = .ok (.lload 19, 2) := by decide +kernel
theorem d4_267 : decode prog_7_method_26_code 267 = .ok (.land, 1) := by decide +kernel
theorem d4_268 : decode prog_7_method_26_code 268 = .ok (.lload 15, 2) := by decide +kernel
theorem d4_270 : decode prog_7_method_26_code 270 = .ok (.lload 19, 2) := by decide +kernel
theorem d4_272 : decode prog_7_method_26_code 272 = .ok (.ldc2_w 136, 3) := by decide +kernel
theorem d4_275 : decode prog_7_method_26_code 275 = .ok (.lxor, 1) := by decide +kernel
theorem d4_276 : decode prog_7_method_26_code 276 = .ok (.land, 1) := by decide +kernel
theorem d4_277 : decode prog_7_method_26_code 277 = .ok (.lor, 1) := by decide +kernel
theorem d4_278 : decode prog_7_method_26_code 278 = .ok (.lastore, 1) := by decide +kernel
theorem d4_279 : decode prog_7_method_26_code 279 = .ok (.aload_n 0, 1) := by decide +kernel
theorem d4_280 : decode prog_7_method_26_code 280 = .ok (.bipush 6, 2) := by decide +kernel
theorem d4_282 : decode prog_7_method_26_code 282 = .ok (.aload_n 1, 1) := by decide +kernel
theorem d4_283 : decode prog_7_method_26_code 283 = .ok (.iload_n 2, 1) := by decide +kernel
theorem d4_284 : decode prog_7_method_26_code 284 = .ok (.bipush 6, 2) := by decide +kernel
theorem d4_286 : decode prog_7_method_26_code 286 = .ok (.iadd, 1) := by decide +kernel
theorem d4_287 : decode prog_7_method_26_code 287 = .ok (.laload, 1) := by decide +kernel
theorem d4_288 : decode prog_7_method_26_code 288 = .ok (.lload 19, 2) := by decide +kernel
theorem d4_290 : decode prog_7_method_26_code 290 = .ok (.land, 1) := by decide +kernel
theorem d4_291 : decode prog_7_method_26_code 291 = .ok (.lload 17, 2) := by decide +kernel
theorem d4_293 : decode prog_7_method_26_code 293 = .ok (.lload 19, 2) := by decide +kernel
theorem d4_295 : decode prog_7_method_26_code 295 = .ok (.ldc2_w 136, 3) := by decide +kernel
theorem d4_298 : decode prog_7_method_26_code 298 = .ok (.lxor, 1) := by decide +kernel
theorem d4_299 : decode prog_7_method_26_code 299 = .ok (.land, 1) := by decide +kernel
theorem d4_300 : decode prog_7_method_26_code 300 = .ok (.lor, 1) := by decide +kernel
theorem d4_301 : decode prog_7_method_26_code 301 = .ok (.lastore, 1) := by decide +kernel
theorem d4_302 : decode prog_7_method_26_code 302 = .ok (.return_, 1) := by decide +kernel
def Q4 (Z : State) (r0 : Addr) (r1 : Addr) (p2 : Int32) (kq1 : ClassId) (cl : Cell) (x0 x1 x2 x3 x4 x5 x6 : Int64) (h0 : Heap) (n0 : Nat) (v : Option Value) (h : Heap) (L : List Loc) : Prop := v = none ∧ Fr n0 L ∧ Keep h0 h [r0] ∧ Arv Z h r0 kq1 .long (7 : Int32) [(.long (own_c0 x0 x1 x2 x3 x4 x5 x6)), (.long (own_c1 x0 x1 x2 x3 x4 x5 x6)), (.long (own_c2 x0 x1 x2 x3 x4 x5 x6)), (.long (own_c3 x0 x1 x2 x3 x4 x5 x6)), (.long (own_c4 x0 x1 x2 x3 x4 x5 x6)), (.long (own_c5 x0 x1 x2 x3 x4 x5 x6)), (.long (own_c6 x0 x1 x2 x3 x4 x5 x6))] (.long (0 : Int64))
set_option maxRecDepth 65536 in
set_option maxHeartbeats 40000000 in
theorem rm4 (l : Launch) (Z : State) (a0 : Array Value) (hw : ∀ d ∈ tables_1, d.before a0 Z = true) (ws : List Jvm.Cond) (r0 : Addr) (r1 : Addr) (p2 : Int32) (kq1 : ClassId) (cl : Cell) (x0 x1 x2 x3 x4 x5 x6 : Int64) (h0 : Heap) (n0 : Nat) (Z0 : n0 ≤ h0.size) (Vq1 : Arv Z h0 r0 kq1 .long (7 : Int32) [(.long (0 : Int64)), (.long (0 : Int64)), (.long (0 : Int64)), (.long (0 : Int64)), (.long (0 : Int64)), (.long (0 : Int64)), (.long (0 : Int64))] (.long (0 : Int64))) (Aq1 : Arr Z h0 r1 cl .long) (hin0 : ¬ (p2 < 0 ∨ cl.slots.size ≤ (p2).toNatClampNeg)) (hin1 : ¬ ((p2 + (1 : Int32)) < 0 ∨ cl.slots.size ≤ ((p2 + (1 : Int32))).toNatClampNeg)) (hin2 : ¬ ((p2 + (2 : Int32)) < 0 ∨ cl.slots.size ≤ ((p2 + (2 : Int32))).toNatClampNeg)) (hin3 : ¬ ((p2 + (3 : Int32)) < 0 ∨ cl.slots.size ≤ ((p2 + (3 : Int32))).toNatClampNeg)) (hin4 : ¬ ((p2 + (4 : Int32)) < 0 ∨ cl.slots.size ≤ ((p2 + (4 : Int32))).toNatClampNeg)) (hin5 : ¬ ((p2 + (5 : Int32)) < 0 ∨ cl.slots.size ≤ ((p2 + (5 : Int32))).toNatClampNeg)) (hin6 : ¬ ((p2 + (6 : Int32)) < 0 ∨ cl.slots.size ≤ ((p2 + (6 : Int32))).toNatClampNeg)) (hat0 : cl.slots[(p2).toNatClampNeg]? = some (.long x0)) (hat1 : cl.slots[((p2 + (1 : Int32))).toNatClampNeg]? = some (.long x1)) (hat2 : cl.slots[((p2 + (2 : Int32))).toNatClampNeg]? = some (.long x2)) (hat3 : cl.slots[((p2 + (3 : Int32))).toNatClampNeg]? = some (.long x3)) (hat4 : cl.slots[((p2 + (4 : Int32))).toNatClampNeg]? = some (.long x4)) (hat5 : cl.slots[((p2 + (5 : Int32))).toNatClampNeg]? = some (.long x5)) (hat6 : cl.slots[((p2 + (6 : Int32))).toNatClampNeg]? = some (.long x6)) (S0 : Sta Z h0 "com/example/barred_rows/barredrows/crypto/Fp" "P0" "J" (.long (35747322042231467 : Int64))) (S1 : Sta Z h0 "com/example/barred_rows/barredrows/crypto/Fp" "P1" "J" (.long (36025922209447795 : Int64))) (S2 : Sta Z h0 "com/example/barred_rows/barredrows/crypto/Fp" "P2" "J" (.long (1084959616957103 : Int64))) (S3 : Sta Z h0 "com/example/barred_rows/barredrows/crypto/Fp" "P3" "J" (.long (7925923977987733 : Int64))) (S4 : Sta Z h0 "com/example/barred_rows/barredrows/crypto/Fp" "P4" "J" (.long (16551456537884751 : Int64))) (S5 : Sta Z h0 "com/example/barred_rows/barredrows/crypto/Fp" "P5" "J" (.long (23443114579904617 : Int64))) (S6 : Sta Z h0 "com/example/barred_rows/barredrows/crypto/Fp" "P6" "J" (.long (1829881462546425 : Int64))) (hne : r1 ≠ r0) (g_r0 : n0 ≤ r0) :
    MetFree l (⟨"com/example/barred_rows/barredrows/crypto/Fp", "canonical", "([J[JI)V"⟩ : MethodName) (head1 (Jvm.Cond.code (⟨"com/example/barred_rows/barredrows/crypto/Fp", "canonical", "([J[JI)V"⟩ : MethodName) prog_7_method_26_code 21 none :: ws) ({ frames := 0, cells := 0, slots := 0, locals := 0 } : Room)) (fun a U => a = #[(.ref r0), (.ref r1), (.int p2)] ∧ Z.Warmed39 U.vm ∧ U.heap = h0) (fun _ _ _ _ _ => True) (fun _ U o U' => ∃ v L, o = .returned v ∧ Q4 Z r0 r1 p2 kq1 cl x0 x1 x2 x3 x4 x5 x6 h0 n0 v U'.heap L ∧ FrameEnd U o U' L ({ frames := 0, cells := 0, slots := 0, locals := 0 } : Room).cells ({ frames := 0, cells := 0, slots := 0, locals := 0 } : Room).slots) := by
  refine MetFree.of_bodySF (plainFor_of_name pn_4) hisR ?_
  intro p e s m args below meth c s₁ Bd hml0 hP hK
  obtain ⟨rfl, hZ, hh⟩ := hP
  have hx := Bd.exec
  have hby := Bd.bytes
  have hml : c.maxLocals = 21 := hml0
  have hown : s.vm.findClass "com/example/barred_rows/barredrows/crypto/Fp" = some m.cls := findClass_of_methodNamed Bd.named
  have hnm := (name_of_methodNamed Bd.named Bd.method).1
  have X0 : Stand p l e ({ frames := 0, cells := 0, slots := 0, locals := 0 } : Room) s m #[(.ref r0), (.ref r1), (.int p2)] below meth c s₁ [] 0 0 := Stand.of_body Bd
  have e0 : s₁.heap = h0 := by rw [← hh, Bd.state]; rfl
  have N0 := Fr.nil n0
  refine own_go (B := s₁.setTop (mkF m 0 (LS_RRIuuuuuuuuuuuuuuuuuu r0 r1 p2) [])) (fun t k => castTop (ef_4 m r0 r1 p2) k) ?_
  have K0 : Keep h0 h0 [r0] := Keep.refl _ _
  refine own_go (B := s₁.setTop (mkF m 3 (LS_RRIuuuuuuuuuuuuuuuuuu r0 r1 p2) [(.long x0)])) (fun t k => ?_) ?_
  · show Steps p.tables e below (s₁.setTop (mkF m 0 (LS_RRIuuuuuuuuuuuuuuuuuu r0 r1 p2) [])) _
    refine XS.aloadN X0.here hx rfl (hb hby d4_0) rfl rfl ?_
    show Steps p.tables e below (s₁.setTop (mkF m 1 (LS_RRIuuuuuuuuuuuuuuuuuu r0 r1 p2) [(.ref r1)])) _
    refine XS.iloadN X0.here hx rfl (hb hby d4_1) rfl ?_
    show Steps p.tables e below (s₁.setTop (mkF m 2 (LS_RRIuuuuuuuuuuuuuuuuuu r0 r1 p2) [(.int p2), (.ref r1)])) _
    refine X0.laload hx (j := p2) (v := (.long x0)) (by rw [e0]; exact Aq1.1) (State.isArrayOf_alike hZ.alike Aq1.2.1) Aq1.2.2 hin0 hat0 (g := (mkF m 2 (LS_RRIuuuuuuuuuuuuuuuuuu r0 r1 p2) [(.int p2), (.ref r1)])) rfl rfl (hb hby d4_2) _ ?_
    exact k
  obtain ⟨T1, X1, e1, st1⟩ := getS2 X0 hx hZ hown (host := "") (Or.inl (hw _ (List.mem_of_getElem? (i := 22) rfl))) Via.refl e0 S0 (g := (mkF m 3 (LS_RRIuuuuuuuuuuuuuuuuuu r0 r1 p2) [(.long x0)])) rfl (hb hby d4_3)
  refine own_go (B := T1.setTop (mkF m 6 (LS_RRIuuuuuuuuuuuuuuuuuu r0 r1 p2) [(.long (35747322042231467 : Int64)), (.long x0)])) (fun t k => st1 _ k) ?_
  refine own_go (B := T1.setTop (mkF m 8 (LS_RRIJsuuuuuuuuuuuuuuuu r0 r1 p2 (x0 - (35747322042231467 : Int64))) [])) (fun t k => ?_) ?_
  · show Steps p.tables e below (T1.setTop (mkF m 6 (LS_RRIuuuuuuuuuuuuuuuuuu r0 r1 p2) [(.long (35747322042231467 : Int64)), (.long x0)])) _
    refine XS.lsub X1.here hx rfl (hb hby d4_6) rfl ?_
    show Steps p.tables e below (T1.setTop (mkF m 7 (LS_RRIuuuuuuuuuuuuuuuuuu r0 r1 p2) [(.long (x0 - (35747322042231467 : Int64)))])) _
    refine XS.lstoreN X1.here hx rfl (hb hby d4_7) rfl (l' := (LS_RRIJsuuuuuuuuuuuuuuuu r0 r1 p2 (x0 - (35747322042231467 : Int64)))) rfl ?_
    exact k
  obtain ⟨z2, hz2⟩ : ∃ z, z = (x0 - (35747322042231467 : Int64)) := ⟨_, rfl⟩
  refine own_go (B := T1.setTop (mkF m 8 (LS_RRIJsuuuuuuuuuuuuuuuu r0 r1 p2 z2) [])) (fun t k => by rw [hz2] at k; exact k) ?_
  refine own_go (B := T1.setTop (mkF m 15 (LS_RRIJsJsuuuuuuuuuuuuuu r0 r1 p2 z2 (z2 &&& (36028797018963967 : Int64))) [])) (fun t k => ?_) ?_
  · show Steps p.tables e below (T1.setTop (mkF m 8 (LS_RRIJsuuuuuuuuuuuuuuuu r0 r1 p2 z2) [])) _
    refine XS.lloadN X1.here hx rfl (hb hby d4_8) rfl ?_
    show Steps p.tables e below (T1.setTop (mkF m 9 (LS_RRIJsuuuuuuuuuuuuuuuu r0 r1 p2 z2) [(.long z2)])) _
    refine X1.ldc2Long hx hown (mvT hZ (hw _ (List.mem_of_getElem? (i := 24) rfl))) (g := (mkF m 9 (LS_RRIJsuuuuuuuuuuuuuuuu r0 r1 p2 z2) [(.long z2)])) rfl (hb hby d4_9) _ ?_
    show Steps p.tables e below (T1.setTop (mkF m 12 (LS_RRIJsuuuuuuuuuuuuuuuu r0 r1 p2 z2) [(.long (36028797018963967 : Int64)), (.long z2)])) _
    refine XS.land X1.here hx rfl (hb hby d4_12) rfl ?_
    show Steps p.tables e below (T1.setTop (mkF m 13 (LS_RRIJsuuuuuuuuuuuuuuuu r0 r1 p2 z2) [(.long (z2 &&& (36028797018963967 : Int64)))])) _
    refine XS.lstore X1.here hx rfl (hb hby d4_13) rfl (l' := (LS_RRIJsJsuuuuuuuuuuuuuu r0 r1 p2 z2 (z2 &&& (36028797018963967 : Int64)))) rfl ?_
    exact k
  obtain ⟨z3, hz3⟩ : ∃ z, z = (z2 &&& (36028797018963967 : Int64)) := ⟨_, rfl⟩
  refine own_go (B := T1.setTop (mkF m 15 (LS_RRIJsJsuuuuuuuuuuuuuu r0 r1 p2 z2 z3) [])) (fun t k => by rw [hz3] at k; exact k) ?_
  refine own_go (B := T1.setTop (mkF m 20 (LS_RRIJsJsuuuuuuuuuuuuuu r0 r1 p2 z2 z3) [(.long x1)])) (fun t k => ?_) ?_
  · show Steps p.tables e below (T1.setTop (mkF m 15 (LS_RRIJsJsuuuuuuuuuuuuuu r0 r1 p2 z2 z3) [])) _
    refine XS.aloadN X1.here hx rfl (hb hby d4_15) rfl rfl ?_
    show Steps p.tables e below (T1.setTop (mkF m 16 (LS_RRIJsJsuuuuuuuuuuuuuu r0 r1 p2 z2 z3) [(.ref r1)])) _
    refine XS.iloadN X1.here hx rfl (hb hby d4_16) rfl ?_
    show Steps p.tables e below (T1.setTop (mkF m 17 (LS_RRIJsJsuuuuuuuuuuuuuu r0 r1 p2 z2 z3) [(.int p2), (.ref r1)])) _
    refine XS.iconst X1.here hx rfl (hb hby d4_17) ?_
    show Steps p.tables e below (T1.setTop (mkF m 18 (LS_RRIJsJsuuuuuuuuuuuuuu r0 r1 p2 z2 z3) [(.int (1 : Int32)), (.int p2), (.ref r1)])) _
    refine XS.iadd X1.here hx rfl (hb hby d4_18) rfl ?_
    show Steps p.tables e below (T1.setTop (mkF m 19 (LS_RRIJsJsuuuuuuuuuuuuuu r0 r1 p2 z2 z3) [(.int (p2 + (1 : Int32))), (.ref r1)])) _
    refine X1.laload hx (j := (p2 + (1 : Int32))) (v := (.long x1)) (by rw [e1]; exact Aq1.1) (State.isArrayOf_alike hZ.alike Aq1.2.1) Aq1.2.2 hin1 hat1 (g := (mkF m 19 (LS_RRIJsJsuuuuuuuuuuuuuu r0 r1 p2 z2 z3) [(.int (p2 + (1 : Int32))), (.ref r1)])) rfl rfl (hb hby d4_19) _ ?_
    exact k
  obtain ⟨T4, X4, e4, st4⟩ := getS2 X1 hx hZ hown (host := "") (Or.inl (hw _ (List.mem_of_getElem? (i := 25) rfl))) Via.refl e1 S1 (g := (mkF m 20 (LS_RRIJsJsuuuuuuuuuuuuuu r0 r1 p2 z2 z3) [(.long x1)])) rfl (hb hby d4_20)
  refine own_go (B := T4.setTop (mkF m 23 (LS_RRIJsJsuuuuuuuuuuuuuu r0 r1 p2 z2 z3) [(.long (36025922209447795 : Int64)), (.long x1)])) (fun t k => st4 _ k) ?_
  refine own_go (B := T4.setTop (mkF m 30 (LS_RRIJsJsuuuuuuuuuuuuuu r0 r1 p2 ((x1 - (36025922209447795 : Int64)) - ((z2.toUInt64 >>> ((63 : Int32) &&& 0x3f).toInt64.toUInt64).toInt64)) z3) [])) (fun t k => ?_) ?_
  · show Steps p.tables e below (T4.setTop (mkF m 23 (LS_RRIJsJsuuuuuuuuuuuuuu r0 r1 p2 z2 z3) [(.long (36025922209447795 : Int64)), (.long x1)])) _
    refine XS.lsub X4.here hx rfl (hb hby d4_23) rfl ?_
    show Steps p.tables e below (T4.setTop (mkF m 24 (LS_RRIJsJsuuuuuuuuuuuuuu r0 r1 p2 z2 z3) [(.long (x1 - (36025922209447795 : Int64)))])) _
    refine XS.lloadN X4.here hx rfl (hb hby d4_24) rfl ?_
    show Steps p.tables e below (T4.setTop (mkF m 25 (LS_RRIJsJsuuuuuuuuuuuuuu r0 r1 p2 z2 z3) [(.long z2), (.long (x1 - (36025922209447795 : Int64)))])) _
    refine XS.bipush X4.here hx rfl (hb hby d4_25) ?_
    show Steps p.tables e below (T4.setTop (mkF m 27 (LS_RRIJsJsuuuuuuuuuuuuuu r0 r1 p2 z2 z3) [(.int (63 : Int32)), (.long z2), (.long (x1 - (36025922209447795 : Int64)))])) _
    refine XS.lushr X4.here hx rfl (hb hby d4_27) rfl ?_
    show Steps p.tables e below (T4.setTop (mkF m 28 (LS_RRIJsJsuuuuuuuuuuuuuu r0 r1 p2 z2 z3) [(.long ((z2.toUInt64 >>> ((63 : Int32) &&& 0x3f).toInt64.toUInt64).toInt64)), (.long (x1 - (36025922209447795 : Int64)))])) _
    refine XS.lsub X4.here hx rfl (hb hby d4_28) rfl ?_
    show Steps p.tables e below (T4.setTop (mkF m 29 (LS_RRIJsJsuuuuuuuuuuuuuu r0 r1 p2 z2 z3) [(.long ((x1 - (36025922209447795 : Int64)) - ((z2.toUInt64 >>> ((63 : Int32) &&& 0x3f).toInt64.toUInt64).toInt64)))])) _
    refine XS.lstoreN X4.here hx rfl (hb hby d4_29) rfl (l' := (LS_RRIJsJsuuuuuuuuuuuuuu r0 r1 p2 ((x1 - (36025922209447795 : Int64)) - ((z2.toUInt64 >>> ((63 : Int32) &&& 0x3f).toInt64.toUInt64).toInt64)) z3)) rfl ?_
    exact k
  obtain ⟨z5, hz5⟩ : ∃ z, z = ((x1 - (36025922209447795 : Int64)) - ((z2.toUInt64 >>> ((63 : Int32) &&& 0x3f).toInt64.toUInt64).toInt64)) := ⟨_, rfl⟩
  refine own_go (B := T4.setTop (mkF m 30 (LS_RRIJsJsuuuuuuuuuuuuuu r0 r1 p2 z5 z3) [])) (fun t k => by rw [hz5] at k; exact k) ?_
  refine own_go (B := T4.setTop (mkF m 37 (LS_RRIJsJsJsuuuuuuuuuuuu r0 r1 p2 z5 z3 (z5 &&& (36028797018963967 : Int64))) [])) (fun t k => ?_) ?_
  · show Steps p.tables e below (T4.setTop (mkF m 30 (LS_RRIJsJsuuuuuuuuuuuuuu r0 r1 p2 z5 z3) [])) _
    refine XS.lloadN X4.here hx rfl (hb hby d4_30) rfl ?_
    show Steps p.tables e below (T4.setTop (mkF m 31 (LS_RRIJsJsuuuuuuuuuuuuuu r0 r1 p2 z5 z3) [(.long z5)])) _
    refine X4.ldc2Long hx hown (mvT hZ (hw _ (List.mem_of_getElem? (i := 24) rfl))) (g := (mkF m 31 (LS_RRIJsJsuuuuuuuuuuuuuu r0 r1 p2 z5 z3) [(.long z5)])) rfl (hb hby d4_31) _ ?_
    show Steps p.tables e below (T4.setTop (mkF m 34 (LS_RRIJsJsuuuuuuuuuuuuuu r0 r1 p2 z5 z3) [(.long (36028797018963967 : Int64)), (.long z5)])) _
    refine XS.land X4.here hx rfl (hb hby d4_34) rfl ?_
    show Steps p.tables e below (T4.setTop (mkF m 35 (LS_RRIJsJsuuuuuuuuuuuuuu r0 r1 p2 z5 z3) [(.long (z5 &&& (36028797018963967 : Int64)))])) _
    refine XS.lstore X4.here hx rfl (hb hby d4_35) rfl (l' := (LS_RRIJsJsJsuuuuuuuuuuuu r0 r1 p2 z5 z3 (z5 &&& (36028797018963967 : Int64)))) rfl ?_
    exact k
  obtain ⟨z6, hz6⟩ : ∃ z, z = (z5 &&& (36028797018963967 : Int64)) := ⟨_, rfl⟩
  refine own_go (B := T4.setTop (mkF m 37 (LS_RRIJsJsJsuuuuuuuuuuuu r0 r1 p2 z5 z3 z6) [])) (fun t k => by rw [hz6] at k; exact k) ?_
  refine own_go (B := T4.setTop (mkF m 42 (LS_RRIJsJsJsuuuuuuuuuuuu r0 r1 p2 z5 z3 z6) [(.long x2)])) (fun t k => ?_) ?_
  · show Steps p.tables e below (T4.setTop (mkF m 37 (LS_RRIJsJsJsuuuuuuuuuuuu r0 r1 p2 z5 z3 z6) [])) _
    refine XS.aloadN X4.here hx rfl (hb hby d4_37) rfl rfl ?_
    show Steps p.tables e below (T4.setTop (mkF m 38 (LS_RRIJsJsJsuuuuuuuuuuuu r0 r1 p2 z5 z3 z6) [(.ref r1)])) _
    refine XS.iloadN X4.here hx rfl (hb hby d4_38) rfl ?_
    show Steps p.tables e below (T4.setTop (mkF m 39 (LS_RRIJsJsJsuuuuuuuuuuuu r0 r1 p2 z5 z3 z6) [(.int p2), (.ref r1)])) _
    refine XS.iconst X4.here hx rfl (hb hby d4_39) ?_
    show Steps p.tables e below (T4.setTop (mkF m 40 (LS_RRIJsJsJsuuuuuuuuuuuu r0 r1 p2 z5 z3 z6) [(.int (2 : Int32)), (.int p2), (.ref r1)])) _
    refine XS.iadd X4.here hx rfl (hb hby d4_40) rfl ?_
    show Steps p.tables e below (T4.setTop (mkF m 41 (LS_RRIJsJsJsuuuuuuuuuuuu r0 r1 p2 z5 z3 z6) [(.int (p2 + (2 : Int32))), (.ref r1)])) _
    refine X4.laload hx (j := (p2 + (2 : Int32))) (v := (.long x2)) (by rw [e4]; exact Aq1.1) (State.isArrayOf_alike hZ.alike Aq1.2.1) Aq1.2.2 hin2 hat2 (g := (mkF m 41 (LS_RRIJsJsJsuuuuuuuuuuuu r0 r1 p2 z5 z3 z6) [(.int (p2 + (2 : Int32))), (.ref r1)])) rfl rfl (hb hby d4_41) _ ?_
    exact k
  obtain ⟨T7, X7, e7, st7⟩ := getS2 X4 hx hZ hown (host := "") (Or.inl (hw _ (List.mem_of_getElem? (i := 27) rfl))) Via.refl e4 S2 (g := (mkF m 42 (LS_RRIJsJsJsuuuuuuuuuuuu r0 r1 p2 z5 z3 z6) [(.long x2)])) rfl (hb hby d4_42)
  refine own_go (B := T7.setTop (mkF m 45 (LS_RRIJsJsJsuuuuuuuuuuuu r0 r1 p2 z5 z3 z6) [(.long (1084959616957103 : Int64)), (.long x2)])) (fun t k => st7 _ k) ?_
  refine own_go (B := T7.setTop (mkF m 52 (LS_RRIJsJsJsuuuuuuuuuuuu r0 r1 p2 ((x2 - (1084959616957103 : Int64)) - ((z5.toUInt64 >>> ((63 : Int32) &&& 0x3f).toInt64.toUInt64).toInt64)) z3 z6) [])) (fun t k => ?_) ?_
  · show Steps p.tables e below (T7.setTop (mkF m 45 (LS_RRIJsJsJsuuuuuuuuuuuu r0 r1 p2 z5 z3 z6) [(.long (1084959616957103 : Int64)), (.long x2)])) _
    refine XS.lsub X7.here hx rfl (hb hby d4_45) rfl ?_
    show Steps p.tables e below (T7.setTop (mkF m 46 (LS_RRIJsJsJsuuuuuuuuuuuu r0 r1 p2 z5 z3 z6) [(.long (x2 - (1084959616957103 : Int64)))])) _
    refine XS.lloadN X7.here hx rfl (hb hby d4_46) rfl ?_
    show Steps p.tables e below (T7.setTop (mkF m 47 (LS_RRIJsJsJsuuuuuuuuuuuu r0 r1 p2 z5 z3 z6) [(.long z5), (.long (x2 - (1084959616957103 : Int64)))])) _
    refine XS.bipush X7.here hx rfl (hb hby d4_47) ?_
    show Steps p.tables e below (T7.setTop (mkF m 49 (LS_RRIJsJsJsuuuuuuuuuuuu r0 r1 p2 z5 z3 z6) [(.int (63 : Int32)), (.long z5), (.long (x2 - (1084959616957103 : Int64)))])) _
    refine XS.lushr X7.here hx rfl (hb hby d4_49) rfl ?_
    show Steps p.tables e below (T7.setTop (mkF m 50 (LS_RRIJsJsJsuuuuuuuuuuuu r0 r1 p2 z5 z3 z6) [(.long ((z5.toUInt64 >>> ((63 : Int32) &&& 0x3f).toInt64.toUInt64).toInt64)), (.long (x2 - (1084959616957103 : Int64)))])) _
    refine XS.lsub X7.here hx rfl (hb hby d4_50) rfl ?_
    show Steps p.tables e below (T7.setTop (mkF m 51 (LS_RRIJsJsJsuuuuuuuuuuuu r0 r1 p2 z5 z3 z6) [(.long ((x2 - (1084959616957103 : Int64)) - ((z5.toUInt64 >>> ((63 : Int32) &&& 0x3f).toInt64.toUInt64).toInt64)))])) _
    refine XS.lstoreN X7.here hx rfl (hb hby d4_51) rfl (l' := (LS_RRIJsJsJsuuuuuuuuuuuu r0 r1 p2 ((x2 - (1084959616957103 : Int64)) - ((z5.toUInt64 >>> ((63 : Int32) &&& 0x3f).toInt64.toUInt64).toInt64)) z3 z6)) rfl ?_
    exact k
  obtain ⟨z8, hz8⟩ : ∃ z, z = ((x2 - (1084959616957103 : Int64)) - ((z5.toUInt64 >>> ((63 : Int32) &&& 0x3f).toInt64.toUInt64).toInt64)) := ⟨_, rfl⟩
  refine own_go (B := T7.setTop (mkF m 52 (LS_RRIJsJsJsuuuuuuuuuuuu r0 r1 p2 z8 z3 z6) [])) (fun t k => by rw [hz8] at k; exact k) ?_
  refine own_go (B := T7.setTop (mkF m 59 (LS_RRIJsJsJsJsuuuuuuuuuu r0 r1 p2 z8 z3 z6 (z8 &&& (36028797018963967 : Int64))) [])) (fun t k => ?_) ?_
  · show Steps p.tables e below (T7.setTop (mkF m 52 (LS_RRIJsJsJsuuuuuuuuuuuu r0 r1 p2 z8 z3 z6) [])) _
    refine XS.lloadN X7.here hx rfl (hb hby d4_52) rfl ?_
    show Steps p.tables e below (T7.setTop (mkF m 53 (LS_RRIJsJsJsuuuuuuuuuuuu r0 r1 p2 z8 z3 z6) [(.long z8)])) _
    refine X7.ldc2Long hx hown (mvT hZ (hw _ (List.mem_of_getElem? (i := 24) rfl))) (g := (mkF m 53 (LS_RRIJsJsJsuuuuuuuuuuuu r0 r1 p2 z8 z3 z6) [(.long z8)])) rfl (hb hby d4_53) _ ?_
    show Steps p.tables e below (T7.setTop (mkF m 56 (LS_RRIJsJsJsuuuuuuuuuuuu r0 r1 p2 z8 z3 z6) [(.long (36028797018963967 : Int64)), (.long z8)])) _
    refine XS.land X7.here hx rfl (hb hby d4_56) rfl ?_
    show Steps p.tables e below (T7.setTop (mkF m 57 (LS_RRIJsJsJsuuuuuuuuuuuu r0 r1 p2 z8 z3 z6) [(.long (z8 &&& (36028797018963967 : Int64)))])) _
    refine XS.lstore X7.here hx rfl (hb hby d4_57) rfl (l' := (LS_RRIJsJsJsJsuuuuuuuuuu r0 r1 p2 z8 z3 z6 (z8 &&& (36028797018963967 : Int64)))) rfl ?_
    exact k
  obtain ⟨z9, hz9⟩ : ∃ z, z = (z8 &&& (36028797018963967 : Int64)) := ⟨_, rfl⟩
  refine own_go (B := T7.setTop (mkF m 59 (LS_RRIJsJsJsJsuuuuuuuuuu r0 r1 p2 z8 z3 z6 z9) [])) (fun t k => by rw [hz9] at k; exact k) ?_
  refine own_go (B := T7.setTop (mkF m 64 (LS_RRIJsJsJsJsuuuuuuuuuu r0 r1 p2 z8 z3 z6 z9) [(.long x3)])) (fun t k => ?_) ?_
  · show Steps p.tables e below (T7.setTop (mkF m 59 (LS_RRIJsJsJsJsuuuuuuuuuu r0 r1 p2 z8 z3 z6 z9) [])) _
    refine XS.aloadN X7.here hx rfl (hb hby d4_59) rfl rfl ?_
    show Steps p.tables e below (T7.setTop (mkF m 60 (LS_RRIJsJsJsJsuuuuuuuuuu r0 r1 p2 z8 z3 z6 z9) [(.ref r1)])) _
    refine XS.iloadN X7.here hx rfl (hb hby d4_60) rfl ?_
    show Steps p.tables e below (T7.setTop (mkF m 61 (LS_RRIJsJsJsJsuuuuuuuuuu r0 r1 p2 z8 z3 z6 z9) [(.int p2), (.ref r1)])) _
    refine XS.iconst X7.here hx rfl (hb hby d4_61) ?_
    show Steps p.tables e below (T7.setTop (mkF m 62 (LS_RRIJsJsJsJsuuuuuuuuuu r0 r1 p2 z8 z3 z6 z9) [(.int (3 : Int32)), (.int p2), (.ref r1)])) _
    refine XS.iadd X7.here hx rfl (hb hby d4_62) rfl ?_
    show Steps p.tables e below (T7.setTop (mkF m 63 (LS_RRIJsJsJsJsuuuuuuuuuu r0 r1 p2 z8 z3 z6 z9) [(.int (p2 + (3 : Int32))), (.ref r1)])) _
    refine X7.laload hx (j := (p2 + (3 : Int32))) (v := (.long x3)) (by rw [e7]; exact Aq1.1) (State.isArrayOf_alike hZ.alike Aq1.2.1) Aq1.2.2 hin3 hat3 (g := (mkF m 63 (LS_RRIJsJsJsJsuuuuuuuuuu r0 r1 p2 z8 z3 z6 z9) [(.int (p2 + (3 : Int32))), (.ref r1)])) rfl rfl (hb hby d4_63) _ ?_
    exact k
  obtain ⟨T10, X10, e10, st10⟩ := getS2 X7 hx hZ hown (host := "") (Or.inl (hw _ (List.mem_of_getElem? (i := 29) rfl))) Via.refl e7 S3 (g := (mkF m 64 (LS_RRIJsJsJsJsuuuuuuuuuu r0 r1 p2 z8 z3 z6 z9) [(.long x3)])) rfl (hb hby d4_64)
  refine own_go (B := T10.setTop (mkF m 67 (LS_RRIJsJsJsJsuuuuuuuuuu r0 r1 p2 z8 z3 z6 z9) [(.long (7925923977987733 : Int64)), (.long x3)])) (fun t k => st10 _ k) ?_
  refine own_go (B := T10.setTop (mkF m 74 (LS_RRIJsJsJsJsuuuuuuuuuu r0 r1 p2 ((x3 - (7925923977987733 : Int64)) - ((z8.toUInt64 >>> ((63 : Int32) &&& 0x3f).toInt64.toUInt64).toInt64)) z3 z6 z9) [])) (fun t k => ?_) ?_
  · show Steps p.tables e below (T10.setTop (mkF m 67 (LS_RRIJsJsJsJsuuuuuuuuuu r0 r1 p2 z8 z3 z6 z9) [(.long (7925923977987733 : Int64)), (.long x3)])) _
    refine XS.lsub X10.here hx rfl (hb hby d4_67) rfl ?_
    show Steps p.tables e below (T10.setTop (mkF m 68 (LS_RRIJsJsJsJsuuuuuuuuuu r0 r1 p2 z8 z3 z6 z9) [(.long (x3 - (7925923977987733 : Int64)))])) _
    refine XS.lloadN X10.here hx rfl (hb hby d4_68) rfl ?_
    show Steps p.tables e below (T10.setTop (mkF m 69 (LS_RRIJsJsJsJsuuuuuuuuuu r0 r1 p2 z8 z3 z6 z9) [(.long z8), (.long (x3 - (7925923977987733 : Int64)))])) _
    refine XS.bipush X10.here hx rfl (hb hby d4_69) ?_
    show Steps p.tables e below (T10.setTop (mkF m 71 (LS_RRIJsJsJsJsuuuuuuuuuu r0 r1 p2 z8 z3 z6 z9) [(.int (63 : Int32)), (.long z8), (.long (x3 - (7925923977987733 : Int64)))])) _
    refine XS.lushr X10.here hx rfl (hb hby d4_71) rfl ?_
    show Steps p.tables e below (T10.setTop (mkF m 72 (LS_RRIJsJsJsJsuuuuuuuuuu r0 r1 p2 z8 z3 z6 z9) [(.long ((z8.toUInt64 >>> ((63 : Int32) &&& 0x3f).toInt64.toUInt64).toInt64)), (.long (x3 - (7925923977987733 : Int64)))])) _
    refine XS.lsub X10.here hx rfl (hb hby d4_72) rfl ?_
    show Steps p.tables e below (T10.setTop (mkF m 73 (LS_RRIJsJsJsJsuuuuuuuuuu r0 r1 p2 z8 z3 z6 z9) [(.long ((x3 - (7925923977987733 : Int64)) - ((z8.toUInt64 >>> ((63 : Int32) &&& 0x3f).toInt64.toUInt64).toInt64)))])) _
    refine XS.lstoreN X10.here hx rfl (hb hby d4_73) rfl (l' := (LS_RRIJsJsJsJsuuuuuuuuuu r0 r1 p2 ((x3 - (7925923977987733 : Int64)) - ((z8.toUInt64 >>> ((63 : Int32) &&& 0x3f).toInt64.toUInt64).toInt64)) z3 z6 z9)) rfl ?_
    exact k
  obtain ⟨z11, hz11⟩ : ∃ z, z = ((x3 - (7925923977987733 : Int64)) - ((z8.toUInt64 >>> ((63 : Int32) &&& 0x3f).toInt64.toUInt64).toInt64)) := ⟨_, rfl⟩
  refine own_go (B := T10.setTop (mkF m 74 (LS_RRIJsJsJsJsuuuuuuuuuu r0 r1 p2 z11 z3 z6 z9) [])) (fun t k => by rw [hz11] at k; exact k) ?_
  refine own_go (B := T10.setTop (mkF m 81 (LS_RRIJsJsJsJsJsuuuuuuuu r0 r1 p2 z11 z3 z6 z9 (z11 &&& (36028797018963967 : Int64))) [])) (fun t k => ?_) ?_
  · show Steps p.tables e below (T10.setTop (mkF m 74 (LS_RRIJsJsJsJsuuuuuuuuuu r0 r1 p2 z11 z3 z6 z9) [])) _
    refine XS.lloadN X10.here hx rfl (hb hby d4_74) rfl ?_
    show Steps p.tables e below (T10.setTop (mkF m 75 (LS_RRIJsJsJsJsuuuuuuuuuu r0 r1 p2 z11 z3 z6 z9) [(.long z11)])) _
    refine X10.ldc2Long hx hown (mvT hZ (hw _ (List.mem_of_getElem? (i := 24) rfl))) (g := (mkF m 75 (LS_RRIJsJsJsJsuuuuuuuuuu r0 r1 p2 z11 z3 z6 z9) [(.long z11)])) rfl (hb hby d4_75) _ ?_
    show Steps p.tables e below (T10.setTop (mkF m 78 (LS_RRIJsJsJsJsuuuuuuuuuu r0 r1 p2 z11 z3 z6 z9) [(.long (36028797018963967 : Int64)), (.long z11)])) _
    refine XS.land X10.here hx rfl (hb hby d4_78) rfl ?_
    show Steps p.tables e below (T10.setTop (mkF m 79 (LS_RRIJsJsJsJsuuuuuuuuuu r0 r1 p2 z11 z3 z6 z9) [(.long (z11 &&& (36028797018963967 : Int64)))])) _
    refine XS.lstore X10.here hx rfl (hb hby d4_79) rfl (l' := (LS_RRIJsJsJsJsJsuuuuuuuu r0 r1 p2 z11 z3 z6 z9 (z11 &&& (36028797018963967 : Int64)))) rfl ?_
    exact k
  obtain ⟨z12, hz12⟩ : ∃ z, z = (z11 &&& (36028797018963967 : Int64)) := ⟨_, rfl⟩
  refine own_go (B := T10.setTop (mkF m 81 (LS_RRIJsJsJsJsJsuuuuuuuu r0 r1 p2 z11 z3 z6 z9 z12) [])) (fun t k => by rw [hz12] at k; exact k) ?_
  refine own_go (B := T10.setTop (mkF m 86 (LS_RRIJsJsJsJsJsuuuuuuuu r0 r1 p2 z11 z3 z6 z9 z12) [(.long x4)])) (fun t k => ?_) ?_
  · show Steps p.tables e below (T10.setTop (mkF m 81 (LS_RRIJsJsJsJsJsuuuuuuuu r0 r1 p2 z11 z3 z6 z9 z12) [])) _
    refine XS.aloadN X10.here hx rfl (hb hby d4_81) rfl rfl ?_
    show Steps p.tables e below (T10.setTop (mkF m 82 (LS_RRIJsJsJsJsJsuuuuuuuu r0 r1 p2 z11 z3 z6 z9 z12) [(.ref r1)])) _
    refine XS.iloadN X10.here hx rfl (hb hby d4_82) rfl ?_
    show Steps p.tables e below (T10.setTop (mkF m 83 (LS_RRIJsJsJsJsJsuuuuuuuu r0 r1 p2 z11 z3 z6 z9 z12) [(.int p2), (.ref r1)])) _
    refine XS.iconst X10.here hx rfl (hb hby d4_83) ?_
    show Steps p.tables e below (T10.setTop (mkF m 84 (LS_RRIJsJsJsJsJsuuuuuuuu r0 r1 p2 z11 z3 z6 z9 z12) [(.int (4 : Int32)), (.int p2), (.ref r1)])) _
    refine XS.iadd X10.here hx rfl (hb hby d4_84) rfl ?_
    show Steps p.tables e below (T10.setTop (mkF m 85 (LS_RRIJsJsJsJsJsuuuuuuuu r0 r1 p2 z11 z3 z6 z9 z12) [(.int (p2 + (4 : Int32))), (.ref r1)])) _
    refine X10.laload hx (j := (p2 + (4 : Int32))) (v := (.long x4)) (by rw [e10]; exact Aq1.1) (State.isArrayOf_alike hZ.alike Aq1.2.1) Aq1.2.2 hin4 hat4 (g := (mkF m 85 (LS_RRIJsJsJsJsJsuuuuuuuu r0 r1 p2 z11 z3 z6 z9 z12) [(.int (p2 + (4 : Int32))), (.ref r1)])) rfl rfl (hb hby d4_85) _ ?_
    exact k
  obtain ⟨T13, X13, e13, st13⟩ := getS2 X10 hx hZ hown (host := "") (Or.inl (hw _ (List.mem_of_getElem? (i := 31) rfl))) Via.refl e10 S4 (g := (mkF m 86 (LS_RRIJsJsJsJsJsuuuuuuuu r0 r1 p2 z11 z3 z6 z9 z12) [(.long x4)])) rfl (hb hby d4_86)
  refine own_go (B := T13.setTop (mkF m 89 (LS_RRIJsJsJsJsJsuuuuuuuu r0 r1 p2 z11 z3 z6 z9 z12) [(.long (16551456537884751 : Int64)), (.long x4)])) (fun t k => st13 _ k) ?_
  refine own_go (B := T13.setTop (mkF m 96 (LS_RRIJsJsJsJsJsuuuuuuuu r0 r1 p2 ((x4 - (16551456537884751 : Int64)) - ((z11.toUInt64 >>> ((63 : Int32) &&& 0x3f).toInt64.toUInt64).toInt64)) z3 z6 z9 z12) [])) (fun t k => ?_) ?_
  · show Steps p.tables e below (T13.setTop (mkF m 89 (LS_RRIJsJsJsJsJsuuuuuuuu r0 r1 p2 z11 z3 z6 z9 z12) [(.long (16551456537884751 : Int64)), (.long x4)])) _
    refine XS.lsub X13.here hx rfl (hb hby d4_89) rfl ?_
    show Steps p.tables e below (T13.setTop (mkF m 90 (LS_RRIJsJsJsJsJsuuuuuuuu r0 r1 p2 z11 z3 z6 z9 z12) [(.long (x4 - (16551456537884751 : Int64)))])) _
    refine XS.lloadN X13.here hx rfl (hb hby d4_90) rfl ?_
    show Steps p.tables e below (T13.setTop (mkF m 91 (LS_RRIJsJsJsJsJsuuuuuuuu r0 r1 p2 z11 z3 z6 z9 z12) [(.long z11), (.long (x4 - (16551456537884751 : Int64)))])) _
    refine XS.bipush X13.here hx rfl (hb hby d4_91) ?_
    show Steps p.tables e below (T13.setTop (mkF m 93 (LS_RRIJsJsJsJsJsuuuuuuuu r0 r1 p2 z11 z3 z6 z9 z12) [(.int (63 : Int32)), (.long z11), (.long (x4 - (16551456537884751 : Int64)))])) _
    refine XS.lushr X13.here hx rfl (hb hby d4_93) rfl ?_
    show Steps p.tables e below (T13.setTop (mkF m 94 (LS_RRIJsJsJsJsJsuuuuuuuu r0 r1 p2 z11 z3 z6 z9 z12) [(.long ((z11.toUInt64 >>> ((63 : Int32) &&& 0x3f).toInt64.toUInt64).toInt64)), (.long (x4 - (16551456537884751 : Int64)))])) _
    refine XS.lsub X13.here hx rfl (hb hby d4_94) rfl ?_
    show Steps p.tables e below (T13.setTop (mkF m 95 (LS_RRIJsJsJsJsJsuuuuuuuu r0 r1 p2 z11 z3 z6 z9 z12) [(.long ((x4 - (16551456537884751 : Int64)) - ((z11.toUInt64 >>> ((63 : Int32) &&& 0x3f).toInt64.toUInt64).toInt64)))])) _
    refine XS.lstoreN X13.here hx rfl (hb hby d4_95) rfl (l' := (LS_RRIJsJsJsJsJsuuuuuuuu r0 r1 p2 ((x4 - (16551456537884751 : Int64)) - ((z11.toUInt64 >>> ((63 : Int32) &&& 0x3f).toInt64.toUInt64).toInt64)) z3 z6 z9 z12)) rfl ?_
    exact k
  obtain ⟨z14, hz14⟩ : ∃ z, z = ((x4 - (16551456537884751 : Int64)) - ((z11.toUInt64 >>> ((63 : Int32) &&& 0x3f).toInt64.toUInt64).toInt64)) := ⟨_, rfl⟩
  refine own_go (B := T13.setTop (mkF m 96 (LS_RRIJsJsJsJsJsuuuuuuuu r0 r1 p2 z14 z3 z6 z9 z12) [])) (fun t k => by rw [hz14] at k; exact k) ?_
  refine own_go (B := T13.setTop (mkF m 103 (LS_RRIJsJsJsJsJsJsuuuuuu r0 r1 p2 z14 z3 z6 z9 z12 (z14 &&& (36028797018963967 : Int64))) [])) (fun t k => ?_) ?_
  · show Steps p.tables e below (T13.setTop (mkF m 96 (LS_RRIJsJsJsJsJsuuuuuuuu r0 r1 p2 z14 z3 z6 z9 z12) [])) _
    refine XS.lloadN X13.here hx rfl (hb hby d4_96) rfl ?_
    show Steps p.tables e below (T13.setTop (mkF m 97 (LS_RRIJsJsJsJsJsuuuuuuuu r0 r1 p2 z14 z3 z6 z9 z12) [(.long z14)])) _
    refine X13.ldc2Long hx hown (mvT hZ (hw _ (List.mem_of_getElem? (i := 24) rfl))) (g := (mkF m 97 (LS_RRIJsJsJsJsJsuuuuuuuu r0 r1 p2 z14 z3 z6 z9 z12) [(.long z14)])) rfl (hb hby d4_97) _ ?_
    show Steps p.tables e below (T13.setTop (mkF m 100 (LS_RRIJsJsJsJsJsuuuuuuuu r0 r1 p2 z14 z3 z6 z9 z12) [(.long (36028797018963967 : Int64)), (.long z14)])) _
    refine XS.land X13.here hx rfl (hb hby d4_100) rfl ?_
    show Steps p.tables e below (T13.setTop (mkF m 101 (LS_RRIJsJsJsJsJsuuuuuuuu r0 r1 p2 z14 z3 z6 z9 z12) [(.long (z14 &&& (36028797018963967 : Int64)))])) _
    refine XS.lstore X13.here hx rfl (hb hby d4_101) rfl (l' := (LS_RRIJsJsJsJsJsJsuuuuuu r0 r1 p2 z14 z3 z6 z9 z12 (z14 &&& (36028797018963967 : Int64)))) rfl ?_
    exact k
  obtain ⟨z15, hz15⟩ : ∃ z, z = (z14 &&& (36028797018963967 : Int64)) := ⟨_, rfl⟩
  refine own_go (B := T13.setTop (mkF m 103 (LS_RRIJsJsJsJsJsJsuuuuuu r0 r1 p2 z14 z3 z6 z9 z12 z15) [])) (fun t k => by rw [hz15] at k; exact k) ?_
  refine own_go (B := T13.setTop (mkF m 108 (LS_RRIJsJsJsJsJsJsuuuuuu r0 r1 p2 z14 z3 z6 z9 z12 z15) [(.long x5)])) (fun t k => ?_) ?_
  · show Steps p.tables e below (T13.setTop (mkF m 103 (LS_RRIJsJsJsJsJsJsuuuuuu r0 r1 p2 z14 z3 z6 z9 z12 z15) [])) _
    refine XS.aloadN X13.here hx rfl (hb hby d4_103) rfl rfl ?_
    show Steps p.tables e below (T13.setTop (mkF m 104 (LS_RRIJsJsJsJsJsJsuuuuuu r0 r1 p2 z14 z3 z6 z9 z12 z15) [(.ref r1)])) _
    refine XS.iloadN X13.here hx rfl (hb hby d4_104) rfl ?_
    show Steps p.tables e below (T13.setTop (mkF m 105 (LS_RRIJsJsJsJsJsJsuuuuuu r0 r1 p2 z14 z3 z6 z9 z12 z15) [(.int p2), (.ref r1)])) _
    refine XS.iconst X13.here hx rfl (hb hby d4_105) ?_
    show Steps p.tables e below (T13.setTop (mkF m 106 (LS_RRIJsJsJsJsJsJsuuuuuu r0 r1 p2 z14 z3 z6 z9 z12 z15) [(.int (5 : Int32)), (.int p2), (.ref r1)])) _
    refine XS.iadd X13.here hx rfl (hb hby d4_106) rfl ?_
    show Steps p.tables e below (T13.setTop (mkF m 107 (LS_RRIJsJsJsJsJsJsuuuuuu r0 r1 p2 z14 z3 z6 z9 z12 z15) [(.int (p2 + (5 : Int32))), (.ref r1)])) _
    refine X13.laload hx (j := (p2 + (5 : Int32))) (v := (.long x5)) (by rw [e13]; exact Aq1.1) (State.isArrayOf_alike hZ.alike Aq1.2.1) Aq1.2.2 hin5 hat5 (g := (mkF m 107 (LS_RRIJsJsJsJsJsJsuuuuuu r0 r1 p2 z14 z3 z6 z9 z12 z15) [(.int (p2 + (5 : Int32))), (.ref r1)])) rfl rfl (hb hby d4_107) _ ?_
    exact k
  obtain ⟨T16, X16, e16, st16⟩ := getS2 X13 hx hZ hown (host := "") (Or.inl (hw _ (List.mem_of_getElem? (i := 33) rfl))) Via.refl e13 S5 (g := (mkF m 108 (LS_RRIJsJsJsJsJsJsuuuuuu r0 r1 p2 z14 z3 z6 z9 z12 z15) [(.long x5)])) rfl (hb hby d4_108)
  refine own_go (B := T16.setTop (mkF m 111 (LS_RRIJsJsJsJsJsJsuuuuuu r0 r1 p2 z14 z3 z6 z9 z12 z15) [(.long (23443114579904617 : Int64)), (.long x5)])) (fun t k => st16 _ k) ?_
  refine own_go (B := T16.setTop (mkF m 118 (LS_RRIJsJsJsJsJsJsuuuuuu r0 r1 p2 ((x5 - (23443114579904617 : Int64)) - ((z14.toUInt64 >>> ((63 : Int32) &&& 0x3f).toInt64.toUInt64).toInt64)) z3 z6 z9 z12 z15) [])) (fun t k => ?_) ?_
  · show Steps p.tables e below (T16.setTop (mkF m 111 (LS_RRIJsJsJsJsJsJsuuuuuu r0 r1 p2 z14 z3 z6 z9 z12 z15) [(.long (23443114579904617 : Int64)), (.long x5)])) _
    refine XS.lsub X16.here hx rfl (hb hby d4_111) rfl ?_
    show Steps p.tables e below (T16.setTop (mkF m 112 (LS_RRIJsJsJsJsJsJsuuuuuu r0 r1 p2 z14 z3 z6 z9 z12 z15) [(.long (x5 - (23443114579904617 : Int64)))])) _
    refine XS.lloadN X16.here hx rfl (hb hby d4_112) rfl ?_
    show Steps p.tables e below (T16.setTop (mkF m 113 (LS_RRIJsJsJsJsJsJsuuuuuu r0 r1 p2 z14 z3 z6 z9 z12 z15) [(.long z14), (.long (x5 - (23443114579904617 : Int64)))])) _
    refine XS.bipush X16.here hx rfl (hb hby d4_113) ?_
    show Steps p.tables e below (T16.setTop (mkF m 115 (LS_RRIJsJsJsJsJsJsuuuuuu r0 r1 p2 z14 z3 z6 z9 z12 z15) [(.int (63 : Int32)), (.long z14), (.long (x5 - (23443114579904617 : Int64)))])) _
    refine XS.lushr X16.here hx rfl (hb hby d4_115) rfl ?_
    show Steps p.tables e below (T16.setTop (mkF m 116 (LS_RRIJsJsJsJsJsJsuuuuuu r0 r1 p2 z14 z3 z6 z9 z12 z15) [(.long ((z14.toUInt64 >>> ((63 : Int32) &&& 0x3f).toInt64.toUInt64).toInt64)), (.long (x5 - (23443114579904617 : Int64)))])) _
    refine XS.lsub X16.here hx rfl (hb hby d4_116) rfl ?_
    show Steps p.tables e below (T16.setTop (mkF m 117 (LS_RRIJsJsJsJsJsJsuuuuuu r0 r1 p2 z14 z3 z6 z9 z12 z15) [(.long ((x5 - (23443114579904617 : Int64)) - ((z14.toUInt64 >>> ((63 : Int32) &&& 0x3f).toInt64.toUInt64).toInt64)))])) _
    refine XS.lstoreN X16.here hx rfl (hb hby d4_117) rfl (l' := (LS_RRIJsJsJsJsJsJsuuuuuu r0 r1 p2 ((x5 - (23443114579904617 : Int64)) - ((z14.toUInt64 >>> ((63 : Int32) &&& 0x3f).toInt64.toUInt64).toInt64)) z3 z6 z9 z12 z15)) rfl ?_
    exact k
  obtain ⟨z17, hz17⟩ : ∃ z, z = ((x5 - (23443114579904617 : Int64)) - ((z14.toUInt64 >>> ((63 : Int32) &&& 0x3f).toInt64.toUInt64).toInt64)) := ⟨_, rfl⟩
  refine own_go (B := T16.setTop (mkF m 118 (LS_RRIJsJsJsJsJsJsuuuuuu r0 r1 p2 z17 z3 z6 z9 z12 z15) [])) (fun t k => by rw [hz17] at k; exact k) ?_
  refine own_go (B := T16.setTop (mkF m 125 (LS_RRIJsJsJsJsJsJsJsuuuu r0 r1 p2 z17 z3 z6 z9 z12 z15 (z17 &&& (36028797018963967 : Int64))) [])) (fun t k => ?_) ?_
  · show Steps p.tables e below (T16.setTop (mkF m 118 (LS_RRIJsJsJsJsJsJsuuuuuu r0 r1 p2 z17 z3 z6 z9 z12 z15) [])) _
    refine XS.lloadN X16.here hx rfl (hb hby d4_118) rfl ?_
    show Steps p.tables e below (T16.setTop (mkF m 119 (LS_RRIJsJsJsJsJsJsuuuuuu r0 r1 p2 z17 z3 z6 z9 z12 z15) [(.long z17)])) _
    refine X16.ldc2Long hx hown (mvT hZ (hw _ (List.mem_of_getElem? (i := 24) rfl))) (g := (mkF m 119 (LS_RRIJsJsJsJsJsJsuuuuuu r0 r1 p2 z17 z3 z6 z9 z12 z15) [(.long z17)])) rfl (hb hby d4_119) _ ?_
    show Steps p.tables e below (T16.setTop (mkF m 122 (LS_RRIJsJsJsJsJsJsuuuuuu r0 r1 p2 z17 z3 z6 z9 z12 z15) [(.long (36028797018963967 : Int64)), (.long z17)])) _
    refine XS.land X16.here hx rfl (hb hby d4_122) rfl ?_
    show Steps p.tables e below (T16.setTop (mkF m 123 (LS_RRIJsJsJsJsJsJsuuuuuu r0 r1 p2 z17 z3 z6 z9 z12 z15) [(.long (z17 &&& (36028797018963967 : Int64)))])) _
    refine XS.lstore X16.here hx rfl (hb hby d4_123) rfl (l' := (LS_RRIJsJsJsJsJsJsJsuuuu r0 r1 p2 z17 z3 z6 z9 z12 z15 (z17 &&& (36028797018963967 : Int64)))) rfl ?_
    exact k
  obtain ⟨z18, hz18⟩ : ∃ z, z = (z17 &&& (36028797018963967 : Int64)) := ⟨_, rfl⟩
  refine own_go (B := T16.setTop (mkF m 125 (LS_RRIJsJsJsJsJsJsJsuuuu r0 r1 p2 z17 z3 z6 z9 z12 z15 z18) [])) (fun t k => by rw [hz18] at k; exact k) ?_
  refine own_go (B := T16.setTop (mkF m 131 (LS_RRIJsJsJsJsJsJsJsuuuu r0 r1 p2 z17 z3 z6 z9 z12 z15 z18) [(.long x6)])) (fun t k => ?_) ?_
  · show Steps p.tables e below (T16.setTop (mkF m 125 (LS_RRIJsJsJsJsJsJsJsuuuu r0 r1 p2 z17 z3 z6 z9 z12 z15 z18) [])) _
    refine XS.aloadN X16.here hx rfl (hb hby d4_125) rfl rfl ?_
    show Steps p.tables e below (T16.setTop (mkF m 126 (LS_RRIJsJsJsJsJsJsJsuuuu r0 r1 p2 z17 z3 z6 z9 z12 z15 z18) [(.ref r1)])) _
    refine XS.iloadN X16.here hx rfl (hb hby d4_126) rfl ?_
    show Steps p.tables e below (T16.setTop (mkF m 127 (LS_RRIJsJsJsJsJsJsJsuuuu r0 r1 p2 z17 z3 z6 z9 z12 z15 z18) [(.int p2), (.ref r1)])) _
    refine XS.bipush X16.here hx rfl (hb hby d4_127) ?_
    show Steps p.tables e below (T16.setTop (mkF m 129 (LS_RRIJsJsJsJsJsJsJsuuuu r0 r1 p2 z17 z3 z6 z9 z12 z15 z18) [(.int (6 : Int32)), (.int p2), (.ref r1)])) _
    refine XS.iadd X16.here hx rfl (hb hby d4_129) rfl ?_
    show Steps p.tables e below (T16.setTop (mkF m 130 (LS_RRIJsJsJsJsJsJsJsuuuu r0 r1 p2 z17 z3 z6 z9 z12 z15 z18) [(.int (p2 + (6 : Int32))), (.ref r1)])) _
    refine X16.laload hx (j := (p2 + (6 : Int32))) (v := (.long x6)) (by rw [e16]; exact Aq1.1) (State.isArrayOf_alike hZ.alike Aq1.2.1) Aq1.2.2 hin6 hat6 (g := (mkF m 130 (LS_RRIJsJsJsJsJsJsJsuuuu r0 r1 p2 z17 z3 z6 z9 z12 z15 z18) [(.int (p2 + (6 : Int32))), (.ref r1)])) rfl rfl (hb hby d4_130) _ ?_
    exact k
  obtain ⟨T19, X19, e19, st19⟩ := getS2 X16 hx hZ hown (host := "") (Or.inl (hw _ (List.mem_of_getElem? (i := 35) rfl))) Via.refl e16 S6 (g := (mkF m 131 (LS_RRIJsJsJsJsJsJsJsuuuu r0 r1 p2 z17 z3 z6 z9 z12 z15 z18) [(.long x6)])) rfl (hb hby d4_131)
  refine own_go (B := T19.setTop (mkF m 134 (LS_RRIJsJsJsJsJsJsJsuuuu r0 r1 p2 z17 z3 z6 z9 z12 z15 z18) [(.long (1829881462546425 : Int64)), (.long x6)])) (fun t k => st19 _ k) ?_
  refine own_go (B := T19.setTop (mkF m 141 (LS_RRIJsJsJsJsJsJsJsuuuu r0 r1 p2 ((x6 - (1829881462546425 : Int64)) - ((z17.toUInt64 >>> ((63 : Int32) &&& 0x3f).toInt64.toUInt64).toInt64)) z3 z6 z9 z12 z15 z18) [])) (fun t k => ?_) ?_
  · show Steps p.tables e below (T19.setTop (mkF m 134 (LS_RRIJsJsJsJsJsJsJsuuuu r0 r1 p2 z17 z3 z6 z9 z12 z15 z18) [(.long (1829881462546425 : Int64)), (.long x6)])) _
    refine XS.lsub X19.here hx rfl (hb hby d4_134) rfl ?_
    show Steps p.tables e below (T19.setTop (mkF m 135 (LS_RRIJsJsJsJsJsJsJsuuuu r0 r1 p2 z17 z3 z6 z9 z12 z15 z18) [(.long (x6 - (1829881462546425 : Int64)))])) _
    refine XS.lloadN X19.here hx rfl (hb hby d4_135) rfl ?_
    show Steps p.tables e below (T19.setTop (mkF m 136 (LS_RRIJsJsJsJsJsJsJsuuuu r0 r1 p2 z17 z3 z6 z9 z12 z15 z18) [(.long z17), (.long (x6 - (1829881462546425 : Int64)))])) _
    refine XS.bipush X19.here hx rfl (hb hby d4_136) ?_
    show Steps p.tables e below (T19.setTop (mkF m 138 (LS_RRIJsJsJsJsJsJsJsuuuu r0 r1 p2 z17 z3 z6 z9 z12 z15 z18) [(.int (63 : Int32)), (.long z17), (.long (x6 - (1829881462546425 : Int64)))])) _
    refine XS.lushr X19.here hx rfl (hb hby d4_138) rfl ?_
    show Steps p.tables e below (T19.setTop (mkF m 139 (LS_RRIJsJsJsJsJsJsJsuuuu r0 r1 p2 z17 z3 z6 z9 z12 z15 z18) [(.long ((z17.toUInt64 >>> ((63 : Int32) &&& 0x3f).toInt64.toUInt64).toInt64)), (.long (x6 - (1829881462546425 : Int64)))])) _
    refine XS.lsub X19.here hx rfl (hb hby d4_139) rfl ?_
    show Steps p.tables e below (T19.setTop (mkF m 140 (LS_RRIJsJsJsJsJsJsJsuuuu r0 r1 p2 z17 z3 z6 z9 z12 z15 z18) [(.long ((x6 - (1829881462546425 : Int64)) - ((z17.toUInt64 >>> ((63 : Int32) &&& 0x3f).toInt64.toUInt64).toInt64)))])) _
    refine XS.lstoreN X19.here hx rfl (hb hby d4_140) rfl (l' := (LS_RRIJsJsJsJsJsJsJsuuuu r0 r1 p2 ((x6 - (1829881462546425 : Int64)) - ((z17.toUInt64 >>> ((63 : Int32) &&& 0x3f).toInt64.toUInt64).toInt64)) z3 z6 z9 z12 z15 z18)) rfl ?_
    exact k
  obtain ⟨z20, hz20⟩ : ∃ z, z = ((x6 - (1829881462546425 : Int64)) - ((z17.toUInt64 >>> ((63 : Int32) &&& 0x3f).toInt64.toUInt64).toInt64)) := ⟨_, rfl⟩
  refine own_go (B := T19.setTop (mkF m 141 (LS_RRIJsJsJsJsJsJsJsuuuu r0 r1 p2 z20 z3 z6 z9 z12 z15 z18) [])) (fun t k => by rw [hz20] at k; exact k) ?_
  refine own_go (B := T19.setTop (mkF m 148 (LS_RRIJsJsJsJsJsJsJsJsuu r0 r1 p2 z20 z3 z6 z9 z12 z15 z18 (z20 &&& (36028797018963967 : Int64))) [])) (fun t k => ?_) ?_
  · show Steps p.tables e below (T19.setTop (mkF m 141 (LS_RRIJsJsJsJsJsJsJsuuuu r0 r1 p2 z20 z3 z6 z9 z12 z15 z18) [])) _
    refine XS.lloadN X19.here hx rfl (hb hby d4_141) rfl ?_
    show Steps p.tables e below (T19.setTop (mkF m 142 (LS_RRIJsJsJsJsJsJsJsuuuu r0 r1 p2 z20 z3 z6 z9 z12 z15 z18) [(.long z20)])) _
    refine X19.ldc2Long hx hown (mvT hZ (hw _ (List.mem_of_getElem? (i := 24) rfl))) (g := (mkF m 142 (LS_RRIJsJsJsJsJsJsJsuuuu r0 r1 p2 z20 z3 z6 z9 z12 z15 z18) [(.long z20)])) rfl (hb hby d4_142) _ ?_
    show Steps p.tables e below (T19.setTop (mkF m 145 (LS_RRIJsJsJsJsJsJsJsuuuu r0 r1 p2 z20 z3 z6 z9 z12 z15 z18) [(.long (36028797018963967 : Int64)), (.long z20)])) _
    refine XS.land X19.here hx rfl (hb hby d4_145) rfl ?_
    show Steps p.tables e below (T19.setTop (mkF m 146 (LS_RRIJsJsJsJsJsJsJsuuuu r0 r1 p2 z20 z3 z6 z9 z12 z15 z18) [(.long (z20 &&& (36028797018963967 : Int64)))])) _
    refine XS.lstore X19.here hx rfl (hb hby d4_146) rfl (l' := (LS_RRIJsJsJsJsJsJsJsJsuu r0 r1 p2 z20 z3 z6 z9 z12 z15 z18 (z20 &&& (36028797018963967 : Int64)))) rfl ?_
    exact k
  obtain ⟨z21, hz21⟩ : ∃ z, z = (z20 &&& (36028797018963967 : Int64)) := ⟨_, rfl⟩
  refine own_go (B := T19.setTop (mkF m 148 (LS_RRIJsJsJsJsJsJsJsJsuu r0 r1 p2 z20 z3 z6 z9 z12 z15 z18 z21) [])) (fun t k => by rw [hz21] at k; exact k) ?_
  refine own_go (B := T19.setTop (mkF m 155 (LS_RRIJsJsJsJsJsJsJsJsJs r0 r1 p2 z20 z3 z6 z9 z12 z15 z18 z21 (-((z20.toUInt64 >>> ((63 : Int32) &&& 0x3f).toInt64.toUInt64).toInt64))) [])) (fun t k => ?_) ?_
  · show Steps p.tables e below (T19.setTop (mkF m 148 (LS_RRIJsJsJsJsJsJsJsJsuu r0 r1 p2 z20 z3 z6 z9 z12 z15 z18 z21) [])) _
    refine XS.lloadN X19.here hx rfl (hb hby d4_148) rfl ?_
    show Steps p.tables e below (T19.setTop (mkF m 149 (LS_RRIJsJsJsJsJsJsJsJsuu r0 r1 p2 z20 z3 z6 z9 z12 z15 z18 z21) [(.long z20)])) _
    refine XS.bipush X19.here hx rfl (hb hby d4_149) ?_
    show Steps p.tables e below (T19.setTop (mkF m 151 (LS_RRIJsJsJsJsJsJsJsJsuu r0 r1 p2 z20 z3 z6 z9 z12 z15 z18 z21) [(.int (63 : Int32)), (.long z20)])) _
    refine XS.lushr X19.here hx rfl (hb hby d4_151) rfl ?_
    show Steps p.tables e below (T19.setTop (mkF m 152 (LS_RRIJsJsJsJsJsJsJsJsuu r0 r1 p2 z20 z3 z6 z9 z12 z15 z18 z21) [(.long ((z20.toUInt64 >>> ((63 : Int32) &&& 0x3f).toInt64.toUInt64).toInt64))])) _
    refine XS.lneg X19.here hx rfl (hb hby d4_152) rfl ?_
    show Steps p.tables e below (T19.setTop (mkF m 153 (LS_RRIJsJsJsJsJsJsJsJsuu r0 r1 p2 z20 z3 z6 z9 z12 z15 z18 z21) [(.long (-((z20.toUInt64 >>> ((63 : Int32) &&& 0x3f).toInt64.toUInt64).toInt64)))])) _
    refine XS.lstore X19.here hx rfl (hb hby d4_153) rfl (l' := (LS_RRIJsJsJsJsJsJsJsJsJs r0 r1 p2 z20 z3 z6 z9 z12 z15 z18 z21 (-((z20.toUInt64 >>> ((63 : Int32) &&& 0x3f).toInt64.toUInt64).toInt64)))) rfl ?_
    exact k
  obtain ⟨z22, hz22⟩ : ∃ z, z = (-((z20.toUInt64 >>> ((63 : Int32) &&& 0x3f).toInt64.toUInt64).toInt64)) := ⟨_, rfl⟩
  refine own_go (B := T19.setTop (mkF m 155 (LS_RRIJsJsJsJsJsJsJsJsJs r0 r1 p2 z20 z3 z6 z9 z12 z15 z18 z21 z22) [])) (fun t k => by rw [hz22] at k; exact k) ?_
  refine own_go (B := T19.setTop (mkF m 173 (LS_RRIJsJsJsJsJsJsJsJsJs r0 r1 p2 z20 z3 z6 z9 z12 z15 z18 z21 z22) [(.long ((x0 &&& z22) ||| (z3 &&& (z22 ^^^ (-1 : Int64))))), (.int (0 : Int32)), (.ref r0)])) (fun t k => ?_) ?_
  · show Steps p.tables e below (T19.setTop (mkF m 155 (LS_RRIJsJsJsJsJsJsJsJsJs r0 r1 p2 z20 z3 z6 z9 z12 z15 z18 z21 z22) [])) _
    refine XS.aloadN X19.here hx rfl (hb hby d4_155) rfl rfl ?_
    show Steps p.tables e below (T19.setTop (mkF m 156 (LS_RRIJsJsJsJsJsJsJsJsJs r0 r1 p2 z20 z3 z6 z9 z12 z15 z18 z21 z22) [(.ref r0)])) _
    refine XS.iconst X19.here hx rfl (hb hby d4_156) ?_
    show Steps p.tables e below (T19.setTop (mkF m 157 (LS_RRIJsJsJsJsJsJsJsJsJs r0 r1 p2 z20 z3 z6 z9 z12 z15 z18 z21 z22) [(.int (0 : Int32)), (.ref r0)])) _
    refine XS.aloadN X19.here hx rfl (hb hby d4_157) rfl rfl ?_
    show Steps p.tables e below (T19.setTop (mkF m 158 (LS_RRIJsJsJsJsJsJsJsJsJs r0 r1 p2 z20 z3 z6 z9 z12 z15 z18 z21 z22) [(.ref r1), (.int (0 : Int32)), (.ref r0)])) _
    refine XS.iloadN X19.here hx rfl (hb hby d4_158) rfl ?_
    show Steps p.tables e below (T19.setTop (mkF m 159 (LS_RRIJsJsJsJsJsJsJsJsJs r0 r1 p2 z20 z3 z6 z9 z12 z15 z18 z21 z22) [(.int p2), (.ref r1), (.int (0 : Int32)), (.ref r0)])) _
    refine X19.laload hx (j := p2) (v := (.long x0)) (by rw [e19]; exact Aq1.1) (State.isArrayOf_alike hZ.alike Aq1.2.1) Aq1.2.2 hin0 hat0 (g := (mkF m 159 (LS_RRIJsJsJsJsJsJsJsJsJs r0 r1 p2 z20 z3 z6 z9 z12 z15 z18 z21 z22) [(.int p2), (.ref r1), (.int (0 : Int32)), (.ref r0)])) rfl rfl (hb hby d4_159) _ ?_
    show Steps p.tables e below (T19.setTop (mkF m 160 (LS_RRIJsJsJsJsJsJsJsJsJs r0 r1 p2 z20 z3 z6 z9 z12 z15 z18 z21 z22) [(.long x0), (.int (0 : Int32)), (.ref r0)])) _
    refine XS.lload X19.here hx rfl (hb hby d4_160) rfl ?_
    show Steps p.tables e below (T19.setTop (mkF m 162 (LS_RRIJsJsJsJsJsJsJsJsJs r0 r1 p2 z20 z3 z6 z9 z12 z15 z18 z21 z22) [(.long z22), (.long x0), (.int (0 : Int32)), (.ref r0)])) _
    refine XS.land X19.here hx rfl (hb hby d4_162) rfl ?_
    show Steps p.tables e below (T19.setTop (mkF m 163 (LS_RRIJsJsJsJsJsJsJsJsJs r0 r1 p2 z20 z3 z6 z9 z12 z15 z18 z21 z22) [(.long (x0 &&& z22)), (.int (0 : Int32)), (.ref r0)])) _
    refine XS.lload X19.here hx rfl (hb hby d4_163) rfl ?_
    show Steps p.tables e below (T19.setTop (mkF m 165 (LS_RRIJsJsJsJsJsJsJsJsJs r0 r1 p2 z20 z3 z6 z9 z12 z15 z18 z21 z22) [(.long z3), (.long (x0 &&& z22)), (.int (0 : Int32)), (.ref r0)])) _
    refine XS.lload X19.here hx rfl (hb hby d4_165) rfl ?_
    show Steps p.tables e below (T19.setTop (mkF m 167 (LS_RRIJsJsJsJsJsJsJsJsJs r0 r1 p2 z20 z3 z6 z9 z12 z15 z18 z21 z22) [(.long z22), (.long z3), (.long (x0 &&& z22)), (.int (0 : Int32)), (.ref r0)])) _
    refine X19.ldc2Long hx hown (mvT hZ (hw _ (List.mem_of_getElem? (i := 37) rfl))) (g := (mkF m 167 (LS_RRIJsJsJsJsJsJsJsJsJs r0 r1 p2 z20 z3 z6 z9 z12 z15 z18 z21 z22) [(.long z22), (.long z3), (.long (x0 &&& z22)), (.int (0 : Int32)), (.ref r0)])) rfl (hb hby d4_167) _ ?_
    show Steps p.tables e below (T19.setTop (mkF m 170 (LS_RRIJsJsJsJsJsJsJsJsJs r0 r1 p2 z20 z3 z6 z9 z12 z15 z18 z21 z22) [(.long (-1 : Int64)), (.long z22), (.long z3), (.long (x0 &&& z22)), (.int (0 : Int32)), (.ref r0)])) _
    refine XS.lxor X19.here hx rfl (hb hby d4_170) rfl ?_
    show Steps p.tables e below (T19.setTop (mkF m 171 (LS_RRIJsJsJsJsJsJsJsJsJs r0 r1 p2 z20 z3 z6 z9 z12 z15 z18 z21 z22) [(.long (z22 ^^^ (-1 : Int64))), (.long z3), (.long (x0 &&& z22)), (.int (0 : Int32)), (.ref r0)])) _
    refine XS.land X19.here hx rfl (hb hby d4_171) rfl ?_
    show Steps p.tables e below (T19.setTop (mkF m 172 (LS_RRIJsJsJsJsJsJsJsJsJs r0 r1 p2 z20 z3 z6 z9 z12 z15 z18 z21 z22) [(.long (z3 &&& (z22 ^^^ (-1 : Int64)))), (.long (x0 &&& z22)), (.int (0 : Int32)), (.ref r0)])) _
    refine XS.lor X19.here hx rfl (hb hby d4_172) rfl ?_
    exact k
  obtain ⟨cl23, Ar23, qa23, Sa23, Na23, Ha23, Ga23⟩ := id Vq1
  have hin24 : ¬ ((0 : Int32) < 0 ∨ cl23.slots.size ≤ ((0 : Int32)).toNatClampNeg) := inb_of Sa23 ⟨by decide, by decide⟩
  obtain ⟨T24, h24, X24, e24, W24, st24⟩ := stJ X19 hx hZ e19 Ar23 (j := (0 : Int32)) hin24 (g := (mkF m 173 (LS_RRIJsJsJsJsJsJsJsJsJs r0 r1 p2 z20 z3 z6 z9 z12 z15 z18 z21 z22) [(.long ((x0 &&& z22) ||| (z3 &&& (z22 ^^^ (-1 : Int64))))), (.int (0 : Int32)), (.ref r0)])) rfl rfl (hb hby d4_173)
  have N24 := Fr.snoc X24 N0 g_r0
  have V24 : Arv Z h24 r0 kq1 .long (7 : Int32) [(.long ((x0 &&& z22) ||| (z3 &&& (z22 ^^^ (-1 : Int64))))), (.long (0 : Int64)), (.long (0 : Int64)), (.long (0 : Int64)), (.long (0 : Int64)), (.long (0 : Int64)), (.long (0 : Int64))] (.long (0 : Int64)) := Arv.set Ar23 qa23 Sa23 Na23 Ha23 Ga23 rfl W24 0 rfl (Nat.le_of_ble_eq_true rfl)
  refine own_go (B := T24.setTop (mkF m 174 (LS_RRIJsJsJsJsJsJsJsJsJs r0 r1 p2 z20 z3 z6 z9 z12 z15 z18 z21 z22) [])) (fun t k => st24 _ k) ?_
  have Aq1_v25 := Aq1.other W24 hne
  refine own_go (B := T24.setTop (mkF m 194 (LS_RRIJsJsJsJsJsJsJsJsJs r0 r1 p2 z20 z3 z6 z9 z12 z15 z18 z21 z22) [(.long ((x1 &&& z22) ||| (z6 &&& (z22 ^^^ (-1 : Int64))))), (.int (1 : Int32)), (.ref r0)])) (fun t k => ?_) ?_
  · show Steps p.tables e below (T24.setTop (mkF m 174 (LS_RRIJsJsJsJsJsJsJsJsJs r0 r1 p2 z20 z3 z6 z9 z12 z15 z18 z21 z22) [])) _
    refine XS.aloadN X24.here hx rfl (hb hby d4_174) rfl rfl ?_
    show Steps p.tables e below (T24.setTop (mkF m 175 (LS_RRIJsJsJsJsJsJsJsJsJs r0 r1 p2 z20 z3 z6 z9 z12 z15 z18 z21 z22) [(.ref r0)])) _
    refine XS.iconst X24.here hx rfl (hb hby d4_175) ?_
    show Steps p.tables e below (T24.setTop (mkF m 176 (LS_RRIJsJsJsJsJsJsJsJsJs r0 r1 p2 z20 z3 z6 z9 z12 z15 z18 z21 z22) [(.int (1 : Int32)), (.ref r0)])) _
    refine XS.aloadN X24.here hx rfl (hb hby d4_176) rfl rfl ?_
    show Steps p.tables e below (T24.setTop (mkF m 177 (LS_RRIJsJsJsJsJsJsJsJsJs r0 r1 p2 z20 z3 z6 z9 z12 z15 z18 z21 z22) [(.ref r1), (.int (1 : Int32)), (.ref r0)])) _
    refine XS.iloadN X24.here hx rfl (hb hby d4_177) rfl ?_
    show Steps p.tables e below (T24.setTop (mkF m 178 (LS_RRIJsJsJsJsJsJsJsJsJs r0 r1 p2 z20 z3 z6 z9 z12 z15 z18 z21 z22) [(.int p2), (.ref r1), (.int (1 : Int32)), (.ref r0)])) _
    refine XS.iconst X24.here hx rfl (hb hby d4_178) ?_
    show Steps p.tables e below (T24.setTop (mkF m 179 (LS_RRIJsJsJsJsJsJsJsJsJs r0 r1 p2 z20 z3 z6 z9 z12 z15 z18 z21 z22) [(.int (1 : Int32)), (.int p2), (.ref r1), (.int (1 : Int32)), (.ref r0)])) _
    refine XS.iadd X24.here hx rfl (hb hby d4_179) rfl ?_
    show Steps p.tables e below (T24.setTop (mkF m 180 (LS_RRIJsJsJsJsJsJsJsJsJs r0 r1 p2 z20 z3 z6 z9 z12 z15 z18 z21 z22) [(.int (p2 + (1 : Int32))), (.ref r1), (.int (1 : Int32)), (.ref r0)])) _
    refine X24.laload hx (j := (p2 + (1 : Int32))) (v := (.long x1)) (by rw [e24]; exact Aq1_v25.1) (State.isArrayOf_alike hZ.alike Aq1_v25.2.1) Aq1_v25.2.2 hin1 hat1 (g := (mkF m 180 (LS_RRIJsJsJsJsJsJsJsJsJs r0 r1 p2 z20 z3 z6 z9 z12 z15 z18 z21 z22) [(.int (p2 + (1 : Int32))), (.ref r1), (.int (1 : Int32)), (.ref r0)])) rfl rfl (hb hby d4_180) _ ?_
    show Steps p.tables e below (T24.setTop (mkF m 181 (LS_RRIJsJsJsJsJsJsJsJsJs r0 r1 p2 z20 z3 z6 z9 z12 z15 z18 z21 z22) [(.long x1), (.int (1 : Int32)), (.ref r0)])) _
    refine XS.lload X24.here hx rfl (hb hby d4_181) rfl ?_
    show Steps p.tables e below (T24.setTop (mkF m 183 (LS_RRIJsJsJsJsJsJsJsJsJs r0 r1 p2 z20 z3 z6 z9 z12 z15 z18 z21 z22) [(.long z22), (.long x1), (.int (1 : Int32)), (.ref r0)])) _
    refine XS.land X24.here hx rfl (hb hby d4_183) rfl ?_
    show Steps p.tables e below (T24.setTop (mkF m 184 (LS_RRIJsJsJsJsJsJsJsJsJs r0 r1 p2 z20 z3 z6 z9 z12 z15 z18 z21 z22) [(.long (x1 &&& z22)), (.int (1 : Int32)), (.ref r0)])) _
    refine XS.lload X24.here hx rfl (hb hby d4_184) rfl ?_
    show Steps p.tables e below (T24.setTop (mkF m 186 (LS_RRIJsJsJsJsJsJsJsJsJs r0 r1 p2 z20 z3 z6 z9 z12 z15 z18 z21 z22) [(.long z6), (.long (x1 &&& z22)), (.int (1 : Int32)), (.ref r0)])) _
    refine XS.lload X24.here hx rfl (hb hby d4_186) rfl ?_
    show Steps p.tables e below (T24.setTop (mkF m 188 (LS_RRIJsJsJsJsJsJsJsJsJs r0 r1 p2 z20 z3 z6 z9 z12 z15 z18 z21 z22) [(.long z22), (.long z6), (.long (x1 &&& z22)), (.int (1 : Int32)), (.ref r0)])) _
    refine X24.ldc2Long hx hown (mvT hZ (hw _ (List.mem_of_getElem? (i := 37) rfl))) (g := (mkF m 188 (LS_RRIJsJsJsJsJsJsJsJsJs r0 r1 p2 z20 z3 z6 z9 z12 z15 z18 z21 z22) [(.long z22), (.long z6), (.long (x1 &&& z22)), (.int (1 : Int32)), (.ref r0)])) rfl (hb hby d4_188) _ ?_
    show Steps p.tables e below (T24.setTop (mkF m 191 (LS_RRIJsJsJsJsJsJsJsJsJs r0 r1 p2 z20 z3 z6 z9 z12 z15 z18 z21 z22) [(.long (-1 : Int64)), (.long z22), (.long z6), (.long (x1 &&& z22)), (.int (1 : Int32)), (.ref r0)])) _
    refine XS.lxor X24.here hx rfl (hb hby d4_191) rfl ?_
    show Steps p.tables e below (T24.setTop (mkF m 192 (LS_RRIJsJsJsJsJsJsJsJsJs r0 r1 p2 z20 z3 z6 z9 z12 z15 z18 z21 z22) [(.long (z22 ^^^ (-1 : Int64))), (.long z6), (.long (x1 &&& z22)), (.int (1 : Int32)), (.ref r0)])) _
    refine XS.land X24.here hx rfl (hb hby d4_192) rfl ?_
    show Steps p.tables e below (T24.setTop (mkF m 193 (LS_RRIJsJsJsJsJsJsJsJsJs r0 r1 p2 z20 z3 z6 z9 z12 z15 z18 z21 z22) [(.long (z6 &&& (z22 ^^^ (-1 : Int64)))), (.long (x1 &&& z22)), (.int (1 : Int32)), (.ref r0)])) _
    refine XS.lor X24.here hx rfl (hb hby d4_193) rfl ?_
    exact k
  obtain ⟨cl26, Ar26, qa26, Sa26, Na26, Ha26, Ga26⟩ := id V24
  have hin27 : ¬ ((1 : Int32) < 0 ∨ cl26.slots.size ≤ ((1 : Int32)).toNatClampNeg) := inb_of Sa26 ⟨by decide, by decide⟩
  obtain ⟨T27, h27, X27, e27, W27, st27⟩ := stJ X24 hx hZ e24 Ar26 (j := (1 : Int32)) hin27 (g := (mkF m 194 (LS_RRIJsJsJsJsJsJsJsJsJs r0 r1 p2 z20 z3 z6 z9 z12 z15 z18 z21 z22) [(.long ((x1 &&& z22) ||| (z6 &&& (z22 ^^^ (-1 : Int64))))), (.int (1 : Int32)), (.ref r0)])) rfl rfl (hb hby d4_194)
  have N27 := Fr.snoc X27 N24 g_r0
  have V27 : Arv Z h27 r0 kq1 .long (7 : Int32) [(.long ((x0 &&& z22) ||| (z3 &&& (z22 ^^^ (-1 : Int64))))), (.long ((x1 &&& z22) ||| (z6 &&& (z22 ^^^ (-1 : Int64))))), (.long (0 : Int64)), (.long (0 : Int64)), (.long (0 : Int64)), (.long (0 : Int64)), (.long (0 : Int64))] (.long (0 : Int64)) := Arv.set Ar26 qa26 Sa26 Na26 Ha26 Ga26 rfl W27 1 rfl (Nat.le_of_ble_eq_true rfl)
  refine own_go (B := T27.setTop (mkF m 195 (LS_RRIJsJsJsJsJsJsJsJsJs r0 r1 p2 z20 z3 z6 z9 z12 z15 z18 z21 z22) [])) (fun t k => st27 _ k) ?_
  have Aq1_v28 := Aq1_v25.other W27 hne
  refine own_go (B := T27.setTop (mkF m 215 (LS_RRIJsJsJsJsJsJsJsJsJs r0 r1 p2 z20 z3 z6 z9 z12 z15 z18 z21 z22) [(.long ((x2 &&& z22) ||| (z9 &&& (z22 ^^^ (-1 : Int64))))), (.int (2 : Int32)), (.ref r0)])) (fun t k => ?_) ?_
  · show Steps p.tables e below (T27.setTop (mkF m 195 (LS_RRIJsJsJsJsJsJsJsJsJs r0 r1 p2 z20 z3 z6 z9 z12 z15 z18 z21 z22) [])) _
    refine XS.aloadN X27.here hx rfl (hb hby d4_195) rfl rfl ?_
    show Steps p.tables e below (T27.setTop (mkF m 196 (LS_RRIJsJsJsJsJsJsJsJsJs r0 r1 p2 z20 z3 z6 z9 z12 z15 z18 z21 z22) [(.ref r0)])) _
    refine XS.iconst X27.here hx rfl (hb hby d4_196) ?_
    show Steps p.tables e below (T27.setTop (mkF m 197 (LS_RRIJsJsJsJsJsJsJsJsJs r0 r1 p2 z20 z3 z6 z9 z12 z15 z18 z21 z22) [(.int (2 : Int32)), (.ref r0)])) _
    refine XS.aloadN X27.here hx rfl (hb hby d4_197) rfl rfl ?_
    show Steps p.tables e below (T27.setTop (mkF m 198 (LS_RRIJsJsJsJsJsJsJsJsJs r0 r1 p2 z20 z3 z6 z9 z12 z15 z18 z21 z22) [(.ref r1), (.int (2 : Int32)), (.ref r0)])) _
    refine XS.iloadN X27.here hx rfl (hb hby d4_198) rfl ?_
    show Steps p.tables e below (T27.setTop (mkF m 199 (LS_RRIJsJsJsJsJsJsJsJsJs r0 r1 p2 z20 z3 z6 z9 z12 z15 z18 z21 z22) [(.int p2), (.ref r1), (.int (2 : Int32)), (.ref r0)])) _
    refine XS.iconst X27.here hx rfl (hb hby d4_199) ?_
    show Steps p.tables e below (T27.setTop (mkF m 200 (LS_RRIJsJsJsJsJsJsJsJsJs r0 r1 p2 z20 z3 z6 z9 z12 z15 z18 z21 z22) [(.int (2 : Int32)), (.int p2), (.ref r1), (.int (2 : Int32)), (.ref r0)])) _
    refine XS.iadd X27.here hx rfl (hb hby d4_200) rfl ?_
    show Steps p.tables e below (T27.setTop (mkF m 201 (LS_RRIJsJsJsJsJsJsJsJsJs r0 r1 p2 z20 z3 z6 z9 z12 z15 z18 z21 z22) [(.int (p2 + (2 : Int32))), (.ref r1), (.int (2 : Int32)), (.ref r0)])) _
    refine X27.laload hx (j := (p2 + (2 : Int32))) (v := (.long x2)) (by rw [e27]; exact Aq1_v28.1) (State.isArrayOf_alike hZ.alike Aq1_v28.2.1) Aq1_v28.2.2 hin2 hat2 (g := (mkF m 201 (LS_RRIJsJsJsJsJsJsJsJsJs r0 r1 p2 z20 z3 z6 z9 z12 z15 z18 z21 z22) [(.int (p2 + (2 : Int32))), (.ref r1), (.int (2 : Int32)), (.ref r0)])) rfl rfl (hb hby d4_201) _ ?_
    show Steps p.tables e below (T27.setTop (mkF m 202 (LS_RRIJsJsJsJsJsJsJsJsJs r0 r1 p2 z20 z3 z6 z9 z12 z15 z18 z21 z22) [(.long x2), (.int (2 : Int32)), (.ref r0)])) _
    refine XS.lload X27.here hx rfl (hb hby d4_202) rfl ?_
    show Steps p.tables e below (T27.setTop (mkF m 204 (LS_RRIJsJsJsJsJsJsJsJsJs r0 r1 p2 z20 z3 z6 z9 z12 z15 z18 z21 z22) [(.long z22), (.long x2), (.int (2 : Int32)), (.ref r0)])) _
    refine XS.land X27.here hx rfl (hb hby d4_204) rfl ?_
    show Steps p.tables e below (T27.setTop (mkF m 205 (LS_RRIJsJsJsJsJsJsJsJsJs r0 r1 p2 z20 z3 z6 z9 z12 z15 z18 z21 z22) [(.long (x2 &&& z22)), (.int (2 : Int32)), (.ref r0)])) _
    refine XS.lload X27.here hx rfl (hb hby d4_205) rfl ?_
    show Steps p.tables e below (T27.setTop (mkF m 207 (LS_RRIJsJsJsJsJsJsJsJsJs r0 r1 p2 z20 z3 z6 z9 z12 z15 z18 z21 z22) [(.long z9), (.long (x2 &&& z22)), (.int (2 : Int32)), (.ref r0)])) _
    refine XS.lload X27.here hx rfl (hb hby d4_207) rfl ?_
    show Steps p.tables e below (T27.setTop (mkF m 209 (LS_RRIJsJsJsJsJsJsJsJsJs r0 r1 p2 z20 z3 z6 z9 z12 z15 z18 z21 z22) [(.long z22), (.long z9), (.long (x2 &&& z22)), (.int (2 : Int32)), (.ref r0)])) _
    refine X27.ldc2Long hx hown (mvT hZ (hw _ (List.mem_of_getElem? (i := 37) rfl))) (g := (mkF m 209 (LS_RRIJsJsJsJsJsJsJsJsJs r0 r1 p2 z20 z3 z6 z9 z12 z15 z18 z21 z22) [(.long z22), (.long z9), (.long (x2 &&& z22)), (.int (2 : Int32)), (.ref r0)])) rfl (hb hby d4_209) _ ?_
    show Steps p.tables e below (T27.setTop (mkF m 212 (LS_RRIJsJsJsJsJsJsJsJsJs r0 r1 p2 z20 z3 z6 z9 z12 z15 z18 z21 z22) [(.long (-1 : Int64)), (.long z22), (.long z9), (.long (x2 &&& z22)), (.int (2 : Int32)), (.ref r0)])) _
    refine XS.lxor X27.here hx rfl (hb hby d4_212) rfl ?_
    show Steps p.tables e below (T27.setTop (mkF m 213 (LS_RRIJsJsJsJsJsJsJsJsJs r0 r1 p2 z20 z3 z6 z9 z12 z15 z18 z21 z22) [(.long (z22 ^^^ (-1 : Int64))), (.long z9), (.long (x2 &&& z22)), (.int (2 : Int32)), (.ref r0)])) _
    refine XS.land X27.here hx rfl (hb hby d4_213) rfl ?_
    show Steps p.tables e below (T27.setTop (mkF m 214 (LS_RRIJsJsJsJsJsJsJsJsJs r0 r1 p2 z20 z3 z6 z9 z12 z15 z18 z21 z22) [(.long (z9 &&& (z22 ^^^ (-1 : Int64)))), (.long (x2 &&& z22)), (.int (2 : Int32)), (.ref r0)])) _
    refine XS.lor X27.here hx rfl (hb hby d4_214) rfl ?_
    exact k
  obtain ⟨cl29, Ar29, qa29, Sa29, Na29, Ha29, Ga29⟩ := id V27
  have hin30 : ¬ ((2 : Int32) < 0 ∨ cl29.slots.size ≤ ((2 : Int32)).toNatClampNeg) := inb_of Sa29 ⟨by decide, by decide⟩
  obtain ⟨T30, h30, X30, e30, W30, st30⟩ := stJ X27 hx hZ e27 Ar29 (j := (2 : Int32)) hin30 (g := (mkF m 215 (LS_RRIJsJsJsJsJsJsJsJsJs r0 r1 p2 z20 z3 z6 z9 z12 z15 z18 z21 z22) [(.long ((x2 &&& z22) ||| (z9 &&& (z22 ^^^ (-1 : Int64))))), (.int (2 : Int32)), (.ref r0)])) rfl rfl (hb hby d4_215)
  have N30 := Fr.snoc X30 N27 g_r0
  have V30 : Arv Z h30 r0 kq1 .long (7 : Int32) [(.long ((x0 &&& z22) ||| (z3 &&& (z22 ^^^ (-1 : Int64))))), (.long ((x1 &&& z22) ||| (z6 &&& (z22 ^^^ (-1 : Int64))))), (.long ((x2 &&& z22) ||| (z9 &&& (z22 ^^^ (-1 : Int64))))), (.long (0 : Int64)), (.long (0 : Int64)), (.long (0 : Int64)), (.long (0 : Int64))] (.long (0 : Int64)) := Arv.set Ar29 qa29 Sa29 Na29 Ha29 Ga29 rfl W30 2 rfl (Nat.le_of_ble_eq_true rfl)
  refine own_go (B := T30.setTop (mkF m 216 (LS_RRIJsJsJsJsJsJsJsJsJs r0 r1 p2 z20 z3 z6 z9 z12 z15 z18 z21 z22) [])) (fun t k => st30 _ k) ?_
  have Aq1_v31 := Aq1_v28.other W30 hne
  refine own_go (B := T30.setTop (mkF m 236 (LS_RRIJsJsJsJsJsJsJsJsJs r0 r1 p2 z20 z3 z6 z9 z12 z15 z18 z21 z22) [(.long ((x3 &&& z22) ||| (z12 &&& (z22 ^^^ (-1 : Int64))))), (.int (3 : Int32)), (.ref r0)])) (fun t k => ?_) ?_
  · show Steps p.tables e below (T30.setTop (mkF m 216 (LS_RRIJsJsJsJsJsJsJsJsJs r0 r1 p2 z20 z3 z6 z9 z12 z15 z18 z21 z22) [])) _
    refine XS.aloadN X30.here hx rfl (hb hby d4_216) rfl rfl ?_
    show Steps p.tables e below (T30.setTop (mkF m 217 (LS_RRIJsJsJsJsJsJsJsJsJs r0 r1 p2 z20 z3 z6 z9 z12 z15 z18 z21 z22) [(.ref r0)])) _
    refine XS.iconst X30.here hx rfl (hb hby d4_217) ?_
    show Steps p.tables e below (T30.setTop (mkF m 218 (LS_RRIJsJsJsJsJsJsJsJsJs r0 r1 p2 z20 z3 z6 z9 z12 z15 z18 z21 z22) [(.int (3 : Int32)), (.ref r0)])) _
    refine XS.aloadN X30.here hx rfl (hb hby d4_218) rfl rfl ?_
    show Steps p.tables e below (T30.setTop (mkF m 219 (LS_RRIJsJsJsJsJsJsJsJsJs r0 r1 p2 z20 z3 z6 z9 z12 z15 z18 z21 z22) [(.ref r1), (.int (3 : Int32)), (.ref r0)])) _
    refine XS.iloadN X30.here hx rfl (hb hby d4_219) rfl ?_
    show Steps p.tables e below (T30.setTop (mkF m 220 (LS_RRIJsJsJsJsJsJsJsJsJs r0 r1 p2 z20 z3 z6 z9 z12 z15 z18 z21 z22) [(.int p2), (.ref r1), (.int (3 : Int32)), (.ref r0)])) _
    refine XS.iconst X30.here hx rfl (hb hby d4_220) ?_
    show Steps p.tables e below (T30.setTop (mkF m 221 (LS_RRIJsJsJsJsJsJsJsJsJs r0 r1 p2 z20 z3 z6 z9 z12 z15 z18 z21 z22) [(.int (3 : Int32)), (.int p2), (.ref r1), (.int (3 : Int32)), (.ref r0)])) _
    refine XS.iadd X30.here hx rfl (hb hby d4_221) rfl ?_
    show Steps p.tables e below (T30.setTop (mkF m 222 (LS_RRIJsJsJsJsJsJsJsJsJs r0 r1 p2 z20 z3 z6 z9 z12 z15 z18 z21 z22) [(.int (p2 + (3 : Int32))), (.ref r1), (.int (3 : Int32)), (.ref r0)])) _
    refine X30.laload hx (j := (p2 + (3 : Int32))) (v := (.long x3)) (by rw [e30]; exact Aq1_v31.1) (State.isArrayOf_alike hZ.alike Aq1_v31.2.1) Aq1_v31.2.2 hin3 hat3 (g := (mkF m 222 (LS_RRIJsJsJsJsJsJsJsJsJs r0 r1 p2 z20 z3 z6 z9 z12 z15 z18 z21 z22) [(.int (p2 + (3 : Int32))), (.ref r1), (.int (3 : Int32)), (.ref r0)])) rfl rfl (hb hby d4_222) _ ?_
    show Steps p.tables e below (T30.setTop (mkF m 223 (LS_RRIJsJsJsJsJsJsJsJsJs r0 r1 p2 z20 z3 z6 z9 z12 z15 z18 z21 z22) [(.long x3), (.int (3 : Int32)), (.ref r0)])) _
    refine XS.lload X30.here hx rfl (hb hby d4_223) rfl ?_
    show Steps p.tables e below (T30.setTop (mkF m 225 (LS_RRIJsJsJsJsJsJsJsJsJs r0 r1 p2 z20 z3 z6 z9 z12 z15 z18 z21 z22) [(.long z22), (.long x3), (.int (3 : Int32)), (.ref r0)])) _
    refine XS.land X30.here hx rfl (hb hby d4_225) rfl ?_
    show Steps p.tables e below (T30.setTop (mkF m 226 (LS_RRIJsJsJsJsJsJsJsJsJs r0 r1 p2 z20 z3 z6 z9 z12 z15 z18 z21 z22) [(.long (x3 &&& z22)), (.int (3 : Int32)), (.ref r0)])) _
    refine XS.lload X30.here hx rfl (hb hby d4_226) rfl ?_
    show Steps p.tables e below (T30.setTop (mkF m 228 (LS_RRIJsJsJsJsJsJsJsJsJs r0 r1 p2 z20 z3 z6 z9 z12 z15 z18 z21 z22) [(.long z12), (.long (x3 &&& z22)), (.int (3 : Int32)), (.ref r0)])) _
    refine XS.lload X30.here hx rfl (hb hby d4_228) rfl ?_
    show Steps p.tables e below (T30.setTop (mkF m 230 (LS_RRIJsJsJsJsJsJsJsJsJs r0 r1 p2 z20 z3 z6 z9 z12 z15 z18 z21 z22) [(.long z22), (.long z12), (.long (x3 &&& z22)), (.int (3 : Int32)), (.ref r0)])) _
    refine X30.ldc2Long hx hown (mvT hZ (hw _ (List.mem_of_getElem? (i := 37) rfl))) (g := (mkF m 230 (LS_RRIJsJsJsJsJsJsJsJsJs r0 r1 p2 z20 z3 z6 z9 z12 z15 z18 z21 z22) [(.long z22), (.long z12), (.long (x3 &&& z22)), (.int (3 : Int32)), (.ref r0)])) rfl (hb hby d4_230) _ ?_
    show Steps p.tables e below (T30.setTop (mkF m 233 (LS_RRIJsJsJsJsJsJsJsJsJs r0 r1 p2 z20 z3 z6 z9 z12 z15 z18 z21 z22) [(.long (-1 : Int64)), (.long z22), (.long z12), (.long (x3 &&& z22)), (.int (3 : Int32)), (.ref r0)])) _
    refine XS.lxor X30.here hx rfl (hb hby d4_233) rfl ?_
    show Steps p.tables e below (T30.setTop (mkF m 234 (LS_RRIJsJsJsJsJsJsJsJsJs r0 r1 p2 z20 z3 z6 z9 z12 z15 z18 z21 z22) [(.long (z22 ^^^ (-1 : Int64))), (.long z12), (.long (x3 &&& z22)), (.int (3 : Int32)), (.ref r0)])) _
    refine XS.land X30.here hx rfl (hb hby d4_234) rfl ?_
    show Steps p.tables e below (T30.setTop (mkF m 235 (LS_RRIJsJsJsJsJsJsJsJsJs r0 r1 p2 z20 z3 z6 z9 z12 z15 z18 z21 z22) [(.long (z12 &&& (z22 ^^^ (-1 : Int64)))), (.long (x3 &&& z22)), (.int (3 : Int32)), (.ref r0)])) _
    refine XS.lor X30.here hx rfl (hb hby d4_235) rfl ?_
    exact k
  obtain ⟨cl32, Ar32, qa32, Sa32, Na32, Ha32, Ga32⟩ := id V30
  have hin33 : ¬ ((3 : Int32) < 0 ∨ cl32.slots.size ≤ ((3 : Int32)).toNatClampNeg) := inb_of Sa32 ⟨by decide, by decide⟩
  obtain ⟨T33, h33, X33, e33, W33, st33⟩ := stJ X30 hx hZ e30 Ar32 (j := (3 : Int32)) hin33 (g := (mkF m 236 (LS_RRIJsJsJsJsJsJsJsJsJs r0 r1 p2 z20 z3 z6 z9 z12 z15 z18 z21 z22) [(.long ((x3 &&& z22) ||| (z12 &&& (z22 ^^^ (-1 : Int64))))), (.int (3 : Int32)), (.ref r0)])) rfl rfl (hb hby d4_236)
  have N33 := Fr.snoc X33 N30 g_r0
  have V33 : Arv Z h33 r0 kq1 .long (7 : Int32) [(.long ((x0 &&& z22) ||| (z3 &&& (z22 ^^^ (-1 : Int64))))), (.long ((x1 &&& z22) ||| (z6 &&& (z22 ^^^ (-1 : Int64))))), (.long ((x2 &&& z22) ||| (z9 &&& (z22 ^^^ (-1 : Int64))))), (.long ((x3 &&& z22) ||| (z12 &&& (z22 ^^^ (-1 : Int64))))), (.long (0 : Int64)), (.long (0 : Int64)), (.long (0 : Int64))] (.long (0 : Int64)) := Arv.set Ar32 qa32 Sa32 Na32 Ha32 Ga32 rfl W33 3 rfl (Nat.le_of_ble_eq_true rfl)
  refine own_go (B := T33.setTop (mkF m 237 (LS_RRIJsJsJsJsJsJsJsJsJs r0 r1 p2 z20 z3 z6 z9 z12 z15 z18 z21 z22) [])) (fun t k => st33 _ k) ?_
  have Aq1_v34 := Aq1_v31.other W33 hne
  refine own_go (B := T33.setTop (mkF m 257 (LS_RRIJsJsJsJsJsJsJsJsJs r0 r1 p2 z20 z3 z6 z9 z12 z15 z18 z21 z22) [(.long ((x4 &&& z22) ||| (z15 &&& (z22 ^^^ (-1 : Int64))))), (.int (4 : Int32)), (.ref r0)])) (fun t k => ?_) ?_
  · show Steps p.tables e below (T33.setTop (mkF m 237 (LS_RRIJsJsJsJsJsJsJsJsJs r0 r1 p2 z20 z3 z6 z9 z12 z15 z18 z21 z22) [])) _
    refine XS.aloadN X33.here hx rfl (hb hby d4_237) rfl rfl ?_
    show Steps p.tables e below (T33.setTop (mkF m 238 (LS_RRIJsJsJsJsJsJsJsJsJs r0 r1 p2 z20 z3 z6 z9 z12 z15 z18 z21 z22) [(.ref r0)])) _
    refine XS.iconst X33.here hx rfl (hb hby d4_238) ?_
    show Steps p.tables e below (T33.setTop (mkF m 239 (LS_RRIJsJsJsJsJsJsJsJsJs r0 r1 p2 z20 z3 z6 z9 z12 z15 z18 z21 z22) [(.int (4 : Int32)), (.ref r0)])) _
    refine XS.aloadN X33.here hx rfl (hb hby d4_239) rfl rfl ?_
    show Steps p.tables e below (T33.setTop (mkF m 240 (LS_RRIJsJsJsJsJsJsJsJsJs r0 r1 p2 z20 z3 z6 z9 z12 z15 z18 z21 z22) [(.ref r1), (.int (4 : Int32)), (.ref r0)])) _
    refine XS.iloadN X33.here hx rfl (hb hby d4_240) rfl ?_
    show Steps p.tables e below (T33.setTop (mkF m 241 (LS_RRIJsJsJsJsJsJsJsJsJs r0 r1 p2 z20 z3 z6 z9 z12 z15 z18 z21 z22) [(.int p2), (.ref r1), (.int (4 : Int32)), (.ref r0)])) _
    refine XS.iconst X33.here hx rfl (hb hby d4_241) ?_
    show Steps p.tables e below (T33.setTop (mkF m 242 (LS_RRIJsJsJsJsJsJsJsJsJs r0 r1 p2 z20 z3 z6 z9 z12 z15 z18 z21 z22) [(.int (4 : Int32)), (.int p2), (.ref r1), (.int (4 : Int32)), (.ref r0)])) _
    refine XS.iadd X33.here hx rfl (hb hby d4_242) rfl ?_
    show Steps p.tables e below (T33.setTop (mkF m 243 (LS_RRIJsJsJsJsJsJsJsJsJs r0 r1 p2 z20 z3 z6 z9 z12 z15 z18 z21 z22) [(.int (p2 + (4 : Int32))), (.ref r1), (.int (4 : Int32)), (.ref r0)])) _
    refine X33.laload hx (j := (p2 + (4 : Int32))) (v := (.long x4)) (by rw [e33]; exact Aq1_v34.1) (State.isArrayOf_alike hZ.alike Aq1_v34.2.1) Aq1_v34.2.2 hin4 hat4 (g := (mkF m 243 (LS_RRIJsJsJsJsJsJsJsJsJs r0 r1 p2 z20 z3 z6 z9 z12 z15 z18 z21 z22) [(.int (p2 + (4 : Int32))), (.ref r1), (.int (4 : Int32)), (.ref r0)])) rfl rfl (hb hby d4_243) _ ?_
    show Steps p.tables e below (T33.setTop (mkF m 244 (LS_RRIJsJsJsJsJsJsJsJsJs r0 r1 p2 z20 z3 z6 z9 z12 z15 z18 z21 z22) [(.long x4), (.int (4 : Int32)), (.ref r0)])) _
    refine XS.lload X33.here hx rfl (hb hby d4_244) rfl ?_
    show Steps p.tables e below (T33.setTop (mkF m 246 (LS_RRIJsJsJsJsJsJsJsJsJs r0 r1 p2 z20 z3 z6 z9 z12 z15 z18 z21 z22) [(.long z22), (.long x4), (.int (4 : Int32)), (.ref r0)])) _
    refine XS.land X33.here hx rfl (hb hby d4_246) rfl ?_
    show Steps p.tables e below (T33.setTop (mkF m 247 (LS_RRIJsJsJsJsJsJsJsJsJs r0 r1 p2 z20 z3 z6 z9 z12 z15 z18 z21 z22) [(.long (x4 &&& z22)), (.int (4 : Int32)), (.ref r0)])) _
    refine XS.lload X33.here hx rfl (hb hby d4_247) rfl ?_
    show Steps p.tables e below (T33.setTop (mkF m 249 (LS_RRIJsJsJsJsJsJsJsJsJs r0 r1 p2 z20 z3 z6 z9 z12 z15 z18 z21 z22) [(.long z15), (.long (x4 &&& z22)), (.int (4 : Int32)), (.ref r0)])) _
    refine XS.lload X33.here hx rfl (hb hby d4_249) rfl ?_
    show Steps p.tables e below (T33.setTop (mkF m 251 (LS_RRIJsJsJsJsJsJsJsJsJs r0 r1 p2 z20 z3 z6 z9 z12 z15 z18 z21 z22) [(.long z22), (.long z15), (.long (x4 &&& z22)), (.int (4 : Int32)), (.ref r0)])) _
    refine X33.ldc2Long hx hown (mvT hZ (hw _ (List.mem_of_getElem? (i := 37) rfl))) (g := (mkF m 251 (LS_RRIJsJsJsJsJsJsJsJsJs r0 r1 p2 z20 z3 z6 z9 z12 z15 z18 z21 z22) [(.long z22), (.long z15), (.long (x4 &&& z22)), (.int (4 : Int32)), (.ref r0)])) rfl (hb hby d4_251) _ ?_
    show Steps p.tables e below (T33.setTop (mkF m 254 (LS_RRIJsJsJsJsJsJsJsJsJs r0 r1 p2 z20 z3 z6 z9 z12 z15 z18 z21 z22) [(.long (-1 : Int64)), (.long z22), (.long z15), (.long (x4 &&& z22)), (.int (4 : Int32)), (.ref r0)])) _
    refine XS.lxor X33.here hx rfl (hb hby d4_254) rfl ?_
    show Steps p.tables e below (T33.setTop (mkF m 255 (LS_RRIJsJsJsJsJsJsJsJsJs r0 r1 p2 z20 z3 z6 z9 z12 z15 z18 z21 z22) [(.long (z22 ^^^ (-1 : Int64))), (.long z15), (.long (x4 &&& z22)), (.int (4 : Int32)), (.ref r0)])) _
    refine XS.land X33.here hx rfl (hb hby d4_255) rfl ?_
    show Steps p.tables e below (T33.setTop (mkF m 256 (LS_RRIJsJsJsJsJsJsJsJsJs r0 r1 p2 z20 z3 z6 z9 z12 z15 z18 z21 z22) [(.long (z15 &&& (z22 ^^^ (-1 : Int64)))), (.long (x4 &&& z22)), (.int (4 : Int32)), (.ref r0)])) _
    refine XS.lor X33.here hx rfl (hb hby d4_256) rfl ?_
    exact k
  obtain ⟨cl35, Ar35, qa35, Sa35, Na35, Ha35, Ga35⟩ := id V33
  have hin36 : ¬ ((4 : Int32) < 0 ∨ cl35.slots.size ≤ ((4 : Int32)).toNatClampNeg) := inb_of Sa35 ⟨by decide, by decide⟩
  obtain ⟨T36, h36, X36, e36, W36, st36⟩ := stJ X33 hx hZ e33 Ar35 (j := (4 : Int32)) hin36 (g := (mkF m 257 (LS_RRIJsJsJsJsJsJsJsJsJs r0 r1 p2 z20 z3 z6 z9 z12 z15 z18 z21 z22) [(.long ((x4 &&& z22) ||| (z15 &&& (z22 ^^^ (-1 : Int64))))), (.int (4 : Int32)), (.ref r0)])) rfl rfl (hb hby d4_257)
  have N36 := Fr.snoc X36 N33 g_r0
  have V36 : Arv Z h36 r0 kq1 .long (7 : Int32) [(.long ((x0 &&& z22) ||| (z3 &&& (z22 ^^^ (-1 : Int64))))), (.long ((x1 &&& z22) ||| (z6 &&& (z22 ^^^ (-1 : Int64))))), (.long ((x2 &&& z22) ||| (z9 &&& (z22 ^^^ (-1 : Int64))))), (.long ((x3 &&& z22) ||| (z12 &&& (z22 ^^^ (-1 : Int64))))), (.long ((x4 &&& z22) ||| (z15 &&& (z22 ^^^ (-1 : Int64))))), (.long (0 : Int64)), (.long (0 : Int64))] (.long (0 : Int64)) := Arv.set Ar35 qa35 Sa35 Na35 Ha35 Ga35 rfl W36 4 rfl (Nat.le_of_ble_eq_true rfl)
  refine own_go (B := T36.setTop (mkF m 258 (LS_RRIJsJsJsJsJsJsJsJsJs r0 r1 p2 z20 z3 z6 z9 z12 z15 z18 z21 z22) [])) (fun t k => st36 _ k) ?_
  have Aq1_v37 := Aq1_v34.other W36 hne
  refine own_go (B := T36.setTop (mkF m 278 (LS_RRIJsJsJsJsJsJsJsJsJs r0 r1 p2 z20 z3 z6 z9 z12 z15 z18 z21 z22) [(.long ((x5 &&& z22) ||| (z18 &&& (z22 ^^^ (-1 : Int64))))), (.int (5 : Int32)), (.ref r0)])) (fun t k => ?_) ?_
  · show Steps p.tables e below (T36.setTop (mkF m 258 (LS_RRIJsJsJsJsJsJsJsJsJs r0 r1 p2 z20 z3 z6 z9 z12 z15 z18 z21 z22) [])) _
    refine XS.aloadN X36.here hx rfl (hb hby d4_258) rfl rfl ?_
    show Steps p.tables e below (T36.setTop (mkF m 259 (LS_RRIJsJsJsJsJsJsJsJsJs r0 r1 p2 z20 z3 z6 z9 z12 z15 z18 z21 z22) [(.ref r0)])) _
    refine XS.iconst X36.here hx rfl (hb hby d4_259) ?_
    show Steps p.tables e below (T36.setTop (mkF m 260 (LS_RRIJsJsJsJsJsJsJsJsJs r0 r1 p2 z20 z3 z6 z9 z12 z15 z18 z21 z22) [(.int (5 : Int32)), (.ref r0)])) _
    refine XS.aloadN X36.here hx rfl (hb hby d4_260) rfl rfl ?_
    show Steps p.tables e below (T36.setTop (mkF m 261 (LS_RRIJsJsJsJsJsJsJsJsJs r0 r1 p2 z20 z3 z6 z9 z12 z15 z18 z21 z22) [(.ref r1), (.int (5 : Int32)), (.ref r0)])) _
    refine XS.iloadN X36.here hx rfl (hb hby d4_261) rfl ?_
    show Steps p.tables e below (T36.setTop (mkF m 262 (LS_RRIJsJsJsJsJsJsJsJsJs r0 r1 p2 z20 z3 z6 z9 z12 z15 z18 z21 z22) [(.int p2), (.ref r1), (.int (5 : Int32)), (.ref r0)])) _
    refine XS.iconst X36.here hx rfl (hb hby d4_262) ?_
    show Steps p.tables e below (T36.setTop (mkF m 263 (LS_RRIJsJsJsJsJsJsJsJsJs r0 r1 p2 z20 z3 z6 z9 z12 z15 z18 z21 z22) [(.int (5 : Int32)), (.int p2), (.ref r1), (.int (5 : Int32)), (.ref r0)])) _
    refine XS.iadd X36.here hx rfl (hb hby d4_263) rfl ?_
    show Steps p.tables e below (T36.setTop (mkF m 264 (LS_RRIJsJsJsJsJsJsJsJsJs r0 r1 p2 z20 z3 z6 z9 z12 z15 z18 z21 z22) [(.int (p2 + (5 : Int32))), (.ref r1), (.int (5 : Int32)), (.ref r0)])) _
    refine X36.laload hx (j := (p2 + (5 : Int32))) (v := (.long x5)) (by rw [e36]; exact Aq1_v37.1) (State.isArrayOf_alike hZ.alike Aq1_v37.2.1) Aq1_v37.2.2 hin5 hat5 (g := (mkF m 264 (LS_RRIJsJsJsJsJsJsJsJsJs r0 r1 p2 z20 z3 z6 z9 z12 z15 z18 z21 z22) [(.int (p2 + (5 : Int32))), (.ref r1), (.int (5 : Int32)), (.ref r0)])) rfl rfl (hb hby d4_264) _ ?_
    show Steps p.tables e below (T36.setTop (mkF m 265 (LS_RRIJsJsJsJsJsJsJsJsJs r0 r1 p2 z20 z3 z6 z9 z12 z15 z18 z21 z22) [(.long x5), (.int (5 : Int32)), (.ref r0)])) _
    refine XS.lload X36.here hx rfl (hb hby d4_265) rfl ?_
    show Steps p.tables e below (T36.setTop (mkF m 267 (LS_RRIJsJsJsJsJsJsJsJsJs r0 r1 p2 z20 z3 z6 z9 z12 z15 z18 z21 z22) [(.long z22), (.long x5), (.int (5 : Int32)), (.ref r0)])) _
    refine XS.land X36.here hx rfl (hb hby d4_267) rfl ?_
    show Steps p.tables e below (T36.setTop (mkF m 268 (LS_RRIJsJsJsJsJsJsJsJsJs r0 r1 p2 z20 z3 z6 z9 z12 z15 z18 z21 z22) [(.long (x5 &&& z22)), (.int (5 : Int32)), (.ref r0)])) _
    refine XS.lload X36.here hx rfl (hb hby d4_268) rfl ?_
    show Steps p.tables e below (T36.setTop (mkF m 270 (LS_RRIJsJsJsJsJsJsJsJsJs r0 r1 p2 z20 z3 z6 z9 z12 z15 z18 z21 z22) [(.long z18), (.long (x5 &&& z22)), (.int (5 : Int32)), (.ref r0)])) _
    refine XS.lload X36.here hx rfl (hb hby d4_270) rfl ?_
    show Steps p.tables e below (T36.setTop (mkF m 272 (LS_RRIJsJsJsJsJsJsJsJsJs r0 r1 p2 z20 z3 z6 z9 z12 z15 z18 z21 z22) [(.long z22), (.long z18), (.long (x5 &&& z22)), (.int (5 : Int32)), (.ref r0)])) _
    refine X36.ldc2Long hx hown (mvT hZ (hw _ (List.mem_of_getElem? (i := 37) rfl))) (g := (mkF m 272 (LS_RRIJsJsJsJsJsJsJsJsJs r0 r1 p2 z20 z3 z6 z9 z12 z15 z18 z21 z22) [(.long z22), (.long z18), (.long (x5 &&& z22)), (.int (5 : Int32)), (.ref r0)])) rfl (hb hby d4_272) _ ?_
    show Steps p.tables e below (T36.setTop (mkF m 275 (LS_RRIJsJsJsJsJsJsJsJsJs r0 r1 p2 z20 z3 z6 z9 z12 z15 z18 z21 z22) [(.long (-1 : Int64)), (.long z22), (.long z18), (.long (x5 &&& z22)), (.int (5 : Int32)), (.ref r0)])) _
    refine XS.lxor X36.here hx rfl (hb hby d4_275) rfl ?_
    show Steps p.tables e below (T36.setTop (mkF m 276 (LS_RRIJsJsJsJsJsJsJsJsJs r0 r1 p2 z20 z3 z6 z9 z12 z15 z18 z21 z22) [(.long (z22 ^^^ (-1 : Int64))), (.long z18), (.long (x5 &&& z22)), (.int (5 : Int32)), (.ref r0)])) _
    refine XS.land X36.here hx rfl (hb hby d4_276) rfl ?_
    show Steps p.tables e below (T36.setTop (mkF m 277 (LS_RRIJsJsJsJsJsJsJsJsJs r0 r1 p2 z20 z3 z6 z9 z12 z15 z18 z21 z22) [(.long (z18 &&& (z22 ^^^ (-1 : Int64)))), (.long (x5 &&& z22)), (.int (5 : Int32)), (.ref r0)])) _
    refine XS.lor X36.here hx rfl (hb hby d4_277) rfl ?_
    exact k
  obtain ⟨cl38, Ar38, qa38, Sa38, Na38, Ha38, Ga38⟩ := id V36
  have hin39 : ¬ ((5 : Int32) < 0 ∨ cl38.slots.size ≤ ((5 : Int32)).toNatClampNeg) := inb_of Sa38 ⟨by decide, by decide⟩
  obtain ⟨T39, h39, X39, e39, W39, st39⟩ := stJ X36 hx hZ e36 Ar38 (j := (5 : Int32)) hin39 (g := (mkF m 278 (LS_RRIJsJsJsJsJsJsJsJsJs r0 r1 p2 z20 z3 z6 z9 z12 z15 z18 z21 z22) [(.long ((x5 &&& z22) ||| (z18 &&& (z22 ^^^ (-1 : Int64))))), (.int (5 : Int32)), (.ref r0)])) rfl rfl (hb hby d4_278)
  have N39 := Fr.snoc X39 N36 g_r0
  have V39 : Arv Z h39 r0 kq1 .long (7 : Int32) [(.long ((x0 &&& z22) ||| (z3 &&& (z22 ^^^ (-1 : Int64))))), (.long ((x1 &&& z22) ||| (z6 &&& (z22 ^^^ (-1 : Int64))))), (.long ((x2 &&& z22) ||| (z9 &&& (z22 ^^^ (-1 : Int64))))), (.long ((x3 &&& z22) ||| (z12 &&& (z22 ^^^ (-1 : Int64))))), (.long ((x4 &&& z22) ||| (z15 &&& (z22 ^^^ (-1 : Int64))))), (.long ((x5 &&& z22) ||| (z18 &&& (z22 ^^^ (-1 : Int64))))), (.long (0 : Int64))] (.long (0 : Int64)) := Arv.set Ar38 qa38 Sa38 Na38 Ha38 Ga38 rfl W39 5 rfl (Nat.le_of_ble_eq_true rfl)
  refine own_go (B := T39.setTop (mkF m 279 (LS_RRIJsJsJsJsJsJsJsJsJs r0 r1 p2 z20 z3 z6 z9 z12 z15 z18 z21 z22) [])) (fun t k => st39 _ k) ?_
  have Aq1_v40 := Aq1_v37.other W39 hne
  refine own_go (B := T39.setTop (mkF m 301 (LS_RRIJsJsJsJsJsJsJsJsJs r0 r1 p2 z20 z3 z6 z9 z12 z15 z18 z21 z22) [(.long ((x6 &&& z22) ||| (z21 &&& (z22 ^^^ (-1 : Int64))))), (.int (6 : Int32)), (.ref r0)])) (fun t k => ?_) ?_
  · show Steps p.tables e below (T39.setTop (mkF m 279 (LS_RRIJsJsJsJsJsJsJsJsJs r0 r1 p2 z20 z3 z6 z9 z12 z15 z18 z21 z22) [])) _
    refine XS.aloadN X39.here hx rfl (hb hby d4_279) rfl rfl ?_
    show Steps p.tables e below (T39.setTop (mkF m 280 (LS_RRIJsJsJsJsJsJsJsJsJs r0 r1 p2 z20 z3 z6 z9 z12 z15 z18 z21 z22) [(.ref r0)])) _
    refine XS.bipush X39.here hx rfl (hb hby d4_280) ?_
    show Steps p.tables e below (T39.setTop (mkF m 282 (LS_RRIJsJsJsJsJsJsJsJsJs r0 r1 p2 z20 z3 z6 z9 z12 z15 z18 z21 z22) [(.int (6 : Int32)), (.ref r0)])) _
    refine XS.aloadN X39.here hx rfl (hb hby d4_282) rfl rfl ?_
    show Steps p.tables e below (T39.setTop (mkF m 283 (LS_RRIJsJsJsJsJsJsJsJsJs r0 r1 p2 z20 z3 z6 z9 z12 z15 z18 z21 z22) [(.ref r1), (.int (6 : Int32)), (.ref r0)])) _
    refine XS.iloadN X39.here hx rfl (hb hby d4_283) rfl ?_
    show Steps p.tables e below (T39.setTop (mkF m 284 (LS_RRIJsJsJsJsJsJsJsJsJs r0 r1 p2 z20 z3 z6 z9 z12 z15 z18 z21 z22) [(.int p2), (.ref r1), (.int (6 : Int32)), (.ref r0)])) _
    refine XS.bipush X39.here hx rfl (hb hby d4_284) ?_
    show Steps p.tables e below (T39.setTop (mkF m 286 (LS_RRIJsJsJsJsJsJsJsJsJs r0 r1 p2 z20 z3 z6 z9 z12 z15 z18 z21 z22) [(.int (6 : Int32)), (.int p2), (.ref r1), (.int (6 : Int32)), (.ref r0)])) _
    refine XS.iadd X39.here hx rfl (hb hby d4_286) rfl ?_
    show Steps p.tables e below (T39.setTop (mkF m 287 (LS_RRIJsJsJsJsJsJsJsJsJs r0 r1 p2 z20 z3 z6 z9 z12 z15 z18 z21 z22) [(.int (p2 + (6 : Int32))), (.ref r1), (.int (6 : Int32)), (.ref r0)])) _
    refine X39.laload hx (j := (p2 + (6 : Int32))) (v := (.long x6)) (by rw [e39]; exact Aq1_v40.1) (State.isArrayOf_alike hZ.alike Aq1_v40.2.1) Aq1_v40.2.2 hin6 hat6 (g := (mkF m 287 (LS_RRIJsJsJsJsJsJsJsJsJs r0 r1 p2 z20 z3 z6 z9 z12 z15 z18 z21 z22) [(.int (p2 + (6 : Int32))), (.ref r1), (.int (6 : Int32)), (.ref r0)])) rfl rfl (hb hby d4_287) _ ?_
    show Steps p.tables e below (T39.setTop (mkF m 288 (LS_RRIJsJsJsJsJsJsJsJsJs r0 r1 p2 z20 z3 z6 z9 z12 z15 z18 z21 z22) [(.long x6), (.int (6 : Int32)), (.ref r0)])) _
    refine XS.lload X39.here hx rfl (hb hby d4_288) rfl ?_
    show Steps p.tables e below (T39.setTop (mkF m 290 (LS_RRIJsJsJsJsJsJsJsJsJs r0 r1 p2 z20 z3 z6 z9 z12 z15 z18 z21 z22) [(.long z22), (.long x6), (.int (6 : Int32)), (.ref r0)])) _
    refine XS.land X39.here hx rfl (hb hby d4_290) rfl ?_
    show Steps p.tables e below (T39.setTop (mkF m 291 (LS_RRIJsJsJsJsJsJsJsJsJs r0 r1 p2 z20 z3 z6 z9 z12 z15 z18 z21 z22) [(.long (x6 &&& z22)), (.int (6 : Int32)), (.ref r0)])) _
    refine XS.lload X39.here hx rfl (hb hby d4_291) rfl ?_
    show Steps p.tables e below (T39.setTop (mkF m 293 (LS_RRIJsJsJsJsJsJsJsJsJs r0 r1 p2 z20 z3 z6 z9 z12 z15 z18 z21 z22) [(.long z21), (.long (x6 &&& z22)), (.int (6 : Int32)), (.ref r0)])) _
    refine XS.lload X39.here hx rfl (hb hby d4_293) rfl ?_
    show Steps p.tables e below (T39.setTop (mkF m 295 (LS_RRIJsJsJsJsJsJsJsJsJs r0 r1 p2 z20 z3 z6 z9 z12 z15 z18 z21 z22) [(.long z22), (.long z21), (.long (x6 &&& z22)), (.int (6 : Int32)), (.ref r0)])) _
    refine X39.ldc2Long hx hown (mvT hZ (hw _ (List.mem_of_getElem? (i := 37) rfl))) (g := (mkF m 295 (LS_RRIJsJsJsJsJsJsJsJsJs r0 r1 p2 z20 z3 z6 z9 z12 z15 z18 z21 z22) [(.long z22), (.long z21), (.long (x6 &&& z22)), (.int (6 : Int32)), (.ref r0)])) rfl (hb hby d4_295) _ ?_
    show Steps p.tables e below (T39.setTop (mkF m 298 (LS_RRIJsJsJsJsJsJsJsJsJs r0 r1 p2 z20 z3 z6 z9 z12 z15 z18 z21 z22) [(.long (-1 : Int64)), (.long z22), (.long z21), (.long (x6 &&& z22)), (.int (6 : Int32)), (.ref r0)])) _
    refine XS.lxor X39.here hx rfl (hb hby d4_298) rfl ?_
    show Steps p.tables e below (T39.setTop (mkF m 299 (LS_RRIJsJsJsJsJsJsJsJsJs r0 r1 p2 z20 z3 z6 z9 z12 z15 z18 z21 z22) [(.long (z22 ^^^ (-1 : Int64))), (.long z21), (.long (x6 &&& z22)), (.int (6 : Int32)), (.ref r0)])) _
    refine XS.land X39.here hx rfl (hb hby d4_299) rfl ?_
    show Steps p.tables e below (T39.setTop (mkF m 300 (LS_RRIJsJsJsJsJsJsJsJsJs r0 r1 p2 z20 z3 z6 z9 z12 z15 z18 z21 z22) [(.long (z21 &&& (z22 ^^^ (-1 : Int64)))), (.long (x6 &&& z22)), (.int (6 : Int32)), (.ref r0)])) _
    refine XS.lor X39.here hx rfl (hb hby d4_300) rfl ?_
    exact k
  obtain ⟨cl41, Ar41, qa41, Sa41, Na41, Ha41, Ga41⟩ := id V39
  have hin42 : ¬ ((6 : Int32) < 0 ∨ cl41.slots.size ≤ ((6 : Int32)).toNatClampNeg) := inb_of Sa41 ⟨by decide, by decide⟩
  obtain ⟨T42, h42, X42, e42, W42, st42⟩ := stJ X39 hx hZ e39 Ar41 (j := (6 : Int32)) hin42 (g := (mkF m 301 (LS_RRIJsJsJsJsJsJsJsJsJs r0 r1 p2 z20 z3 z6 z9 z12 z15 z18 z21 z22) [(.long ((x6 &&& z22) ||| (z21 &&& (z22 ^^^ (-1 : Int64))))), (.int (6 : Int32)), (.ref r0)])) rfl rfl (hb hby d4_301)
  have N42 := Fr.snoc X42 N39 g_r0
  have V42 : Arv Z h42 r0 kq1 .long (7 : Int32) [(.long ((x0 &&& z22) ||| (z3 &&& (z22 ^^^ (-1 : Int64))))), (.long ((x1 &&& z22) ||| (z6 &&& (z22 ^^^ (-1 : Int64))))), (.long ((x2 &&& z22) ||| (z9 &&& (z22 ^^^ (-1 : Int64))))), (.long ((x3 &&& z22) ||| (z12 &&& (z22 ^^^ (-1 : Int64))))), (.long ((x4 &&& z22) ||| (z15 &&& (z22 ^^^ (-1 : Int64))))), (.long ((x5 &&& z22) ||| (z18 &&& (z22 ^^^ (-1 : Int64))))), (.long ((x6 &&& z22) ||| (z21 &&& (z22 ^^^ (-1 : Int64)))))] (.long (0 : Int64)) := Arv.set Ar41 qa41 Sa41 Na41 Ha41 Ga41 rfl W42 6 rfl (Nat.le_of_ble_eq_true rfl)
  refine own_go (B := T42.setTop (mkF m 302 (LS_RRIJsJsJsJsJsJsJsJsJs r0 r1 p2 z20 z3 z6 z9 z12 z15 z18 z21 z22) [])) (fun t k => st42 _ k) ?_
  obtain ⟨fs, hr, hrun, hended, hW, hsame⟩ := X42.leave (v := none) (fun _ => rfl)
  refine ⟨_, _, ?_, hrun, hended, _, _, rfl, ?_, ⟨_, rfl⟩, hW, hsame.mono (by decide) (by decide)⟩
  · show Steps p.tables e below (T42.setTop (mkF m 302 (LS_RRIJsJsJsJsJsJsJsJsJs r0 r1 p2 z20 z3 z6 z9 z12 z15 z18 z21 z22) [])) _
    exact X42.returnOut hx Bd.returns (hb hby d4_302) hr
  · show Q4 Z r0 r1 p2 kq1 cl x0 x1 x2 x3 x4 x5 x6 h0 n0 _ T42.heap _
    rw [e42]
    have K0_v43 := K0.wr W24 (Or.inl (List.mem_of_getElem? (i := 0) rfl))
    have K0_v44 := K0_v43.wr W27 (Or.inl (List.mem_of_getElem? (i := 0) rfl))
    have K0_v45 := K0_v44.wr W30 (Or.inl (List.mem_of_getElem? (i := 0) rfl))
    have K0_v46 := K0_v45.wr W33 (Or.inl (List.mem_of_getElem? (i := 0) rfl))
    have K0_v47 := K0_v46.wr W36 (Or.inl (List.mem_of_getElem? (i := 0) rfl))
    have K0_v48 := K0_v47.wr W39 (Or.inl (List.mem_of_getElem? (i := 0) rfl))
    have K0_v49 := K0_v48.wr W42 (Or.inl (List.mem_of_getElem? (i := 0) rfl))
    have Vz := V42
    subst hz22 hz21 hz20 hz18 hz17 hz15 hz14 hz12 hz11 hz9 hz8 hz6 hz5 hz3 hz2
    exact ⟨rfl, N42, K0_v49, Vz⟩
theorem ef_3 (m : MethodId) (r0 : Addr) (p1 : Int32) : entryFrame m #[(.ref r0), (.int p1)] 3 = mkF m 0 #[.val (.ref r0), .val (.int p1), .unset] [] := by first | (simp [entryFrame, mkF, argsToLocals, Value.category]; done) | rfl
theorem pn_3 : plainName "com/example/barred_rows/barredrows/crypto/Fp" = true := by first | (simp [plainName, overriddenIn]; done) | decide +kernel
abbrev LS_RIu (a0 : Addr) (a1 : Int32) : Array Slot := #[.val (.ref a0), .val (.int a1), .unset]
theorem d3_0 : decode prog_7_method_8_code 0 = .ok (.bipush 7, 2) := by decide +kernel
theorem d3_2 : decode prog_7_method_8_code 2 = .ok (.newarray .long, 2) := by decide +kernel
theorem d3_4 : decode prog_7_method_8_code 4 = .ok (.astore_n 2, 1) := by decide +kernel
abbrev LS_RIR (a0 : Addr) (a1 : Int32) (a2 : Addr) : Array Slot := #[.val (.ref a0), .val (.int a1), .val (.ref a2)]
theorem d3_5 : decode prog_7_method_8_code 5 = .ok (.aload_n 2, 1) := by decide +kernel
theorem d3_6 : decode prog_7_method_8_code 6 = .ok (.aload_n 0, 1) := by decide +kernel
theorem d3_7 : decode prog_7_method_8_code 7 = .ok (.iload_n 1, 1) := by decide +kernel
theorem d3_8 : decode prog_7_method_8_code 8 = .ok (.invokestatic 105, 3) := by decide +kernel
theorem pd___J_JI_V : parseMethodDescriptor "([J[JI)V" = some ⟨[(.array .long), (.array .long), .int], none⟩ := by decide +kernel
theorem d3_11 : decode prog_7_method_8_code 11 = .ok (.aload_n 2, 1) := by decide +kernel
theorem d3_12 : decode prog_7_method_8_code 12 = .ok (.iconst 0, 1) := by decide +kernel
theorem d3_13 : decode prog_7_method_8_code 13 = .ok (.laload, 1) := by decide +kernel
theorem d3_14 : decode prog_7_method_8_code 14 = .ok (.aload_n 2, 1) := by decide +kernel
theorem d3_15 : decode prog_7_method_8_code 15 = .ok (.iconst 1, 1) := by decide +kernel
theorem d3_16 : decode prog_7_method_8_code 16 = .ok (.laload, 1) := by decide +kernel
theorem d3_17 : decode prog_7_method_8_code 17 = .ok (.lor, 1) := by decide +kernel
theorem d3_18 : decode prog_7_method_8_code 18 = .ok (.aload_n 2, 1) := by decide +kernel
theorem d3_19 : decode prog_7_method_8_code 19 = .ok (.iconst 2, 1) := by decide +kernel
theorem d3_20 : decode prog_7_method_8_code 20 = .ok (.laload, 1) := by decide +kernel
theorem d3_21 : decode prog_7_method_8_code 21 = .ok (.lor, 1) := by decide +kernel
theorem d3_22 : decode prog_7_method_8_code 22 = .ok (.aload_n 2, 1) := by decide +kernel
theorem d3_23 : decode prog_7_method_8_code 23 = .ok (.iconst 3, 1) := by decide +kernel
theorem d3_24 : decode prog_7_method_8_code 24 = .ok (.laload, 1) := by decide +kernel
theorem d3_25 : decode prog_7_method_8_code 25 = .ok (.lor, 1) := by decide +kernel
theorem d3_26 : decode prog_7_method_8_code 26 = .ok (.aload_n 2, 1) := by decide +kernel
theorem d3_27 : decode prog_7_method_8_code 27 = .ok (.iconst 4, 1) := by decide +kernel
theorem d3_28 : decode prog_7_method_8_code 28 = .ok (.laload, 1) := by decide +kernel
theorem d3_29 : decode prog_7_method_8_code 29 = .ok (.lor, 1) := by decide +kernel
theorem d3_30 : decode prog_7_method_8_code 30 = .ok (.aload_n 2, 1) := by decide +kernel
theorem d3_31 : decode prog_7_method_8_code 31 = .ok (.iconst 5, 1) := by decide +kernel
theorem d3_32 : decode prog_7_method_8_code 32 = .ok (.laload, 1) := by decide +kernel
theorem d3_33 : decode prog_7_method_8_code 33 = .ok (.lor, 1) := by decide +kernel
theorem d3_34 : decode prog_7_method_8_code 34 = .ok (.aload_n 2, 1) := by decide +kernel
theorem d3_35 : decode prog_7_method_8_code 35 = .ok (.bipush 6, 2) := by decide +kernel
theorem d3_37 : decode prog_7_method_8_code 37 = .ok (.laload, 1) := by decide +kernel
theorem d3_38 : decode prog_7_method_8_code 38 = .ok (.lor, 1) := by decide +kernel
theorem d3_39 : decode prog_7_method_8_code 39 = .ok (.lconst 0, 1) := by decide +kernel
theorem d3_40 : decode prog_7_method_8_code 40 = .ok (.lcmp, 1) := by decide +kernel
theorem d3_41 : decode prog_7_method_8_code 41 = .ok (.ifCond .ne 7, 3) := by decide +kernel
theorem d3_44 : decode prog_7_method_8_code 44 = .ok (.iconst 1, 1) := by decide +kernel
theorem d3_45 : decode prog_7_method_8_code 45 = .ok (.goto 4, 3) := by decide +kernel
theorem d3_49 : decode prog_7_method_8_code 49 = .ok (.ireturn, 1) := by decide +kernel
theorem d3_48 : decode prog_7_method_8_code 48 = .ok (.iconst 0, 1) := by decide +kernel
def Q3 (Z : State) (r0 : Addr) (p1 : Int32) (cl : Cell) (x0 x1 x2 x3 x4 x5 x6 : Int64) (h0 : Heap) (n0 : Nat) (v : Option Value) (h : Heap) (L : List Loc) : Prop := v = some (.int (if (((((((own_c0 x0 x1 x2 x3 x4 x5 x6) ||| (own_c1 x0 x1 x2 x3 x4 x5 x6)) ||| (own_c2 x0 x1 x2 x3 x4 x5 x6)) ||| (own_c3 x0 x1 x2 x3 x4 x5 x6)) ||| (own_c4 x0 x1 x2 x3 x4 x5 x6)) ||| (own_c5 x0 x1 x2 x3 x4 x5 x6)) ||| (own_c6 x0 x1 x2 x3 x4 x5 x6)) = (0 : Int64) then (1 : Int32) else (0 : Int32))) ∧ Fr n0 L
set_option maxRecDepth 65536 in
set_option maxHeartbeats 40000000 in
theorem rm3 (l : Launch) (Z : State) (a0 : Array Value) (hw : ∀ d ∈ tables_1, d.before a0 Z = true) (ws : List Jvm.Cond) (r0 : Addr) (p1 : Int32) (cl : Cell) (x0 x1 x2 x3 x4 x5 x6 : Int64) (h0 : Heap) (n0 : Nat) (Z0 : n0 ≤ h0.size) (Aq1 : Arr Z h0 r0 cl .long) (hin0 : ¬ (p1 < 0 ∨ cl.slots.size ≤ (p1).toNatClampNeg)) (hin1 : ¬ ((p1 + (1 : Int32)) < 0 ∨ cl.slots.size ≤ ((p1 + (1 : Int32))).toNatClampNeg)) (hin2 : ¬ ((p1 + (2 : Int32)) < 0 ∨ cl.slots.size ≤ ((p1 + (2 : Int32))).toNatClampNeg)) (hin3 : ¬ ((p1 + (3 : Int32)) < 0 ∨ cl.slots.size ≤ ((p1 + (3 : Int32))).toNatClampNeg)) (hin4 : ¬ ((p1 + (4 : Int32)) < 0 ∨ cl.slots.size ≤ ((p1 + (4 : Int32))).toNatClampNeg)) (hin5 : ¬ ((p1 + (5 : Int32)) < 0 ∨ cl.slots.size ≤ ((p1 + (5 : Int32))).toNatClampNeg)) (hin6 : ¬ ((p1 + (6 : Int32)) < 0 ∨ cl.slots.size ≤ ((p1 + (6 : Int32))).toNatClampNeg)) (hat0 : cl.slots[(p1).toNatClampNeg]? = some (.long x0)) (hat1 : cl.slots[((p1 + (1 : Int32))).toNatClampNeg]? = some (.long x1)) (hat2 : cl.slots[((p1 + (2 : Int32))).toNatClampNeg]? = some (.long x2)) (hat3 : cl.slots[((p1 + (3 : Int32))).toNatClampNeg]? = some (.long x3)) (hat4 : cl.slots[((p1 + (4 : Int32))).toNatClampNeg]? = some (.long x4)) (hat5 : cl.slots[((p1 + (5 : Int32))).toNatClampNeg]? = some (.long x5)) (hat6 : cl.slots[((p1 + (6 : Int32))).toNatClampNeg]? = some (.long x6)) (S0 : Sta Z h0 "com/example/barred_rows/barredrows/crypto/Fp" "P0" "J" (.long (35747322042231467 : Int64))) (S1 : Sta Z h0 "com/example/barred_rows/barredrows/crypto/Fp" "P1" "J" (.long (36025922209447795 : Int64))) (S2 : Sta Z h0 "com/example/barred_rows/barredrows/crypto/Fp" "P2" "J" (.long (1084959616957103 : Int64))) (S3 : Sta Z h0 "com/example/barred_rows/barredrows/crypto/Fp" "P3" "J" (.long (7925923977987733 : Int64))) (S4 : Sta Z h0 "com/example/barred_rows/barredrows/crypto/Fp" "P4" "J" (.long (16551456537884751 : Int64))) (S5 : Sta Z h0 "com/example/barred_rows/barredrows/crypto/Fp" "P5" "J" (.long (23443114579904617 : Int64))) (S6 : Sta Z h0 "com/example/barred_rows/barredrows/crypto/Fp" "P6" "J" (.long (1829881462546425 : Int64))) :
    MetFree l (⟨"com/example/barred_rows/barredrows/crypto/Fp", "isZero", "([JI)Z"⟩ : MethodName) (head1 (Jvm.Cond.code (⟨"com/example/barred_rows/barredrows/crypto/Fp", "isZero", "([JI)Z"⟩ : MethodName) prog_7_method_8_code 3 (some .boolean) :: ws) ({ frames := 1, cells := 1, slots := 7, locals := 35 } : Room)) (fun a U => a = #[(.ref r0), (.int p1)] ∧ Z.Warmed39 U.vm ∧ U.heap = h0) (fun _ _ _ _ _ => True) (fun _ U o U' => ∃ v L, o = .returned v ∧ Q3 Z r0 p1 cl x0 x1 x2 x3 x4 x5 x6 h0 n0 v U'.heap L ∧ FrameEnd U o U' L ({ frames := 1, cells := 1, slots := 7, locals := 35 } : Room).cells ({ frames := 1, cells := 1, slots := 7, locals := 35 } : Room).slots) := by
  refine MetFree.of_bodySF (plainFor_of_name pn_3) hisR ?_
  intro p e s m args below meth c s₁ Bd hml0 hP hK
  obtain ⟨rfl, hZ, hh⟩ := hP
  have hx := Bd.exec
  have hby := Bd.bytes
  have hml : c.maxLocals = 3 := hml0
  have hown : s.vm.findClass "com/example/barred_rows/barredrows/crypto/Fp" = some m.cls := findClass_of_methodNamed Bd.named
  have hnm := (name_of_methodNamed Bd.named Bd.method).1
  have X0 : Stand p l e ({ frames := 1, cells := 1, slots := 7, locals := 35 } : Room) s m #[(.ref r0), (.int p1)] below meth c s₁ [] 0 0 := Stand.of_body Bd
  have e0 : s₁.heap = h0 := by rw [← hh, Bd.state]; rfl
  have N0 := Fr.nil n0
  refine own_go (B := s₁.setTop (mkF m 0 (LS_RIu r0 p1) [])) (fun t k => castTop (ef_3 m r0 p1) k) ?_
  refine own_go (B := s₁.setTop (mkF m 2 (LS_RIu r0 p1) [(.int (7 : Int32))])) (fun t k => ?_) ?_
  · show Steps p.tables e below (s₁.setTop (mkF m 0 (LS_RIu r0 p1) [])) _
    refine XS.bipush X0.here hx rfl (hb hby d3_0) ?_
    exact k
  obtain ⟨T1, h1, k1, X1, e1, E1, A1, st1⟩ := newP X0 hx hZ (hw _ (List.mem_of_getElem? (i := 11) rfl)) e0 (g := (mkF m 2 (LS_RIu r0 p1) [(.int (7 : Int32))])) rfl (hb hby d3_2) rfl (by decide) (cap := 7) (by decide) (by decide) (by decide) (by decide)
  obtain ⟨b1, g1⟩ : ∃ z, z = h0.size := ⟨_, rfl⟩
  rw [← g1] at A1 st1
  have g_b1 : n0 ≤ b1 := Nat.le_trans Z0 (Nat.le_of_eq g1.symm)
  have V1 : Arv Z h1 b1 k1 .long (7 : Int32) [(.long (0 : Int64)), (.long (0 : Int64)), (.long (0 : Int64)), (.long (0 : Int64)), (.long (0 : Int64)), (.long (0 : Int64)), (.long (0 : Int64))] (.long (0 : Int64)) := (Arv.new A1 (by decide)).pad (pad_rep [] (.long (0 : Int64)) 7)
  refine own_go (B := T1.setTop (mkF m 4 (LS_RIu r0 p1) [(.ref b1)])) (fun t k => st1 _ k) ?_
  refine own_go (B := T1.setTop (mkF m 8 (LS_RIR r0 p1 b1) [(.int p1), (.ref r0), (.ref b1)])) (fun t k => ?_) ?_
  · show Steps p.tables e below (T1.setTop (mkF m 4 (LS_RIu r0 p1) [(.ref b1)])) _
    refine XS.astoreN X1.here hx rfl (hb hby d3_4) rfl rfl (l' := (LS_RIR r0 p1 b1)) rfl ?_
    show Steps p.tables e below (T1.setTop (mkF m 5 (LS_RIR r0 p1 b1) [])) _
    refine XS.aloadN X1.here hx rfl (hb hby d3_5) rfl rfl ?_
    show Steps p.tables e below (T1.setTop (mkF m 6 (LS_RIR r0 p1 b1) [(.ref b1)])) _
    refine XS.aloadN X1.here hx rfl (hb hby d3_6) rfl rfl ?_
    show Steps p.tables e below (T1.setTop (mkF m 7 (LS_RIR r0 p1 b1) [(.ref r0), (.ref b1)])) _
    refine XS.iloadN X1.here hx rfl (hb hby d3_7) rfl ?_
    exact k
  have Aq1_v2 := Aq1.ext E1
  have Z0_v3 := Nat.le_trans Z0 E1.1
  have S0_v4 := S0.ext E1
  have S1_v5 := S1.ext E1
  have S2_v6 := S2.ext E1
  have S3_v7 := S3.ext E1
  have S4_v8 := S4.ext E1
  have S5_v9 := S5.ext E1
  have S6_v10 := S6.ext E1
  have ne11 : r0 ≠ b1 := Nat.ne_of_lt (Nat.lt_of_lt_of_le Aq1.lt (Nat.le_of_eq g1.symm))
  obtain ⟨_, _, ⟨T12, L12, k12, n12⟩, -, X12, ⟨Lc12, hQ12, l12, y12, z12⟩, st12⟩ := Jvm.LawKit.callS X1 hx (y := (⟨"com/example/barred_rows/barredrows/crypto/Fp", "canonical", "([J[JI)V"⟩ : MethodName)) hown (mvT hZ (hw _ (List.mem_of_getElem? (i := 19) rfl))) (mvT hZ (hw _ (List.mem_of_getElem? (i := 20) rfl))) (mvT hZ (hw _ (List.mem_of_getElem? (i := 17) rfl))) (mvT hZ (hw _ (List.mem_of_getElem? (i := 21) rfl))) (by decide) (backOf (W := 0) (rm4 l Z a0 hw [] b1 r0 p1 k1 cl x0 x1 x2 x3 x4 x5 x6 h1 n0 Z0_v3 V1 Aq1_v2 hin0 hin1 hin2 hin3 hin4 hin5 hin6 hat0 hat1 hat2 hat3 hat4 hat5 hat6 S0_v4 S1_v5 S2_v6 S3_v7 S4_v8 S5_v9 S6_v10 ne11 g_b1) hZ (hw _ (List.mem_of_getElem? (i := 21) rfl)) (hw _ (List.mem_of_getElem? (i := 17) rfl)) (by decide) (by decide)) (g := (mkF m 8 (LS_RIR r0 p1 b1) [(.int p1), (.ref r0), (.ref b1)])) rfl (by rw [hml]; rfl) (argsL := [(.ref b1), (.ref r0), (.int p1)]) (rest := []) (lenOf pd___J_JI_V rfl) rfl (by show 2 * 0 + _ ≤ _; exact Nat.le_of_eq rfl) (hb hby d3_8) (fun _ _ => ⟨rfl, e1, (by decide : 1 + 0 ≤ _), (by decide : 7 + 0 ≤ _)⟩)
  dsimp only [Pt.U, Pt.locs, Pt.cells, Pt.slots] at X12 l12 y12 z12 st12 hQ12
  subst l12 y12 z12
  obtain ⟨rfl, N12q, K12, V12r⟩ := hQ12
  have N12 := Fr.app N0 N12q
  refine own_go (B := T12.setTop (mkF m 11 (LS_RIR r0 p1 b1) [])) (fun t k => st12 _ k) ?_
  obtain ⟨cl13, Ar13, qa13, Sa13, Na13, Ha13, Ga13⟩ := id V12r
  have hin14 : ¬ ((0 : Int32) < 0 ∨ cl13.slots.size ≤ ((0 : Int32)).toNatClampNeg) := inb_of Sa13 ⟨by decide, by decide⟩
  have hat14 : cl13.slots[((0 : Int32)).toNatClampNeg]? = some (.long (own_c0 x0 x1 x2 x3 x4 x5 x6)) := Has.at Ha13 hin14 rfl
  obtain ⟨cl15, Ar15, qa15, Sa15, Na15, Ha15, Ga15⟩ := id V12r
  have hin16 : ¬ ((1 : Int32) < 0 ∨ cl15.slots.size ≤ ((1 : Int32)).toNatClampNeg) := inb_of Sa15 ⟨by decide, by decide⟩
  have hat16 : cl15.slots[((1 : Int32)).toNatClampNeg]? = some (.long (own_c1 x0 x1 x2 x3 x4 x5 x6)) := Has.at Ha15 hin16 rfl
  obtain ⟨cl17, Ar17, qa17, Sa17, Na17, Ha17, Ga17⟩ := id V12r
  have hin18 : ¬ ((2 : Int32) < 0 ∨ cl17.slots.size ≤ ((2 : Int32)).toNatClampNeg) := inb_of Sa17 ⟨by decide, by decide⟩
  have hat18 : cl17.slots[((2 : Int32)).toNatClampNeg]? = some (.long (own_c2 x0 x1 x2 x3 x4 x5 x6)) := Has.at Ha17 hin18 rfl
  obtain ⟨cl19, Ar19, qa19, Sa19, Na19, Ha19, Ga19⟩ := id V12r
  have hin20 : ¬ ((3 : Int32) < 0 ∨ cl19.slots.size ≤ ((3 : Int32)).toNatClampNeg) := inb_of Sa19 ⟨by decide, by decide⟩
  have hat20 : cl19.slots[((3 : Int32)).toNatClampNeg]? = some (.long (own_c3 x0 x1 x2 x3 x4 x5 x6)) := Has.at Ha19 hin20 rfl
  obtain ⟨cl21, Ar21, qa21, Sa21, Na21, Ha21, Ga21⟩ := id V12r
  have hin22 : ¬ ((4 : Int32) < 0 ∨ cl21.slots.size ≤ ((4 : Int32)).toNatClampNeg) := inb_of Sa21 ⟨by decide, by decide⟩
  have hat22 : cl21.slots[((4 : Int32)).toNatClampNeg]? = some (.long (own_c4 x0 x1 x2 x3 x4 x5 x6)) := Has.at Ha21 hin22 rfl
  obtain ⟨cl23, Ar23, qa23, Sa23, Na23, Ha23, Ga23⟩ := id V12r
  have hin24 : ¬ ((5 : Int32) < 0 ∨ cl23.slots.size ≤ ((5 : Int32)).toNatClampNeg) := inb_of Sa23 ⟨by decide, by decide⟩
  have hat24 : cl23.slots[((5 : Int32)).toNatClampNeg]? = some (.long (own_c5 x0 x1 x2 x3 x4 x5 x6)) := Has.at Ha23 hin24 rfl
  obtain ⟨cl25, Ar25, qa25, Sa25, Na25, Ha25, Ga25⟩ := id V12r
  have hin26 : ¬ ((6 : Int32) < 0 ∨ cl25.slots.size ≤ ((6 : Int32)).toNatClampNeg) := inb_of Sa25 ⟨by decide, by decide⟩
  have hat26 : cl25.slots[((6 : Int32)).toNatClampNeg]? = some (.long (own_c6 x0 x1 x2 x3 x4 x5 x6)) := Has.at Ha25 hin26 rfl
  refine own_go (B := T12.setTop (mkF m 41 (LS_RIR r0 p1 b1) [(.int (lcmpW (((((((own_c0 x0 x1 x2 x3 x4 x5 x6) ||| (own_c1 x0 x1 x2 x3 x4 x5 x6)) ||| (own_c2 x0 x1 x2 x3 x4 x5 x6)) ||| (own_c3 x0 x1 x2 x3 x4 x5 x6)) ||| (own_c4 x0 x1 x2 x3 x4 x5 x6)) ||| (own_c5 x0 x1 x2 x3 x4 x5 x6)) ||| (own_c6 x0 x1 x2 x3 x4 x5 x6)) (0 : Int64)))])) (fun t k => ?_) ?_
  · show Steps p.tables e below (T12.setTop (mkF m 11 (LS_RIR r0 p1 b1) [])) _
    refine XS.aloadN X12.here hx rfl (hb hby d3_11) rfl rfl ?_
    show Steps p.tables e below (T12.setTop (mkF m 12 (LS_RIR r0 p1 b1) [(.ref b1)])) _
    refine XS.iconst X12.here hx rfl (hb hby d3_12) ?_
    show Steps p.tables e below (T12.setTop (mkF m 13 (LS_RIR r0 p1 b1) [(.int (0 : Int32)), (.ref b1)])) _
    refine X12.laload hx (j := (0 : Int32)) (v := (.long (own_c0 x0 x1 x2 x3 x4 x5 x6))) Ar13.1 (State.isArrayOf_alike hZ.alike Ar13.2.1) Ar13.2.2 hin14 hat14 (g := (mkF m 13 (LS_RIR r0 p1 b1) [(.int (0 : Int32)), (.ref b1)])) rfl rfl (hb hby d3_13) _ ?_
    show Steps p.tables e below (T12.setTop (mkF m 14 (LS_RIR r0 p1 b1) [(.long (own_c0 x0 x1 x2 x3 x4 x5 x6))])) _
    refine XS.aloadN X12.here hx rfl (hb hby d3_14) rfl rfl ?_
    show Steps p.tables e below (T12.setTop (mkF m 15 (LS_RIR r0 p1 b1) [(.ref b1), (.long (own_c0 x0 x1 x2 x3 x4 x5 x6))])) _
    refine XS.iconst X12.here hx rfl (hb hby d3_15) ?_
    show Steps p.tables e below (T12.setTop (mkF m 16 (LS_RIR r0 p1 b1) [(.int (1 : Int32)), (.ref b1), (.long (own_c0 x0 x1 x2 x3 x4 x5 x6))])) _
    refine X12.laload hx (j := (1 : Int32)) (v := (.long (own_c1 x0 x1 x2 x3 x4 x5 x6))) Ar15.1 (State.isArrayOf_alike hZ.alike Ar15.2.1) Ar15.2.2 hin16 hat16 (g := (mkF m 16 (LS_RIR r0 p1 b1) [(.int (1 : Int32)), (.ref b1), (.long (own_c0 x0 x1 x2 x3 x4 x5 x6))])) rfl rfl (hb hby d3_16) _ ?_
    show Steps p.tables e below (T12.setTop (mkF m 17 (LS_RIR r0 p1 b1) [(.long (own_c1 x0 x1 x2 x3 x4 x5 x6)), (.long (own_c0 x0 x1 x2 x3 x4 x5 x6))])) _
    refine XS.lor X12.here hx rfl (hb hby d3_17) rfl ?_
    show Steps p.tables e below (T12.setTop (mkF m 18 (LS_RIR r0 p1 b1) [(.long ((own_c0 x0 x1 x2 x3 x4 x5 x6) ||| (own_c1 x0 x1 x2 x3 x4 x5 x6)))])) _
    refine XS.aloadN X12.here hx rfl (hb hby d3_18) rfl rfl ?_
    show Steps p.tables e below (T12.setTop (mkF m 19 (LS_RIR r0 p1 b1) [(.ref b1), (.long ((own_c0 x0 x1 x2 x3 x4 x5 x6) ||| (own_c1 x0 x1 x2 x3 x4 x5 x6)))])) _
    refine XS.iconst X12.here hx rfl (hb hby d3_19) ?_
    show Steps p.tables e below (T12.setTop (mkF m 20 (LS_RIR r0 p1 b1) [(.int (2 : Int32)), (.ref b1), (.long ((own_c0 x0 x1 x2 x3 x4 x5 x6) ||| (own_c1 x0 x1 x2 x3 x4 x5 x6)))])) _
    refine X12.laload hx (j := (2 : Int32)) (v := (.long (own_c2 x0 x1 x2 x3 x4 x5 x6))) Ar17.1 (State.isArrayOf_alike hZ.alike Ar17.2.1) Ar17.2.2 hin18 hat18 (g := (mkF m 20 (LS_RIR r0 p1 b1) [(.int (2 : Int32)), (.ref b1), (.long ((own_c0 x0 x1 x2 x3 x4 x5 x6) ||| (own_c1 x0 x1 x2 x3 x4 x5 x6)))])) rfl rfl (hb hby d3_20) _ ?_
    show Steps p.tables e below (T12.setTop (mkF m 21 (LS_RIR r0 p1 b1) [(.long (own_c2 x0 x1 x2 x3 x4 x5 x6)), (.long ((own_c0 x0 x1 x2 x3 x4 x5 x6) ||| (own_c1 x0 x1 x2 x3 x4 x5 x6)))])) _
    refine XS.lor X12.here hx rfl (hb hby d3_21) rfl ?_
    show Steps p.tables e below (T12.setTop (mkF m 22 (LS_RIR r0 p1 b1) [(.long (((own_c0 x0 x1 x2 x3 x4 x5 x6) ||| (own_c1 x0 x1 x2 x3 x4 x5 x6)) ||| (own_c2 x0 x1 x2 x3 x4 x5 x6)))])) _
    refine XS.aloadN X12.here hx rfl (hb hby d3_22) rfl rfl ?_
    show Steps p.tables e below (T12.setTop (mkF m 23 (LS_RIR r0 p1 b1) [(.ref b1), (.long (((own_c0 x0 x1 x2 x3 x4 x5 x6) ||| (own_c1 x0 x1 x2 x3 x4 x5 x6)) ||| (own_c2 x0 x1 x2 x3 x4 x5 x6)))])) _
    refine XS.iconst X12.here hx rfl (hb hby d3_23) ?_
    show Steps p.tables e below (T12.setTop (mkF m 24 (LS_RIR r0 p1 b1) [(.int (3 : Int32)), (.ref b1), (.long (((own_c0 x0 x1 x2 x3 x4 x5 x6) ||| (own_c1 x0 x1 x2 x3 x4 x5 x6)) ||| (own_c2 x0 x1 x2 x3 x4 x5 x6)))])) _
    refine X12.laload hx (j := (3 : Int32)) (v := (.long (own_c3 x0 x1 x2 x3 x4 x5 x6))) Ar19.1 (State.isArrayOf_alike hZ.alike Ar19.2.1) Ar19.2.2 hin20 hat20 (g := (mkF m 24 (LS_RIR r0 p1 b1) [(.int (3 : Int32)), (.ref b1), (.long (((own_c0 x0 x1 x2 x3 x4 x5 x6) ||| (own_c1 x0 x1 x2 x3 x4 x5 x6)) ||| (own_c2 x0 x1 x2 x3 x4 x5 x6)))])) rfl rfl (hb hby d3_24) _ ?_
    show Steps p.tables e below (T12.setTop (mkF m 25 (LS_RIR r0 p1 b1) [(.long (own_c3 x0 x1 x2 x3 x4 x5 x6)), (.long (((own_c0 x0 x1 x2 x3 x4 x5 x6) ||| (own_c1 x0 x1 x2 x3 x4 x5 x6)) ||| (own_c2 x0 x1 x2 x3 x4 x5 x6)))])) _
    refine XS.lor X12.here hx rfl (hb hby d3_25) rfl ?_
    show Steps p.tables e below (T12.setTop (mkF m 26 (LS_RIR r0 p1 b1) [(.long ((((own_c0 x0 x1 x2 x3 x4 x5 x6) ||| (own_c1 x0 x1 x2 x3 x4 x5 x6)) ||| (own_c2 x0 x1 x2 x3 x4 x5 x6)) ||| (own_c3 x0 x1 x2 x3 x4 x5 x6)))])) _
    refine XS.aloadN X12.here hx rfl (hb hby d3_26) rfl rfl ?_
    show Steps p.tables e below (T12.setTop (mkF m 27 (LS_RIR r0 p1 b1) [(.ref b1), (.long ((((own_c0 x0 x1 x2 x3 x4 x5 x6) ||| (own_c1 x0 x1 x2 x3 x4 x5 x6)) ||| (own_c2 x0 x1 x2 x3 x4 x5 x6)) ||| (own_c3 x0 x1 x2 x3 x4 x5 x6)))])) _
    refine XS.iconst X12.here hx rfl (hb hby d3_27) ?_
    show Steps p.tables e below (T12.setTop (mkF m 28 (LS_RIR r0 p1 b1) [(.int (4 : Int32)), (.ref b1), (.long ((((own_c0 x0 x1 x2 x3 x4 x5 x6) ||| (own_c1 x0 x1 x2 x3 x4 x5 x6)) ||| (own_c2 x0 x1 x2 x3 x4 x5 x6)) ||| (own_c3 x0 x1 x2 x3 x4 x5 x6)))])) _
    refine X12.laload hx (j := (4 : Int32)) (v := (.long (own_c4 x0 x1 x2 x3 x4 x5 x6))) Ar21.1 (State.isArrayOf_alike hZ.alike Ar21.2.1) Ar21.2.2 hin22 hat22 (g := (mkF m 28 (LS_RIR r0 p1 b1) [(.int (4 : Int32)), (.ref b1), (.long ((((own_c0 x0 x1 x2 x3 x4 x5 x6) ||| (own_c1 x0 x1 x2 x3 x4 x5 x6)) ||| (own_c2 x0 x1 x2 x3 x4 x5 x6)) ||| (own_c3 x0 x1 x2 x3 x4 x5 x6)))])) rfl rfl (hb hby d3_28) _ ?_
    show Steps p.tables e below (T12.setTop (mkF m 29 (LS_RIR r0 p1 b1) [(.long (own_c4 x0 x1 x2 x3 x4 x5 x6)), (.long ((((own_c0 x0 x1 x2 x3 x4 x5 x6) ||| (own_c1 x0 x1 x2 x3 x4 x5 x6)) ||| (own_c2 x0 x1 x2 x3 x4 x5 x6)) ||| (own_c3 x0 x1 x2 x3 x4 x5 x6)))])) _
    refine XS.lor X12.here hx rfl (hb hby d3_29) rfl ?_
    show Steps p.tables e below (T12.setTop (mkF m 30 (LS_RIR r0 p1 b1) [(.long (((((own_c0 x0 x1 x2 x3 x4 x5 x6) ||| (own_c1 x0 x1 x2 x3 x4 x5 x6)) ||| (own_c2 x0 x1 x2 x3 x4 x5 x6)) ||| (own_c3 x0 x1 x2 x3 x4 x5 x6)) ||| (own_c4 x0 x1 x2 x3 x4 x5 x6)))])) _
    refine XS.aloadN X12.here hx rfl (hb hby d3_30) rfl rfl ?_
    show Steps p.tables e below (T12.setTop (mkF m 31 (LS_RIR r0 p1 b1) [(.ref b1), (.long (((((own_c0 x0 x1 x2 x3 x4 x5 x6) ||| (own_c1 x0 x1 x2 x3 x4 x5 x6)) ||| (own_c2 x0 x1 x2 x3 x4 x5 x6)) ||| (own_c3 x0 x1 x2 x3 x4 x5 x6)) ||| (own_c4 x0 x1 x2 x3 x4 x5 x6)))])) _
    refine XS.iconst X12.here hx rfl (hb hby d3_31) ?_
    show Steps p.tables e below (T12.setTop (mkF m 32 (LS_RIR r0 p1 b1) [(.int (5 : Int32)), (.ref b1), (.long (((((own_c0 x0 x1 x2 x3 x4 x5 x6) ||| (own_c1 x0 x1 x2 x3 x4 x5 x6)) ||| (own_c2 x0 x1 x2 x3 x4 x5 x6)) ||| (own_c3 x0 x1 x2 x3 x4 x5 x6)) ||| (own_c4 x0 x1 x2 x3 x4 x5 x6)))])) _
    refine X12.laload hx (j := (5 : Int32)) (v := (.long (own_c5 x0 x1 x2 x3 x4 x5 x6))) Ar23.1 (State.isArrayOf_alike hZ.alike Ar23.2.1) Ar23.2.2 hin24 hat24 (g := (mkF m 32 (LS_RIR r0 p1 b1) [(.int (5 : Int32)), (.ref b1), (.long (((((own_c0 x0 x1 x2 x3 x4 x5 x6) ||| (own_c1 x0 x1 x2 x3 x4 x5 x6)) ||| (own_c2 x0 x1 x2 x3 x4 x5 x6)) ||| (own_c3 x0 x1 x2 x3 x4 x5 x6)) ||| (own_c4 x0 x1 x2 x3 x4 x5 x6)))])) rfl rfl (hb hby d3_32) _ ?_
    show Steps p.tables e below (T12.setTop (mkF m 33 (LS_RIR r0 p1 b1) [(.long (own_c5 x0 x1 x2 x3 x4 x5 x6)), (.long (((((own_c0 x0 x1 x2 x3 x4 x5 x6) ||| (own_c1 x0 x1 x2 x3 x4 x5 x6)) ||| (own_c2 x0 x1 x2 x3 x4 x5 x6)) ||| (own_c3 x0 x1 x2 x3 x4 x5 x6)) ||| (own_c4 x0 x1 x2 x3 x4 x5 x6)))])) _
    refine XS.lor X12.here hx rfl (hb hby d3_33) rfl ?_
    show Steps p.tables e below (T12.setTop (mkF m 34 (LS_RIR r0 p1 b1) [(.long ((((((own_c0 x0 x1 x2 x3 x4 x5 x6) ||| (own_c1 x0 x1 x2 x3 x4 x5 x6)) ||| (own_c2 x0 x1 x2 x3 x4 x5 x6)) ||| (own_c3 x0 x1 x2 x3 x4 x5 x6)) ||| (own_c4 x0 x1 x2 x3 x4 x5 x6)) ||| (own_c5 x0 x1 x2 x3 x4 x5 x6)))])) _
    refine XS.aloadN X12.here hx rfl (hb hby d3_34) rfl rfl ?_
    show Steps p.tables e below (T12.setTop (mkF m 35 (LS_RIR r0 p1 b1) [(.ref b1), (.long ((((((own_c0 x0 x1 x2 x3 x4 x5 x6) ||| (own_c1 x0 x1 x2 x3 x4 x5 x6)) ||| (own_c2 x0 x1 x2 x3 x4 x5 x6)) ||| (own_c3 x0 x1 x2 x3 x4 x5 x6)) ||| (own_c4 x0 x1 x2 x3 x4 x5 x6)) ||| (own_c5 x0 x1 x2 x3 x4 x5 x6)))])) _
    refine XS.bipush X12.here hx rfl (hb hby d3_35) ?_
    show Steps p.tables e below (T12.setTop (mkF m 37 (LS_RIR r0 p1 b1) [(.int (6 : Int32)), (.ref b1), (.long ((((((own_c0 x0 x1 x2 x3 x4 x5 x6) ||| (own_c1 x0 x1 x2 x3 x4 x5 x6)) ||| (own_c2 x0 x1 x2 x3 x4 x5 x6)) ||| (own_c3 x0 x1 x2 x3 x4 x5 x6)) ||| (own_c4 x0 x1 x2 x3 x4 x5 x6)) ||| (own_c5 x0 x1 x2 x3 x4 x5 x6)))])) _
    refine X12.laload hx (j := (6 : Int32)) (v := (.long (own_c6 x0 x1 x2 x3 x4 x5 x6))) Ar25.1 (State.isArrayOf_alike hZ.alike Ar25.2.1) Ar25.2.2 hin26 hat26 (g := (mkF m 37 (LS_RIR r0 p1 b1) [(.int (6 : Int32)), (.ref b1), (.long ((((((own_c0 x0 x1 x2 x3 x4 x5 x6) ||| (own_c1 x0 x1 x2 x3 x4 x5 x6)) ||| (own_c2 x0 x1 x2 x3 x4 x5 x6)) ||| (own_c3 x0 x1 x2 x3 x4 x5 x6)) ||| (own_c4 x0 x1 x2 x3 x4 x5 x6)) ||| (own_c5 x0 x1 x2 x3 x4 x5 x6)))])) rfl rfl (hb hby d3_37) _ ?_
    show Steps p.tables e below (T12.setTop (mkF m 38 (LS_RIR r0 p1 b1) [(.long (own_c6 x0 x1 x2 x3 x4 x5 x6)), (.long ((((((own_c0 x0 x1 x2 x3 x4 x5 x6) ||| (own_c1 x0 x1 x2 x3 x4 x5 x6)) ||| (own_c2 x0 x1 x2 x3 x4 x5 x6)) ||| (own_c3 x0 x1 x2 x3 x4 x5 x6)) ||| (own_c4 x0 x1 x2 x3 x4 x5 x6)) ||| (own_c5 x0 x1 x2 x3 x4 x5 x6)))])) _
    refine XS.lor X12.here hx rfl (hb hby d3_38) rfl ?_
    show Steps p.tables e below (T12.setTop (mkF m 39 (LS_RIR r0 p1 b1) [(.long (((((((own_c0 x0 x1 x2 x3 x4 x5 x6) ||| (own_c1 x0 x1 x2 x3 x4 x5 x6)) ||| (own_c2 x0 x1 x2 x3 x4 x5 x6)) ||| (own_c3 x0 x1 x2 x3 x4 x5 x6)) ||| (own_c4 x0 x1 x2 x3 x4 x5 x6)) ||| (own_c5 x0 x1 x2 x3 x4 x5 x6)) ||| (own_c6 x0 x1 x2 x3 x4 x5 x6)))])) _
    refine XS.lconst X12.here hx rfl (hb hby d3_39) ?_
    show Steps p.tables e below (T12.setTop (mkF m 40 (LS_RIR r0 p1 b1) [(.long (0 : Int64)), (.long (((((((own_c0 x0 x1 x2 x3 x4 x5 x6) ||| (own_c1 x0 x1 x2 x3 x4 x5 x6)) ||| (own_c2 x0 x1 x2 x3 x4 x5 x6)) ||| (own_c3 x0 x1 x2 x3 x4 x5 x6)) ||| (own_c4 x0 x1 x2 x3 x4 x5 x6)) ||| (own_c5 x0 x1 x2 x3 x4 x5 x6)) ||| (own_c6 x0 x1 x2 x3 x4 x5 x6)))])) _
    refine XS.lcmp X12.here hx rfl (hb hby d3_40) rfl ?_
    exact k
  by_cases hc41_27 : (((((((own_c0 x0 x1 x2 x3 x4 x5 x6) ||| (own_c1 x0 x1 x2 x3 x4 x5 x6)) ||| (own_c2 x0 x1 x2 x3 x4 x5 x6)) ||| (own_c3 x0 x1 x2 x3 x4 x5 x6)) ||| (own_c4 x0 x1 x2 x3 x4 x5 x6)) ||| (own_c5 x0 x1 x2 x3 x4 x5 x6)) ||| (own_c6 x0 x1 x2 x3 x4 x5 x6)) = (0 : Int64)
  · refine own_go (B := T12.setTop (mkF m 49 (LS_RIR r0 p1 b1) [(.int (1 : Int32))])) (fun t k => ?_) ?_
    · show Steps p.tables e below (T12.setTop (mkF m 41 (LS_RIR r0 p1 b1) [(.int (lcmpW (((((((own_c0 x0 x1 x2 x3 x4 x5 x6) ||| (own_c1 x0 x1 x2 x3 x4 x5 x6)) ||| (own_c2 x0 x1 x2 x3 x4 x5 x6)) ||| (own_c3 x0 x1 x2 x3 x4 x5 x6)) ||| (own_c4 x0 x1 x2 x3 x4 x5 x6)) ||| (own_c5 x0 x1 x2 x3 x4 x5 x6)) ||| (own_c6 x0 x1 x2 x3 x4 x5 x6)) (0 : Int64)))])) _
      refine XS.ifNo X12.here hx rfl (hb hby d3_41) rfl ((if0 _ _).trans (teq ((lw_eq (((((((own_c0 x0 x1 x2 x3 x4 x5 x6) ||| (own_c1 x0 x1 x2 x3 x4 x5 x6)) ||| (own_c2 x0 x1 x2 x3 x4 x5 x6)) ||| (own_c3 x0 x1 x2 x3 x4 x5 x6)) ||| (own_c4 x0 x1 x2 x3 x4 x5 x6)) ||| (own_c5 x0 x1 x2 x3 x4 x5 x6)) ||| (own_c6 x0 x1 x2 x3 x4 x5 x6)) (0 : Int64)).mpr hc41_27)).2) ?_
      show Steps p.tables e below (T12.setTop (mkF m 44 (LS_RIR r0 p1 b1) [])) _
      refine XS.iconst X12.here hx rfl (hb hby d3_44) ?_
      show Steps p.tables e below (T12.setTop (mkF m 45 (LS_RIR r0 p1 b1) [(.int (1 : Int32))])) _
      refine XS.goto X12.here hx rfl (pc0 := 45) (pc' := 49) rfl (hb hby d3_45) (by decide) (by decide) ?_
      exact k
    obtain ⟨fs, hr, hrun, hended, hW, hsame⟩ := X12.leave (v := some (.int (1 : Int32))) (fun h => by rw [Bd.returns] at h; cases h)
    refine ⟨_, _, ?_, hrun, hended, _, _, rfl, ?_, ⟨_, rfl⟩, hW, hsame.mono (by decide) (by decide)⟩
    · show Steps p.tables e below (T12.setTop (mkF m 49 (LS_RIR r0 p1 b1) [(.int (1 : Int32))])) _
      exact retN X12 hx (t := .boolean) Bd.returns (by simp) (hb hby d3_49) hr
    · show Q3 Z r0 p1 cl x0 x1 x2 x3 x4 x5 x6 h0 n0 _ T12.heap _
      exact ⟨by rw [if_pos hc41_27], N12⟩
  · refine own_go (B := T12.setTop (mkF m 49 (LS_RIR r0 p1 b1) [(.int (0 : Int32))])) (fun t k => ?_) ?_
    · show Steps p.tables e below (T12.setTop (mkF m 41 (LS_RIR r0 p1 b1) [(.int (lcmpW (((((((own_c0 x0 x1 x2 x3 x4 x5 x6) ||| (own_c1 x0 x1 x2 x3 x4 x5 x6)) ||| (own_c2 x0 x1 x2 x3 x4 x5 x6)) ||| (own_c3 x0 x1 x2 x3 x4 x5 x6)) ||| (own_c4 x0 x1 x2 x3 x4 x5 x6)) ||| (own_c5 x0 x1 x2 x3 x4 x5 x6)) ||| (own_c6 x0 x1 x2 x3 x4 x5 x6)) (0 : Int64)))])) _
      refine XS.ifYes X12.here hx rfl (pc0 := 41) (pc' := 48) rfl (hb hby d3_41) rfl ((if0 _ _).trans (feq (fun q => hc41_27 ((lw_eq (((((((own_c0 x0 x1 x2 x3 x4 x5 x6) ||| (own_c1 x0 x1 x2 x3 x4 x5 x6)) ||| (own_c2 x0 x1 x2 x3 x4 x5 x6)) ||| (own_c3 x0 x1 x2 x3 x4 x5 x6)) ||| (own_c4 x0 x1 x2 x3 x4 x5 x6)) ||| (own_c5 x0 x1 x2 x3 x4 x5 x6)) ||| (own_c6 x0 x1 x2 x3 x4 x5 x6)) (0 : Int64)).mp q))).2) (by decide) (by decide) ?_
      show Steps p.tables e below (T12.setTop (mkF m 48 (LS_RIR r0 p1 b1) [])) _
      refine XS.iconst X12.here hx rfl (hb hby d3_48) ?_
      exact k
    obtain ⟨fs, hr, hrun, hended, hW, hsame⟩ := X12.leave (v := some (.int (0 : Int32))) (fun h => by rw [Bd.returns] at h; cases h)
    refine ⟨_, _, ?_, hrun, hended, _, _, rfl, ?_, ⟨_, rfl⟩, hW, hsame.mono (by decide) (by decide)⟩
    · show Steps p.tables e below (T12.setTop (mkF m 49 (LS_RIR r0 p1 b1) [(.int (0 : Int32))])) _
      exact retN X12 hx (t := .boolean) Bd.returns (by simp) (hb hby d3_49) hr
    · show Q3 Z r0 p1 cl x0 x1 x2 x3 x4 x5 x6 h0 n0 _ T12.heap _
      exact ⟨by rw [if_neg hc41_27], N12⟩
theorem own_and3 (x : Int32) : x &&& (3 : Int32) = (0 : Int32) ∨ x &&& (3 : Int32) = (1 : Int32) ∨ x &&& (3 : Int32) = (2 : Int32) ∨ x &&& (3 : Int32) = (3 : Int32) := by
  have h : (x &&& (3 : Int32)).toInt = x.toInt % 2 ^ 2 := Jvm.Kit.i32_mask x 3 (k := 2) (by decide) (by decide)
  simp only [← Int32.toInt_inj, h, Int32.reduceToInt]
  omega
theorem own_ite {A B : Prop} [Decidable A] [Decidable B] (h : A ↔ B) : (if A then (1 : Int32) else (0 : Int32)) = (if B then (1 : Int32) else (0 : Int32)) := by
  by_cases a : A
  · rw [if_pos a, if_pos (h.mp a)]
  · rw [if_neg a, if_neg fun q => a (h.mpr q)]
theorem own_remrng (x : Int64) : 0 ≤ (((x &&& (36028797018963967 : Int64)) - ((x &&& (36028797018963967 : Int64)) / (1829881462546425 : Int64)) * (1829881462546425 : Int64))).toInt ∧ (((x &&& (36028797018963967 : Int64)) - ((x &&& (36028797018963967 : Int64)) / (1829881462546425 : Int64)) * (1829881462546425 : Int64))).toInt < 36028797018963968 := by
  have h := own_mrng x
  have hr := Jvm.Kit.i64_rem_nonneg (x := x &&& (36028797018963967 : Int64)) (y := (1829881462546425 : Int64)) h.1
  have hp : (1829881462546425 : Int64).toInt = 1829881462546425 := rfl
  rw [hr, hp]
  omega
theorem ef_0 (m : MethodId) (q0 : Int64) (q1 : Int64) (q2 : Int64) (q3 : Int64) (q4 : Int64) (p5 : Int32) : entryFrame m #[(.long q0), (.long q1), (.long q2), (.long q3), (.long q4), (.int p5)] maxLocals = mkF m 0 #[.val (.long q0), .second, .val (.long q1), .second, .val (.long q2), .second, .val (.long q3), .second, .val (.long q4), .second, .val (.int p5), .unset, .unset, .unset, .unset, .unset, .unset, .unset, .unset, .unset, .unset] [] := by first | (simp [entryFrame, mkF, argsToLocals, Value.category, maxLocals]; done) | rfl
theorem pn_0 : plainName "com/example/barred_rows/barredrows/crypto/FpIsZeroPinLaw" = true := by first | (simp [plainName, overriddenIn]; done) | decide +kernel
abbrev LS_JsJsJsJsJsIuuuuuuuuuu (a0 : Int64) (a1 : Int64) (a2 : Int64) (a3 : Int64) (a4 : Int64) (a5 : Int32) : Array Slot := #[.val (.long a0), .second, .val (.long a1), .second, .val (.long a2), .second, .val (.long a3), .second, .val (.long a4), .second, .val (.int a5), .unset, .unset, .unset, .unset, .unset, .unset, .unset, .unset, .unset, .unset]
abbrev LS_JsJsJsJsJsIJsuuuuuuuu (a0 : Int64) (a1 : Int64) (a2 : Int64) (a3 : Int64) (a4 : Int64) (a5 : Int32) (a6 : Int64) : Array Slot := #[.val (.long a0), .second, .val (.long a1), .second, .val (.long a2), .second, .val (.long a3), .second, .val (.long a4), .second, .val (.int a5), .val (.long a6), .second, .unset, .unset, .unset, .unset, .unset, .unset, .unset, .unset]
theorem pd____J : parseMethodDescriptor "()[J" = some ⟨[], some (.array .long)⟩ := by decide +kernel
abbrev LS_JsJsJsJsJsIJsRuuuuuuu (a0 : Int64) (a1 : Int64) (a2 : Int64) (a3 : Int64) (a4 : Int64) (a5 : Int32) (a6 : Int64) (a7 : Addr) : Array Slot := #[.val (.long a0), .second, .val (.long a1), .second, .val (.long a2), .second, .val (.long a3), .second, .val (.long a4), .second, .val (.int a5), .val (.long a6), .second, .val (.ref a7), .unset, .unset, .unset, .unset, .unset, .unset, .unset]
abbrev LS_JsJsJsJsJsIJsRRuuuuuu (a0 : Int64) (a1 : Int64) (a2 : Int64) (a3 : Int64) (a4 : Int64) (a5 : Int32) (a6 : Int64) (a7 : Addr) (a8 : Addr) : Array Slot := #[.val (.long a0), .second, .val (.long a1), .second, .val (.long a2), .second, .val (.long a3), .second, .val (.long a4), .second, .val (.int a5), .val (.long a6), .second, .val (.ref a7), .val (.ref a8), .unset, .unset, .unset, .unset, .unset, .unset]
abbrev LS_JsJsJsJsJsIJsRRRuuuuu (a0 : Int64) (a1 : Int64) (a2 : Int64) (a3 : Int64) (a4 : Int64) (a5 : Int32) (a6 : Int64) (a7 : Addr) (a8 : Addr) (a9 : Addr) : Array Slot := #[.val (.long a0), .second, .val (.long a1), .second, .val (.long a2), .second, .val (.long a3), .second, .val (.long a4), .second, .val (.int a5), .val (.long a6), .second, .val (.ref a7), .val (.ref a8), .val (.ref a9), .unset, .unset, .unset, .unset, .unset]
abbrev LS_JsJsJsJsJsIJsRRRIuuuu (a0 : Int64) (a1 : Int64) (a2 : Int64) (a3 : Int64) (a4 : Int64) (a5 : Int32) (a6 : Int64) (a7 : Addr) (a8 : Addr) (a9 : Addr) (a10 : Int32) : Array Slot := #[.val (.long a0), .second, .val (.long a1), .second, .val (.long a2), .second, .val (.long a3), .second, .val (.long a4), .second, .val (.int a5), .val (.long a6), .second, .val (.ref a7), .val (.ref a8), .val (.ref a9), .val (.int a10), .unset, .unset, .unset, .unset]
abbrev LS_JsJsJsJsJsIJsRRRIRuuu (a0 : Int64) (a1 : Int64) (a2 : Int64) (a3 : Int64) (a4 : Int64) (a5 : Int32) (a6 : Int64) (a7 : Addr) (a8 : Addr) (a9 : Addr) (a10 : Int32) (a11 : Addr) : Array Slot := #[.val (.long a0), .second, .val (.long a1), .second, .val (.long a2), .second, .val (.long a3), .second, .val (.long a4), .second, .val (.int a5), .val (.long a6), .second, .val (.ref a7), .val (.ref a8), .val (.ref a9), .val (.int a10), .val (.ref a11), .unset, .unset, .unset]
abbrev LS_JsJsJsJsJsIJsRRRIRIuu (a0 : Int64) (a1 : Int64) (a2 : Int64) (a3 : Int64) (a4 : Int64) (a5 : Int32) (a6 : Int64) (a7 : Addr) (a8 : Addr) (a9 : Addr) (a10 : Int32) (a11 : Addr) (a12 : Int32) : Array Slot := #[.val (.long a0), .second, .val (.long a1), .second, .val (.long a2), .second, .val (.long a3), .second, .val (.long a4), .second, .val (.int a5), .val (.long a6), .second, .val (.ref a7), .val (.ref a8), .val (.ref a9), .val (.int a10), .val (.ref a11), .val (.int a12), .unset, .unset]
abbrev LS_JsJsJsJsJsIJsRRRIRIRu (a0 : Int64) (a1 : Int64) (a2 : Int64) (a3 : Int64) (a4 : Int64) (a5 : Int32) (a6 : Int64) (a7 : Addr) (a8 : Addr) (a9 : Addr) (a10 : Int32) (a11 : Addr) (a12 : Int32) (a13 : Addr) : Array Slot := #[.val (.long a0), .second, .val (.long a1), .second, .val (.long a2), .second, .val (.long a3), .second, .val (.long a4), .second, .val (.int a5), .val (.long a6), .second, .val (.ref a7), .val (.ref a8), .val (.ref a9), .val (.int a10), .val (.ref a11), .val (.int a12), .val (.ref a13), .unset]
theorem pd___J_J_Z : parseMethodDescriptor "([J[J)Z" = some ⟨[(.array .long), (.array .long)], some .boolean⟩ := by decide +kernel
abbrev LS_JsJsJsJsJsIJsRRRIRIRI (a0 : Int64) (a1 : Int64) (a2 : Int64) (a3 : Int64) (a4 : Int64) (a5 : Int32) (a6 : Int64) (a7 : Addr) (a8 : Addr) (a9 : Addr) (a10 : Int32) (a11 : Addr) (a12 : Int32) (a13 : Addr) (a14 : Int32) : Array Slot := #[.val (.long a0), .second, .val (.long a1), .second, .val (.long a2), .second, .val (.long a3), .second, .val (.long a4), .second, .val (.int a5), .val (.long a6), .second, .val (.ref a7), .val (.ref a8), .val (.ref a9), .val (.int a10), .val (.ref a11), .val (.int a12), .val (.ref a13), .val (.int a14)]
theorem pd___JI_Z : parseMethodDescriptor "([JI)Z" = some ⟨[(.array .long), .int], some .boolean⟩ := by decide +kernel
theorem pd___J_J__J : parseMethodDescriptor "([J[J)[J" = some ⟨[(.array .long), (.array .long)], some (.array .long)⟩ := by decide +kernel
def Q0 (Z : State) (q0 : Int64) (q1 : Int64) (q2 : Int64) (q3 : Int64) (q4 : Int64) (p5 : Int32) (h0 : Heap) (n0 : Nat) (v : Option Value) (h : Heap) (L : List Loc) : Prop := v = some (.int (1 : Int32)) ∧ Fr n0 L
set_option maxRecDepth 65536 in
set_option maxHeartbeats 40000000 in
theorem rm0 (l : Launch) (Z : State) (a0 : Array Value) (hw : ∀ d ∈ tables_1, d.before a0 Z = true) (ws : List Jvm.Cond) (q0 : Int64) (q1 : Int64) (q2 : Int64) (q3 : Int64) (q4 : Int64) (p5 : Int32) (h0 : Heap) (n0 : Nat) (Z0 : n0 ≤ h0.size) (S_Fp_P0 : Sta Z h0 "com/example/barred_rows/barredrows/crypto/Fp" "P0" "J" (.long (35747322042231467 : Int64))) (S_Fp_P1 : Sta Z h0 "com/example/barred_rows/barredrows/crypto/Fp" "P1" "J" (.long (36025922209447795 : Int64))) (S_Fp_P2 : Sta Z h0 "com/example/barred_rows/barredrows/crypto/Fp" "P2" "J" (.long (1084959616957103 : Int64))) (S_Fp_P3 : Sta Z h0 "com/example/barred_rows/barredrows/crypto/Fp" "P3" "J" (.long (7925923977987733 : Int64))) (S_Fp_P4 : Sta Z h0 "com/example/barred_rows/barredrows/crypto/Fp" "P4" "J" (.long (16551456537884751 : Int64))) (S_Fp_P5 : Sta Z h0 "com/example/barred_rows/barredrows/crypto/Fp" "P5" "J" (.long (23443114579904617 : Int64))) (S_Fp_P6 : Sta Z h0 "com/example/barred_rows/barredrows/crypto/Fp" "P6" "J" (.long (1829881462546425 : Int64))) :
    MetFree l x (head1 (Jvm.Cond.code x code maxLocals ret :: ws) room_1) (fun a U => a = #[(.long q0), (.long q1), (.long q2), (.long q3), (.long q4), (.int p5)] ∧ Z.Warmed39 U.vm ∧ U.heap = h0) (fun _ _ _ _ _ => True) (fun _ U o U' => ∃ v L, o = .returned v ∧ Q0 Z q0 q1 q2 q3 q4 p5 h0 n0 v U'.heap L ∧ FrameEnd U o U' L room_1.cells room_1.slots) := by
  refine MetFree.of_bodySF (plainFor_of_name pn_0) hisR ?_
  intro p e s m args below meth c s₁ Bd hml0 hP hK
  obtain ⟨rfl, hZ, hh⟩ := hP
  have hx := Bd.exec
  have hby := Bd.bytes
  have hml : c.maxLocals = 21 := hml0
  have hown : s.vm.findClass "com/example/barred_rows/barredrows/crypto/FpIsZeroPinLaw" = some m.cls := findClass_of_methodNamed Bd.named
  have hnm := (name_of_methodNamed Bd.named Bd.method).1
  have X0 : Stand p l e room_1 s m #[(.long q0), (.long q1), (.long q2), (.long q3), (.long q4), (.int p5)] below meth c s₁ [] 0 0 := Stand.of_body Bd
  have e0 : s₁.heap = h0 := by rw [← hh, Bd.state]; rfl
  have N0 := Fr.nil n0
  refine own_go (B := s₁.setTop (mkF m 0 (LS_JsJsJsJsJsIuuuuuuuuuu q0 q1 q2 q3 q4 p5) [])) (fun t k => castTop (ef_0 m q0 q1 q2 q3 q4 p5) k) ?_
  refine own_go (B := s₁.setTop (mkF m 5 (LS_JsJsJsJsJsIJsuuuuuuuu q0 q1 q2 q3 q4 p5 (36028797018963967 : Int64)) [])) (fun t k => ?_) ?_
  · show Steps p.tables e below (s₁.setTop (mkF m 0 (LS_JsJsJsJsJsIuuuuuuuuuu q0 q1 q2 q3 q4 p5) [])) _
    refine X0.ldc2Long hx hown (mvT hZ (hw _ (List.mem_of_getElem? (i := 0) rfl))) (g := (mkF m 0 (LS_JsJsJsJsJsIuuuuuuuuuu q0 q1 q2 q3 q4 p5) [])) rfl (hb hby at_0) _ ?_
    show Steps p.tables e below (s₁.setTop (mkF m 3 (LS_JsJsJsJsJsIuuuuuuuuuu q0 q1 q2 q3 q4 p5) [(.long (36028797018963967 : Int64))])) _
    refine XS.lstore X0.here hx rfl (hb hby at_3) rfl (l' := (LS_JsJsJsJsJsIJsuuuuuuuu q0 q1 q2 q3 q4 p5 (36028797018963967 : Int64))) rfl ?_
    exact k
  obtain ⟨_, _, ⟨T1, L1, k1, n1⟩, -, X1, ⟨Lc1, hQ1, l1, y1, z1⟩, st1⟩ := Jvm.LawKit.callS X0 hx (y := (⟨"com/example/barred_rows/barredrows/crypto/FpIsZeroPinLaw", "modulus", "()[J"⟩ : MethodName)) hown (mvT hZ (hw _ (List.mem_of_getElem? (i := 1) rfl))) (mvT hZ (hw _ (List.mem_of_getElem? (i := 2) rfl))) (mvT hZ (hw _ (List.mem_of_getElem? (i := 3) rfl))) (mvT hZ (hw _ (List.mem_of_getElem? (i := 4) rfl))) (by decide) (backOf (W := 0) (rm1 l Z a0 hw [] h0 n0 Z0) hZ (hw _ (List.mem_of_getElem? (i := 4) rfl)) (hw _ (List.mem_of_getElem? (i := 3) rfl)) (by decide) (by decide)) (g := (mkF m 5 (LS_JsJsJsJsJsIJsuuuuuuuu q0 q1 q2 q3 q4 p5 (36028797018963967 : Int64)) [])) rfl (by rw [hml]; rfl) (argsL := []) (rest := []) (lenOf pd____J rfl) rfl (by show 2 * 0 + _ ≤ _; exact Nat.le_of_eq rfl) (hb hby at_5) (fun _ _ => ⟨rfl, e0, (by decide : 0 + 1 ≤ _), (by decide : 0 + 7 ≤ _)⟩)
  dsimp only [Pt.U, Pt.locs, Pt.cells, Pt.slots] at X1 l1 y1 z1 st1 hQ1
  subst l1 y1 z1
  obtain ⟨o1, ko1, rfl, N1q, hfr1, K1, V1r⟩ := hQ1
  have N1 := Fr.app N0 N1q
  have g_o1 : n0 ≤ o1 := Nat.le_trans Z0 hfr1
  refine own_go (B := T1.setTop (mkF m 8 (LS_JsJsJsJsJsIJsuuuuuuuu q0 q1 q2 q3 q4 p5 (36028797018963967 : Int64)) [(.ref o1)])) (fun t k => st1 _ k) ?_
  refine own_go (B := T1.setTop (mkF m 12 (LS_JsJsJsJsJsIJsRuuuuuuu q0 q1 q2 q3 q4 p5 (36028797018963967 : Int64) o1) [(.int (7 : Int32))])) (fun t k => ?_) ?_
  · show Steps p.tables e below (T1.setTop (mkF m 8 (LS_JsJsJsJsJsIJsuuuuuuuu q0 q1 q2 q3 q4 p5 (36028797018963967 : Int64)) [(.ref o1)])) _
    refine XS.astore X1.here hx rfl (hb hby at_8) rfl rfl (l' := (LS_JsJsJsJsJsIJsRuuuuuuu q0 q1 q2 q3 q4 p5 (36028797018963967 : Int64) o1)) rfl ?_
    show Steps p.tables e below (T1.setTop (mkF m 10 (LS_JsJsJsJsJsIJsRuuuuuuu q0 q1 q2 q3 q4 p5 (36028797018963967 : Int64) o1) [])) _
    refine XS.bipush X1.here hx rfl (hb hby at_10) ?_
    exact k
  obtain ⟨T2, h2, k2, X2, e2, E2, A2, st2⟩ := newP X1 hx hZ (hw _ (List.mem_of_getElem? (i := 11) rfl)) rfl (g := (mkF m 12 (LS_JsJsJsJsJsIJsRuuuuuuu q0 q1 q2 q3 q4 p5 (36028797018963967 : Int64) o1) [(.int (7 : Int32))])) rfl (hb hby at_12) rfl (by decide) (cap := 7) (by decide) (by decide) (by decide) (by decide)
  obtain ⟨b2, g2⟩ : ∃ z, z = T1.heap.size := ⟨_, rfl⟩
  rw [← g2] at A2 st2
  have Z0_v3 := Nat.le_trans Z0 K1.1
  have g_b2 : n0 ≤ b2 := Nat.le_trans Z0_v3 (Nat.le_of_eq g2.symm)
  have V2 : Arv Z h2 b2 k2 .long (7 : Int32) [(.long (0 : Int64)), (.long (0 : Int64)), (.long (0 : Int64)), (.long (0 : Int64)), (.long (0 : Int64)), (.long (0 : Int64)), (.long (0 : Int64))] (.long (0 : Int64)) := (Arv.new A2 (by decide)).pad (pad_rep [] (.long (0 : Int64)) 7)
  refine own_go (B := T2.setTop (mkF m 14 (LS_JsJsJsJsJsIJsRuuuuuuu q0 q1 q2 q3 q4 p5 (36028797018963967 : Int64) o1) [(.ref b2)])) (fun t k => st2 _ k) ?_
  refine own_go (B := T2.setTop (mkF m 19 (LS_JsJsJsJsJsIJsRRuuuuuu q0 q1 q2 q3 q4 p5 (36028797018963967 : Int64) o1 b2) [(.int (0 : Int32)), (.ref b2)])) (fun t k => ?_) ?_
  · show Steps p.tables e below (T2.setTop (mkF m 14 (LS_JsJsJsJsJsIJsRuuuuuuu q0 q1 q2 q3 q4 p5 (36028797018963967 : Int64) o1) [(.ref b2)])) _
    refine XS.astore X2.here hx rfl (hb hby at_14) rfl rfl (l' := (LS_JsJsJsJsJsIJsRRuuuuuu q0 q1 q2 q3 q4 p5 (36028797018963967 : Int64) o1 b2)) rfl ?_
    show Steps p.tables e below (T2.setTop (mkF m 16 (LS_JsJsJsJsJsIJsRRuuuuuu q0 q1 q2 q3 q4 p5 (36028797018963967 : Int64) o1 b2) [])) _
    refine XS.aload X2.here hx rfl (hb hby at_16) rfl rfl ?_
    show Steps p.tables e below (T2.setTop (mkF m 18 (LS_JsJsJsJsJsIJsRRuuuuuu q0 q1 q2 q3 q4 p5 (36028797018963967 : Int64) o1 b2) [(.ref b2)])) _
    refine XS.iconst X2.here hx rfl (hb hby at_18) ?_
    exact k
  refine own_join X2 (ι := Int64) (fun i4 T' => T'.heap = h2 ∧ (0 ≤ (i4).toInt ∧ (i4).toInt < 36028797018963968)) (fun i4 => mkF m 34 (LS_JsJsJsJsJsIJsRRuuuuuu q0 q1 q2 q3 q4 p5 (36028797018963967 : Int64) o1 b2) [(.long i4), (.int (0 : Int32)), (.ref b2)]) ?_ ?_
  · intro x0 T4 X4 hi4
    obtain ⟨e4, phi4⟩ := hi4
    obtain ⟨cl5, Ar5, qa5, Sa5, Na5, Ha5, Ga5⟩ := id V2
    have hin6 : ¬ ((0 : Int32) < 0 ∨ cl5.slots.size ≤ ((0 : Int32)).toNatClampNeg) := inb_of Sa5 ⟨by decide, by decide⟩
    obtain ⟨T6, h6, X6, e6, W6, st6⟩ := stJ X4 hx hZ e4 Ar5 (j := (0 : Int32)) hin6 (g := (mkF m 34 (LS_JsJsJsJsJsIJsRRuuuuuu q0 q1 q2 q3 q4 p5 (36028797018963967 : Int64) o1 b2) [(.long x0), (.int (0 : Int32)), (.ref b2)])) rfl rfl (hb hby at_34)
    have N6 := Fr.snoc X6 N1 g_b2
    have V6 : Arv Z h6 b2 k2 .long (7 : Int32) [(.long x0), (.long (0 : Int64)), (.long (0 : Int64)), (.long (0 : Int64)), (.long (0 : Int64)), (.long (0 : Int64)), (.long (0 : Int64))] (.long (0 : Int64)) := Arv.set Ar5 qa5 Sa5 Na5 Ha5 Ga5 rfl W6 0 rfl (Nat.le_of_ble_eq_true rfl)
    refine own_go (B := T6.setTop (mkF m 35 (LS_JsJsJsJsJsIJsRRuuuuuu q0 q1 q2 q3 q4 p5 (36028797018963967 : Int64) o1 b2) [])) (fun t k => st6 _ k) ?_
    refine own_go (B := T6.setTop (mkF m 38 (LS_JsJsJsJsJsIJsRRuuuuuu q0 q1 q2 q3 q4 p5 (36028797018963967 : Int64) o1 b2) [(.int (1 : Int32)), (.ref b2)])) (fun t k => ?_) ?_
    · show Steps p.tables e below (T6.setTop (mkF m 35 (LS_JsJsJsJsJsIJsRRuuuuuu q0 q1 q2 q3 q4 p5 (36028797018963967 : Int64) o1 b2) [])) _
      refine XS.aload X6.here hx rfl (hb hby at_35) rfl rfl ?_
      show Steps p.tables e below (T6.setTop (mkF m 37 (LS_JsJsJsJsJsIJsRRuuuuuu q0 q1 q2 q3 q4 p5 (36028797018963967 : Int64) o1 b2) [(.ref b2)])) _
      refine XS.iconst X6.here hx rfl (hb hby at_37) ?_
      exact k
    refine own_join X6 (ι := Int64) (fun i7 T' => T'.heap = h6 ∧ (0 ≤ (i7).toInt ∧ (i7).toInt < 36028797018963968)) (fun i7 => mkF m 53 (LS_JsJsJsJsJsIJsRRuuuuuu q0 q1 q2 q3 q4 p5 (36028797018963967 : Int64) o1 b2) [(.long i7), (.int (1 : Int32)), (.ref b2)]) ?_ ?_
    · intro x1 T7 X7 hi7
      obtain ⟨e7, phi7⟩ := hi7
      obtain ⟨cl8, Ar8, qa8, Sa8, Na8, Ha8, Ga8⟩ := id V6
      have hin9 : ¬ ((1 : Int32) < 0 ∨ cl8.slots.size ≤ ((1 : Int32)).toNatClampNeg) := inb_of Sa8 ⟨by decide, by decide⟩
      obtain ⟨T9, h9, X9, e9, W9, st9⟩ := stJ X7 hx hZ e7 Ar8 (j := (1 : Int32)) hin9 (g := (mkF m 53 (LS_JsJsJsJsJsIJsRRuuuuuu q0 q1 q2 q3 q4 p5 (36028797018963967 : Int64) o1 b2) [(.long x1), (.int (1 : Int32)), (.ref b2)])) rfl rfl (hb hby at_53)
      have N9 := Fr.snoc X9 N6 g_b2
      have V9 : Arv Z h9 b2 k2 .long (7 : Int32) [(.long x0), (.long x1), (.long (0 : Int64)), (.long (0 : Int64)), (.long (0 : Int64)), (.long (0 : Int64)), (.long (0 : Int64))] (.long (0 : Int64)) := Arv.set Ar8 qa8 Sa8 Na8 Ha8 Ga8 rfl W9 1 rfl (Nat.le_of_ble_eq_true rfl)
      refine own_go (B := T9.setTop (mkF m 54 (LS_JsJsJsJsJsIJsRRuuuuuu q0 q1 q2 q3 q4 p5 (36028797018963967 : Int64) o1 b2) [])) (fun t k => st9 _ k) ?_
      refine own_go (B := T9.setTop (mkF m 57 (LS_JsJsJsJsJsIJsRRuuuuuu q0 q1 q2 q3 q4 p5 (36028797018963967 : Int64) o1 b2) [(.int (2 : Int32)), (.ref b2)])) (fun t k => ?_) ?_
      · show Steps p.tables e below (T9.setTop (mkF m 54 (LS_JsJsJsJsJsIJsRRuuuuuu q0 q1 q2 q3 q4 p5 (36028797018963967 : Int64) o1 b2) [])) _
        refine XS.aload X9.here hx rfl (hb hby at_54) rfl rfl ?_
        show Steps p.tables e below (T9.setTop (mkF m 56 (LS_JsJsJsJsJsIJsRRuuuuuu q0 q1 q2 q3 q4 p5 (36028797018963967 : Int64) o1 b2) [(.ref b2)])) _
        refine XS.iconst X9.here hx rfl (hb hby at_56) ?_
        exact k
      refine own_join X9 (ι := Int64) (fun i10 T' => T'.heap = h9 ∧ (0 ≤ (i10).toInt ∧ (i10).toInt < 36028797018963968)) (fun i10 => mkF m 73 (LS_JsJsJsJsJsIJsRRuuuuuu q0 q1 q2 q3 q4 p5 (36028797018963967 : Int64) o1 b2) [(.long i10), (.int (2 : Int32)), (.ref b2)]) ?_ ?_
      · intro x2 T10 X10 hi10
        obtain ⟨e10, phi10⟩ := hi10
        obtain ⟨cl11, Ar11, qa11, Sa11, Na11, Ha11, Ga11⟩ := id V9
        have hin12 : ¬ ((2 : Int32) < 0 ∨ cl11.slots.size ≤ ((2 : Int32)).toNatClampNeg) := inb_of Sa11 ⟨by decide, by decide⟩
        obtain ⟨T12, h12, X12, e12, W12, st12⟩ := stJ X10 hx hZ e10 Ar11 (j := (2 : Int32)) hin12 (g := (mkF m 73 (LS_JsJsJsJsJsIJsRRuuuuuu q0 q1 q2 q3 q4 p5 (36028797018963967 : Int64) o1 b2) [(.long x2), (.int (2 : Int32)), (.ref b2)])) rfl rfl (hb hby at_73)
        have N12 := Fr.snoc X12 N9 g_b2
        have V12 : Arv Z h12 b2 k2 .long (7 : Int32) [(.long x0), (.long x1), (.long x2), (.long (0 : Int64)), (.long (0 : Int64)), (.long (0 : Int64)), (.long (0 : Int64))] (.long (0 : Int64)) := Arv.set Ar11 qa11 Sa11 Na11 Ha11 Ga11 rfl W12 2 rfl (Nat.le_of_ble_eq_true rfl)
        refine own_go (B := T12.setTop (mkF m 74 (LS_JsJsJsJsJsIJsRRuuuuuu q0 q1 q2 q3 q4 p5 (36028797018963967 : Int64) o1 b2) [])) (fun t k => st12 _ k) ?_
        refine own_go (B := T12.setTop (mkF m 77 (LS_JsJsJsJsJsIJsRRuuuuuu q0 q1 q2 q3 q4 p5 (36028797018963967 : Int64) o1 b2) [(.int (3 : Int32)), (.ref b2)])) (fun t k => ?_) ?_
        · show Steps p.tables e below (T12.setTop (mkF m 74 (LS_JsJsJsJsJsIJsRRuuuuuu q0 q1 q2 q3 q4 p5 (36028797018963967 : Int64) o1 b2) [])) _
          refine XS.aload X12.here hx rfl (hb hby at_74) rfl rfl ?_
          show Steps p.tables e below (T12.setTop (mkF m 76 (LS_JsJsJsJsJsIJsRRuuuuuu q0 q1 q2 q3 q4 p5 (36028797018963967 : Int64) o1 b2) [(.ref b2)])) _
          refine XS.iconst X12.here hx rfl (hb hby at_76) ?_
          exact k
        refine own_join X12 (ι := Int64) (fun i13 T' => T'.heap = h12 ∧ (0 ≤ (i13).toInt ∧ (i13).toInt < 36028797018963968)) (fun i13 => mkF m 94 (LS_JsJsJsJsJsIJsRRuuuuuu q0 q1 q2 q3 q4 p5 (36028797018963967 : Int64) o1 b2) [(.long i13), (.int (3 : Int32)), (.ref b2)]) ?_ ?_
        · intro x3 T13 X13 hi13
          obtain ⟨e13, phi13⟩ := hi13
          obtain ⟨cl14, Ar14, qa14, Sa14, Na14, Ha14, Ga14⟩ := id V12
          have hin15 : ¬ ((3 : Int32) < 0 ∨ cl14.slots.size ≤ ((3 : Int32)).toNatClampNeg) := inb_of Sa14 ⟨by decide, by decide⟩
          obtain ⟨T15, h15, X15, e15, W15, st15⟩ := stJ X13 hx hZ e13 Ar14 (j := (3 : Int32)) hin15 (g := (mkF m 94 (LS_JsJsJsJsJsIJsRRuuuuuu q0 q1 q2 q3 q4 p5 (36028797018963967 : Int64) o1 b2) [(.long x3), (.int (3 : Int32)), (.ref b2)])) rfl rfl (hb hby at_94)
          have N15 := Fr.snoc X15 N12 g_b2
          have V15 : Arv Z h15 b2 k2 .long (7 : Int32) [(.long x0), (.long x1), (.long x2), (.long x3), (.long (0 : Int64)), (.long (0 : Int64)), (.long (0 : Int64))] (.long (0 : Int64)) := Arv.set Ar14 qa14 Sa14 Na14 Ha14 Ga14 rfl W15 3 rfl (Nat.le_of_ble_eq_true rfl)
          refine own_go (B := T15.setTop (mkF m 95 (LS_JsJsJsJsJsIJsRRuuuuuu q0 q1 q2 q3 q4 p5 (36028797018963967 : Int64) o1 b2) [])) (fun t k => st15 _ k) ?_
          refine own_go (B := T15.setTop (mkF m 98 (LS_JsJsJsJsJsIJsRRuuuuuu q0 q1 q2 q3 q4 p5 (36028797018963967 : Int64) o1 b2) [(.int (4 : Int32)), (.ref b2)])) (fun t k => ?_) ?_
          · show Steps p.tables e below (T15.setTop (mkF m 95 (LS_JsJsJsJsJsIJsRRuuuuuu q0 q1 q2 q3 q4 p5 (36028797018963967 : Int64) o1 b2) [])) _
            refine XS.aload X15.here hx rfl (hb hby at_95) rfl rfl ?_
            show Steps p.tables e below (T15.setTop (mkF m 97 (LS_JsJsJsJsJsIJsRRuuuuuu q0 q1 q2 q3 q4 p5 (36028797018963967 : Int64) o1 b2) [(.ref b2)])) _
            refine XS.iconst X15.here hx rfl (hb hby at_97) ?_
            exact k
          refine own_join X15 (ι := Int64) (fun i16 T' => T'.heap = h15 ∧ (0 ≤ (i16).toInt ∧ (i16).toInt < 36028797018963968)) (fun i16 => mkF m 115 (LS_JsJsJsJsJsIJsRRuuuuuu q0 q1 q2 q3 q4 p5 (36028797018963967 : Int64) o1 b2) [(.long i16), (.int (4 : Int32)), (.ref b2)]) ?_ ?_
          · intro x4 T16 X16 hi16
            obtain ⟨e16, phi16⟩ := hi16
            obtain ⟨cl17, Ar17, qa17, Sa17, Na17, Ha17, Ga17⟩ := id V15
            have hin18 : ¬ ((4 : Int32) < 0 ∨ cl17.slots.size ≤ ((4 : Int32)).toNatClampNeg) := inb_of Sa17 ⟨by decide, by decide⟩
            obtain ⟨T18, h18, X18, e18, W18, st18⟩ := stJ X16 hx hZ e16 Ar17 (j := (4 : Int32)) hin18 (g := (mkF m 115 (LS_JsJsJsJsJsIJsRRuuuuuu q0 q1 q2 q3 q4 p5 (36028797018963967 : Int64) o1 b2) [(.long x4), (.int (4 : Int32)), (.ref b2)])) rfl rfl (hb hby at_115)
            have N18 := Fr.snoc X18 N15 g_b2
            have V18 : Arv Z h18 b2 k2 .long (7 : Int32) [(.long x0), (.long x1), (.long x2), (.long x3), (.long x4), (.long (0 : Int64)), (.long (0 : Int64))] (.long (0 : Int64)) := Arv.set Ar17 qa17 Sa17 Na17 Ha17 Ga17 rfl W18 4 rfl (Nat.le_of_ble_eq_true rfl)
            refine own_go (B := T18.setTop (mkF m 116 (LS_JsJsJsJsJsIJsRRuuuuuu q0 q1 q2 q3 q4 p5 (36028797018963967 : Int64) o1 b2) [])) (fun t k => st18 _ k) ?_
            refine own_go (B := T18.setTop (mkF m 119 (LS_JsJsJsJsJsIJsRRuuuuuu q0 q1 q2 q3 q4 p5 (36028797018963967 : Int64) o1 b2) [(.int (5 : Int32)), (.ref b2)])) (fun t k => ?_) ?_
            · show Steps p.tables e below (T18.setTop (mkF m 116 (LS_JsJsJsJsJsIJsRRuuuuuu q0 q1 q2 q3 q4 p5 (36028797018963967 : Int64) o1 b2) [])) _
              refine XS.aload X18.here hx rfl (hb hby at_116) rfl rfl ?_
              show Steps p.tables e below (T18.setTop (mkF m 118 (LS_JsJsJsJsJsIJsRRuuuuuu q0 q1 q2 q3 q4 p5 (36028797018963967 : Int64) o1 b2) [(.ref b2)])) _
              refine XS.iconst X18.here hx rfl (hb hby at_118) ?_
              exact k
            refine own_join X18 (ι := Int64) (fun i19 T' => T'.heap = h18 ∧ (0 ≤ (i19).toInt ∧ (i19).toInt < 36028797018963968)) (fun i19 => mkF m 146 (LS_JsJsJsJsJsIJsRRuuuuuu q0 q1 q2 q3 q4 p5 (36028797018963967 : Int64) o1 b2) [(.long i19), (.int (5 : Int32)), (.ref b2)]) ?_ ?_
            · intro x5 T19 X19 hi19
              obtain ⟨e19, phi19⟩ := hi19
              obtain ⟨cl20, Ar20, qa20, Sa20, Na20, Ha20, Ga20⟩ := id V18
              have hin21 : ¬ ((5 : Int32) < 0 ∨ cl20.slots.size ≤ ((5 : Int32)).toNatClampNeg) := inb_of Sa20 ⟨by decide, by decide⟩
              obtain ⟨T21, h21, X21, e21, W21, st21⟩ := stJ X19 hx hZ e19 Ar20 (j := (5 : Int32)) hin21 (g := (mkF m 146 (LS_JsJsJsJsJsIJsRRuuuuuu q0 q1 q2 q3 q4 p5 (36028797018963967 : Int64) o1 b2) [(.long x5), (.int (5 : Int32)), (.ref b2)])) rfl rfl (hb hby at_146)
              have N21 := Fr.snoc X21 N18 g_b2
              have V21 : Arv Z h21 b2 k2 .long (7 : Int32) [(.long x0), (.long x1), (.long x2), (.long x3), (.long x4), (.long x5), (.long (0 : Int64))] (.long (0 : Int64)) := Arv.set Ar20 qa20 Sa20 Na20 Ha20 Ga20 rfl W21 5 rfl (Nat.le_of_ble_eq_true rfl)
              refine own_go (B := T21.setTop (mkF m 147 (LS_JsJsJsJsJsIJsRRuuuuuu q0 q1 q2 q3 q4 p5 (36028797018963967 : Int64) o1 b2) [])) (fun t k => st21 _ k) ?_
              refine own_go (B := T21.setTop (mkF m 151 (LS_JsJsJsJsJsIJsRRuuuuuu q0 q1 q2 q3 q4 p5 (36028797018963967 : Int64) o1 b2) [(.int (6 : Int32)), (.ref b2)])) (fun t k => ?_) ?_
              · show Steps p.tables e below (T21.setTop (mkF m 147 (LS_JsJsJsJsJsIJsRRuuuuuu q0 q1 q2 q3 q4 p5 (36028797018963967 : Int64) o1 b2) [])) _
                refine XS.aload X21.here hx rfl (hb hby at_147) rfl rfl ?_
                show Steps p.tables e below (T21.setTop (mkF m 149 (LS_JsJsJsJsJsIJsRRuuuuuu q0 q1 q2 q3 q4 p5 (36028797018963967 : Int64) o1 b2) [(.ref b2)])) _
                refine XS.bipush X21.here hx rfl (hb hby at_149) ?_
                exact k
              refine own_join X21 (ι := Int64) (fun i22 T' => T'.heap = h21 ∧ (0 ≤ (i22).toInt ∧ (i22).toInt < 36028797018963968)) (fun i22 => mkF m 180 (LS_JsJsJsJsJsIJsRRuuuuuu q0 q1 q2 q3 q4 p5 (36028797018963967 : Int64) o1 b2) [(.long i22), (.int (6 : Int32)), (.ref b2)]) ?_ ?_
              · intro x6 T22 X22 hi22
                obtain ⟨e22, phi22⟩ := hi22
                obtain ⟨cl23, Ar23, qa23, Sa23, Na23, Ha23, Ga23⟩ := id V21
                have hin24 : ¬ ((6 : Int32) < 0 ∨ cl23.slots.size ≤ ((6 : Int32)).toNatClampNeg) := inb_of Sa23 ⟨by decide, by decide⟩
                obtain ⟨T24, h24, X24, e24, W24, st24⟩ := stJ X22 hx hZ e22 Ar23 (j := (6 : Int32)) hin24 (g := (mkF m 180 (LS_JsJsJsJsJsIJsRRuuuuuu q0 q1 q2 q3 q4 p5 (36028797018963967 : Int64) o1 b2) [(.long x6), (.int (6 : Int32)), (.ref b2)])) rfl rfl (hb hby at_180)
                have N24 := Fr.snoc X24 N21 g_b2
                have V24 : Arv Z h24 b2 k2 .long (7 : Int32) [(.long x0), (.long x1), (.long x2), (.long x3), (.long x4), (.long x5), (.long x6)] (.long (0 : Int64)) := Arv.set Ar23 qa23 Sa23 Na23 Ha23 Ga23 rfl W24 6 rfl (Nat.le_of_ble_eq_true rfl)
                refine own_go (B := T24.setTop (mkF m 181 (LS_JsJsJsJsJsIJsRRuuuuuu q0 q1 q2 q3 q4 p5 (36028797018963967 : Int64) o1 b2) [])) (fun t k => st24 _ k) ?_
                refine own_go (B := T24.setTop (mkF m 183 (LS_JsJsJsJsJsIJsRRuuuuuu q0 q1 q2 q3 q4 p5 (36028797018963967 : Int64) o1 b2) [(.int (7 : Int32))])) (fun t k => ?_) ?_
                · show Steps p.tables e below (T24.setTop (mkF m 181 (LS_JsJsJsJsJsIJsRRuuuuuu q0 q1 q2 q3 q4 p5 (36028797018963967 : Int64) o1 b2) [])) _
                  refine XS.bipush X24.here hx rfl (hb hby at_181) ?_
                  exact k
                obtain ⟨T25, h25, k25, X25, e25, E25, A25, st25⟩ := newP X24 hx hZ (hw _ (List.mem_of_getElem? (i := 11) rfl)) e24 (g := (mkF m 183 (LS_JsJsJsJsJsIJsRRuuuuuu q0 q1 q2 q3 q4 p5 (36028797018963967 : Int64) o1 b2) [(.int (7 : Int32))])) rfl (hb hby at_183) rfl (by decide) (cap := 7) (by decide) (by decide) (by decide) (by decide)
                obtain ⟨b25, g25⟩ : ∃ z, z = h24.size := ⟨_, rfl⟩
                rw [← g25] at A25 st25
                have Z0_v26 := Nat.le_trans Z0_v3 E2.1
                have Z0_v27 := Nat.le_trans Z0_v26 (Nat.le_of_eq W6.size.symm)
                have Z0_v28 := Nat.le_trans Z0_v27 (Nat.le_of_eq W9.size.symm)
                have Z0_v29 := Nat.le_trans Z0_v28 (Nat.le_of_eq W12.size.symm)
                have Z0_v30 := Nat.le_trans Z0_v29 (Nat.le_of_eq W15.size.symm)
                have Z0_v31 := Nat.le_trans Z0_v30 (Nat.le_of_eq W18.size.symm)
                have Z0_v32 := Nat.le_trans Z0_v31 (Nat.le_of_eq W21.size.symm)
                have Z0_v33 := Nat.le_trans Z0_v32 (Nat.le_of_eq W24.size.symm)
                have g_b25 : n0 ≤ b25 := Nat.le_trans Z0_v33 (Nat.le_of_eq g25.symm)
                have V25 : Arv Z h25 b25 k25 .long (7 : Int32) [(.long (0 : Int64)), (.long (0 : Int64)), (.long (0 : Int64)), (.long (0 : Int64)), (.long (0 : Int64)), (.long (0 : Int64)), (.long (0 : Int64))] (.long (0 : Int64)) := (Arv.new A25 (by decide)).pad (pad_rep [] (.long (0 : Int64)) 7)
                refine own_go (B := T25.setTop (mkF m 185 (LS_JsJsJsJsJsIJsRRuuuuuu q0 q1 q2 q3 q4 p5 (36028797018963967 : Int64) o1 b2) [(.ref b25)])) (fun t k => st25 _ k) ?_
                have V1r_v35 := V1r.ext E2
                have ne37 : o1 ≠ b2 := Nat.ne_of_lt (Nat.lt_of_lt_of_le V1r.lt (Nat.le_of_eq g2.symm))
                have V1r_v36 := V1r_v35.other W6 ne37
                have V1r_v38 := V1r_v36.other W9 ne37
                have V1r_v39 := V1r_v38.other W12 ne37
                have V1r_v40 := V1r_v39.other W15 ne37
                have V1r_v41 := V1r_v40.other W18 ne37
                have V1r_v42 := V1r_v41.other W21 ne37
                have V1r_v43 := V1r_v42.other W24 ne37
                have V1r_v44 := V1r_v43.ext E25
                obtain ⟨cl34, Ar34, qa34, Sa34, Na34, Ha34, Ga34⟩ := id V1r_v44
                have hin45 : ¬ ((0 : Int32) < 0 ∨ cl34.slots.size ≤ ((0 : Int32)).toNatClampNeg) := inb_of Sa34 ⟨by decide, by decide⟩
                have hat45 : cl34.slots[((0 : Int32)).toNatClampNeg]? = some (.long (35747322042231467 : Int64)) := Has.at Ha34 hin45 rfl
                refine own_go (B := T25.setTop (mkF m 196 (LS_JsJsJsJsJsIJsRRRuuuuu q0 q1 q2 q3 q4 p5 (36028797018963967 : Int64) o1 b2 b25) [(.long (35747322042231466 : Int64)), (.int (0 : Int32)), (.ref b25)])) (fun t k => ?_) ?_
                · show Steps p.tables e below (T25.setTop (mkF m 185 (LS_JsJsJsJsJsIJsRRuuuuuu q0 q1 q2 q3 q4 p5 (36028797018963967 : Int64) o1 b2) [(.ref b25)])) _
                  refine XS.astore X25.here hx rfl (hb hby at_185) rfl rfl (l' := (LS_JsJsJsJsJsIJsRRRuuuuu q0 q1 q2 q3 q4 p5 (36028797018963967 : Int64) o1 b2 b25)) rfl ?_
                  show Steps p.tables e below (T25.setTop (mkF m 187 (LS_JsJsJsJsJsIJsRRRuuuuu q0 q1 q2 q3 q4 p5 (36028797018963967 : Int64) o1 b2 b25) [])) _
                  refine XS.aload X25.here hx rfl (hb hby at_187) rfl rfl ?_
                  show Steps p.tables e below (T25.setTop (mkF m 189 (LS_JsJsJsJsJsIJsRRRuuuuu q0 q1 q2 q3 q4 p5 (36028797018963967 : Int64) o1 b2 b25) [(.ref b25)])) _
                  refine XS.iconst X25.here hx rfl (hb hby at_189) ?_
                  show Steps p.tables e below (T25.setTop (mkF m 190 (LS_JsJsJsJsJsIJsRRRuuuuu q0 q1 q2 q3 q4 p5 (36028797018963967 : Int64) o1 b2 b25) [(.int (0 : Int32)), (.ref b25)])) _
                  refine XS.aload X25.here hx rfl (hb hby at_190) rfl rfl ?_
                  show Steps p.tables e below (T25.setTop (mkF m 192 (LS_JsJsJsJsJsIJsRRRuuuuu q0 q1 q2 q3 q4 p5 (36028797018963967 : Int64) o1 b2 b25) [(.ref o1), (.int (0 : Int32)), (.ref b25)])) _
                  refine XS.iconst X25.here hx rfl (hb hby at_192) ?_
                  show Steps p.tables e below (T25.setTop (mkF m 193 (LS_JsJsJsJsJsIJsRRRuuuuu q0 q1 q2 q3 q4 p5 (36028797018963967 : Int64) o1 b2 b25) [(.int (0 : Int32)), (.ref o1), (.int (0 : Int32)), (.ref b25)])) _
                  refine X25.laload hx (j := (0 : Int32)) (v := (.long (35747322042231467 : Int64))) (by rw [e25]; exact Ar34.1) (State.isArrayOf_alike hZ.alike Ar34.2.1) Ar34.2.2 hin45 hat45 (g := (mkF m 193 (LS_JsJsJsJsJsIJsRRRuuuuu q0 q1 q2 q3 q4 p5 (36028797018963967 : Int64) o1 b2 b25) [(.int (0 : Int32)), (.ref o1), (.int (0 : Int32)), (.ref b25)])) rfl rfl (hb hby at_193) _ ?_
                  show Steps p.tables e below (T25.setTop (mkF m 194 (LS_JsJsJsJsJsIJsRRRuuuuu q0 q1 q2 q3 q4 p5 (36028797018963967 : Int64) o1 b2 b25) [(.long (35747322042231467 : Int64)), (.int (0 : Int32)), (.ref b25)])) _
                  refine XS.lconst X25.here hx rfl (hb hby at_194) ?_
                  show Steps p.tables e below (T25.setTop (mkF m 195 (LS_JsJsJsJsJsIJsRRRuuuuu q0 q1 q2 q3 q4 p5 (36028797018963967 : Int64) o1 b2 b25) [(.long (1 : Int64)), (.long (35747322042231467 : Int64)), (.int (0 : Int32)), (.ref b25)])) _
                  refine XS.lsub X25.here hx rfl (hb hby at_195) rfl ?_
                  rw [show ((35747322042231467 : Int64) - (1 : Int64)) = (35747322042231466 : Int64) from by decide]
                  exact k
                obtain ⟨cl46, Ar46, qa46, Sa46, Na46, Ha46, Ga46⟩ := id V25
                have hin47 : ¬ ((0 : Int32) < 0 ∨ cl46.slots.size ≤ ((0 : Int32)).toNatClampNeg) := inb_of Sa46 ⟨by decide, by decide⟩
                obtain ⟨T47, h47, X47, e47, W47, st47⟩ := stJ X25 hx hZ e25 Ar46 (j := (0 : Int32)) hin47 (g := (mkF m 196 (LS_JsJsJsJsJsIJsRRRuuuuu q0 q1 q2 q3 q4 p5 (36028797018963967 : Int64) o1 b2 b25) [(.long (35747322042231466 : Int64)), (.int (0 : Int32)), (.ref b25)])) rfl rfl (hb hby at_196)
                have N47 := Fr.snoc X47 N24 g_b25
                have V47 : Arv Z h47 b25 k25 .long (7 : Int32) [(.long (35747322042231466 : Int64)), (.long (0 : Int64)), (.long (0 : Int64)), (.long (0 : Int64)), (.long (0 : Int64)), (.long (0 : Int64)), (.long (0 : Int64))] (.long (0 : Int64)) := Arv.set Ar46 qa46 Sa46 Na46 Ha46 Ga46 rfl W47 0 rfl (Nat.le_of_ble_eq_true rfl)
                refine own_go (B := T47.setTop (mkF m 197 (LS_JsJsJsJsJsIJsRRRuuuuu q0 q1 q2 q3 q4 p5 (36028797018963967 : Int64) o1 b2 b25) [])) (fun t k => st47 _ k) ?_
                have V1r_v49 := V1r_v35.other W6 ne37
                have V1r_v50 := V1r_v49.other W9 ne37
                have V1r_v51 := V1r_v50.other W12 ne37
                have V1r_v52 := V1r_v51.other W15 ne37
                have V1r_v53 := V1r_v52.other W18 ne37
                have V1r_v54 := V1r_v53.other W21 ne37
                have V1r_v55 := V1r_v54.other W24 ne37
                have V1r_v56 := V1r_v55.ext E25
                have ne58 : o1 ≠ b25 := Nat.ne_of_lt (Nat.lt_of_lt_of_le V1r_v55.lt (Nat.le_of_eq g25.symm))
                have V1r_v57 := V1r_v56.other W47 ne58
                obtain ⟨cl48, Ar48, qa48, Sa48, Na48, Ha48, Ga48⟩ := id V1r_v57
                have hin59 : ¬ ((1 : Int32) < 0 ∨ cl48.slots.size ≤ ((1 : Int32)).toNatClampNeg) := inb_of Sa48 ⟨by decide, by decide⟩
                have hat59 : cl48.slots[((1 : Int32)).toNatClampNeg]? = some (.long (36025922209447795 : Int64)) := Has.at Ha48 hin59 rfl
                refine own_go (B := T47.setTop (mkF m 204 (LS_JsJsJsJsJsIJsRRRuuuuu q0 q1 q2 q3 q4 p5 (36028797018963967 : Int64) o1 b2 b25) [(.long (36025922209447795 : Int64)), (.int (1 : Int32)), (.ref b25)])) (fun t k => ?_) ?_
                · show Steps p.tables e below (T47.setTop (mkF m 197 (LS_JsJsJsJsJsIJsRRRuuuuu q0 q1 q2 q3 q4 p5 (36028797018963967 : Int64) o1 b2 b25) [])) _
                  refine XS.aload X47.here hx rfl (hb hby at_197) rfl rfl ?_
                  show Steps p.tables e below (T47.setTop (mkF m 199 (LS_JsJsJsJsJsIJsRRRuuuuu q0 q1 q2 q3 q4 p5 (36028797018963967 : Int64) o1 b2 b25) [(.ref b25)])) _
                  refine XS.iconst X47.here hx rfl (hb hby at_199) ?_
                  show Steps p.tables e below (T47.setTop (mkF m 200 (LS_JsJsJsJsJsIJsRRRuuuuu q0 q1 q2 q3 q4 p5 (36028797018963967 : Int64) o1 b2 b25) [(.int (1 : Int32)), (.ref b25)])) _
                  refine XS.aload X47.here hx rfl (hb hby at_200) rfl rfl ?_
                  show Steps p.tables e below (T47.setTop (mkF m 202 (LS_JsJsJsJsJsIJsRRRuuuuu q0 q1 q2 q3 q4 p5 (36028797018963967 : Int64) o1 b2 b25) [(.ref o1), (.int (1 : Int32)), (.ref b25)])) _
                  refine XS.iconst X47.here hx rfl (hb hby at_202) ?_
                  show Steps p.tables e below (T47.setTop (mkF m 203 (LS_JsJsJsJsJsIJsRRRuuuuu q0 q1 q2 q3 q4 p5 (36028797018963967 : Int64) o1 b2 b25) [(.int (1 : Int32)), (.ref o1), (.int (1 : Int32)), (.ref b25)])) _
                  refine X47.laload hx (j := (1 : Int32)) (v := (.long (36025922209447795 : Int64))) (by rw [e47]; exact Ar48.1) (State.isArrayOf_alike hZ.alike Ar48.2.1) Ar48.2.2 hin59 hat59 (g := (mkF m 203 (LS_JsJsJsJsJsIJsRRRuuuuu q0 q1 q2 q3 q4 p5 (36028797018963967 : Int64) o1 b2 b25) [(.int (1 : Int32)), (.ref o1), (.int (1 : Int32)), (.ref b25)])) rfl rfl (hb hby at_203) _ ?_
                  exact k
                obtain ⟨cl60, Ar60, qa60, Sa60, Na60, Ha60, Ga60⟩ := id V47
                have hin61 : ¬ ((1 : Int32) < 0 ∨ cl60.slots.size ≤ ((1 : Int32)).toNatClampNeg) := inb_of Sa60 ⟨by decide, by decide⟩
                obtain ⟨T61, h61, X61, e61, W61, st61⟩ := stJ X47 hx hZ e47 Ar60 (j := (1 : Int32)) hin61 (g := (mkF m 204 (LS_JsJsJsJsJsIJsRRRuuuuu q0 q1 q2 q3 q4 p5 (36028797018963967 : Int64) o1 b2 b25) [(.long (36025922209447795 : Int64)), (.int (1 : Int32)), (.ref b25)])) rfl rfl (hb hby at_204)
                have N61 := Fr.snoc X61 N47 g_b25
                have V61 : Arv Z h61 b25 k25 .long (7 : Int32) [(.long (35747322042231466 : Int64)), (.long (36025922209447795 : Int64)), (.long (0 : Int64)), (.long (0 : Int64)), (.long (0 : Int64)), (.long (0 : Int64)), (.long (0 : Int64))] (.long (0 : Int64)) := Arv.set Ar60 qa60 Sa60 Na60 Ha60 Ga60 rfl W61 1 rfl (Nat.le_of_ble_eq_true rfl)
                refine own_go (B := T61.setTop (mkF m 205 (LS_JsJsJsJsJsIJsRRRuuuuu q0 q1 q2 q3 q4 p5 (36028797018963967 : Int64) o1 b2 b25) [])) (fun t k => st61 _ k) ?_
                have V1r_v63 := V1r_v56.other W47 ne58
                have V1r_v64 := V1r_v63.other W61 ne58
                obtain ⟨cl62, Ar62, qa62, Sa62, Na62, Ha62, Ga62⟩ := id V1r_v64
                have hin65 : ¬ ((2 : Int32) < 0 ∨ cl62.slots.size ≤ ((2 : Int32)).toNatClampNeg) := inb_of Sa62 ⟨by decide, by decide⟩
                have hat65 : cl62.slots[((2 : Int32)).toNatClampNeg]? = some (.long (1084959616957103 : Int64)) := Has.at Ha62 hin65 rfl
                refine own_go (B := T61.setTop (mkF m 212 (LS_JsJsJsJsJsIJsRRRuuuuu q0 q1 q2 q3 q4 p5 (36028797018963967 : Int64) o1 b2 b25) [(.long (1084959616957103 : Int64)), (.int (2 : Int32)), (.ref b25)])) (fun t k => ?_) ?_
                · show Steps p.tables e below (T61.setTop (mkF m 205 (LS_JsJsJsJsJsIJsRRRuuuuu q0 q1 q2 q3 q4 p5 (36028797018963967 : Int64) o1 b2 b25) [])) _
                  refine XS.aload X61.here hx rfl (hb hby at_205) rfl rfl ?_
                  show Steps p.tables e below (T61.setTop (mkF m 207 (LS_JsJsJsJsJsIJsRRRuuuuu q0 q1 q2 q3 q4 p5 (36028797018963967 : Int64) o1 b2 b25) [(.ref b25)])) _
                  refine XS.iconst X61.here hx rfl (hb hby at_207) ?_
                  show Steps p.tables e below (T61.setTop (mkF m 208 (LS_JsJsJsJsJsIJsRRRuuuuu q0 q1 q2 q3 q4 p5 (36028797018963967 : Int64) o1 b2 b25) [(.int (2 : Int32)), (.ref b25)])) _
                  refine XS.aload X61.here hx rfl (hb hby at_208) rfl rfl ?_
                  show Steps p.tables e below (T61.setTop (mkF m 210 (LS_JsJsJsJsJsIJsRRRuuuuu q0 q1 q2 q3 q4 p5 (36028797018963967 : Int64) o1 b2 b25) [(.ref o1), (.int (2 : Int32)), (.ref b25)])) _
                  refine XS.iconst X61.here hx rfl (hb hby at_210) ?_
                  show Steps p.tables e below (T61.setTop (mkF m 211 (LS_JsJsJsJsJsIJsRRRuuuuu q0 q1 q2 q3 q4 p5 (36028797018963967 : Int64) o1 b2 b25) [(.int (2 : Int32)), (.ref o1), (.int (2 : Int32)), (.ref b25)])) _
                  refine X61.laload hx (j := (2 : Int32)) (v := (.long (1084959616957103 : Int64))) (by rw [e61]; exact Ar62.1) (State.isArrayOf_alike hZ.alike Ar62.2.1) Ar62.2.2 hin65 hat65 (g := (mkF m 211 (LS_JsJsJsJsJsIJsRRRuuuuu q0 q1 q2 q3 q4 p5 (36028797018963967 : Int64) o1 b2 b25) [(.int (2 : Int32)), (.ref o1), (.int (2 : Int32)), (.ref b25)])) rfl rfl (hb hby at_211) _ ?_
                  exact k
                obtain ⟨cl66, Ar66, qa66, Sa66, Na66, Ha66, Ga66⟩ := id V61
                have hin67 : ¬ ((2 : Int32) < 0 ∨ cl66.slots.size ≤ ((2 : Int32)).toNatClampNeg) := inb_of Sa66 ⟨by decide, by decide⟩
                obtain ⟨T67, h67, X67, e67, W67, st67⟩ := stJ X61 hx hZ e61 Ar66 (j := (2 : Int32)) hin67 (g := (mkF m 212 (LS_JsJsJsJsJsIJsRRRuuuuu q0 q1 q2 q3 q4 p5 (36028797018963967 : Int64) o1 b2 b25) [(.long (1084959616957103 : Int64)), (.int (2 : Int32)), (.ref b25)])) rfl rfl (hb hby at_212)
                have N67 := Fr.snoc X67 N61 g_b25
                have V67 : Arv Z h67 b25 k25 .long (7 : Int32) [(.long (35747322042231466 : Int64)), (.long (36025922209447795 : Int64)), (.long (1084959616957103 : Int64)), (.long (0 : Int64)), (.long (0 : Int64)), (.long (0 : Int64)), (.long (0 : Int64))] (.long (0 : Int64)) := Arv.set Ar66 qa66 Sa66 Na66 Ha66 Ga66 rfl W67 2 rfl (Nat.le_of_ble_eq_true rfl)
                refine own_go (B := T67.setTop (mkF m 213 (LS_JsJsJsJsJsIJsRRRuuuuu q0 q1 q2 q3 q4 p5 (36028797018963967 : Int64) o1 b2 b25) [])) (fun t k => st67 _ k) ?_
                have V1r_v69 := V1r_v64.other W67 ne58
                obtain ⟨cl68, Ar68, qa68, Sa68, Na68, Ha68, Ga68⟩ := id V1r_v69
                have hin70 : ¬ ((3 : Int32) < 0 ∨ cl68.slots.size ≤ ((3 : Int32)).toNatClampNeg) := inb_of Sa68 ⟨by decide, by decide⟩
                have hat70 : cl68.slots[((3 : Int32)).toNatClampNeg]? = some (.long (7925923977987733 : Int64)) := Has.at Ha68 hin70 rfl
                refine own_go (B := T67.setTop (mkF m 220 (LS_JsJsJsJsJsIJsRRRuuuuu q0 q1 q2 q3 q4 p5 (36028797018963967 : Int64) o1 b2 b25) [(.long (7925923977987733 : Int64)), (.int (3 : Int32)), (.ref b25)])) (fun t k => ?_) ?_
                · show Steps p.tables e below (T67.setTop (mkF m 213 (LS_JsJsJsJsJsIJsRRRuuuuu q0 q1 q2 q3 q4 p5 (36028797018963967 : Int64) o1 b2 b25) [])) _
                  refine XS.aload X67.here hx rfl (hb hby at_213) rfl rfl ?_
                  show Steps p.tables e below (T67.setTop (mkF m 215 (LS_JsJsJsJsJsIJsRRRuuuuu q0 q1 q2 q3 q4 p5 (36028797018963967 : Int64) o1 b2 b25) [(.ref b25)])) _
                  refine XS.iconst X67.here hx rfl (hb hby at_215) ?_
                  show Steps p.tables e below (T67.setTop (mkF m 216 (LS_JsJsJsJsJsIJsRRRuuuuu q0 q1 q2 q3 q4 p5 (36028797018963967 : Int64) o1 b2 b25) [(.int (3 : Int32)), (.ref b25)])) _
                  refine XS.aload X67.here hx rfl (hb hby at_216) rfl rfl ?_
                  show Steps p.tables e below (T67.setTop (mkF m 218 (LS_JsJsJsJsJsIJsRRRuuuuu q0 q1 q2 q3 q4 p5 (36028797018963967 : Int64) o1 b2 b25) [(.ref o1), (.int (3 : Int32)), (.ref b25)])) _
                  refine XS.iconst X67.here hx rfl (hb hby at_218) ?_
                  show Steps p.tables e below (T67.setTop (mkF m 219 (LS_JsJsJsJsJsIJsRRRuuuuu q0 q1 q2 q3 q4 p5 (36028797018963967 : Int64) o1 b2 b25) [(.int (3 : Int32)), (.ref o1), (.int (3 : Int32)), (.ref b25)])) _
                  refine X67.laload hx (j := (3 : Int32)) (v := (.long (7925923977987733 : Int64))) (by rw [e67]; exact Ar68.1) (State.isArrayOf_alike hZ.alike Ar68.2.1) Ar68.2.2 hin70 hat70 (g := (mkF m 219 (LS_JsJsJsJsJsIJsRRRuuuuu q0 q1 q2 q3 q4 p5 (36028797018963967 : Int64) o1 b2 b25) [(.int (3 : Int32)), (.ref o1), (.int (3 : Int32)), (.ref b25)])) rfl rfl (hb hby at_219) _ ?_
                  exact k
                obtain ⟨cl71, Ar71, qa71, Sa71, Na71, Ha71, Ga71⟩ := id V67
                have hin72 : ¬ ((3 : Int32) < 0 ∨ cl71.slots.size ≤ ((3 : Int32)).toNatClampNeg) := inb_of Sa71 ⟨by decide, by decide⟩
                obtain ⟨T72, h72, X72, e72, W72, st72⟩ := stJ X67 hx hZ e67 Ar71 (j := (3 : Int32)) hin72 (g := (mkF m 220 (LS_JsJsJsJsJsIJsRRRuuuuu q0 q1 q2 q3 q4 p5 (36028797018963967 : Int64) o1 b2 b25) [(.long (7925923977987733 : Int64)), (.int (3 : Int32)), (.ref b25)])) rfl rfl (hb hby at_220)
                have N72 := Fr.snoc X72 N67 g_b25
                have V72 : Arv Z h72 b25 k25 .long (7 : Int32) [(.long (35747322042231466 : Int64)), (.long (36025922209447795 : Int64)), (.long (1084959616957103 : Int64)), (.long (7925923977987733 : Int64)), (.long (0 : Int64)), (.long (0 : Int64)), (.long (0 : Int64))] (.long (0 : Int64)) := Arv.set Ar71 qa71 Sa71 Na71 Ha71 Ga71 rfl W72 3 rfl (Nat.le_of_ble_eq_true rfl)
                refine own_go (B := T72.setTop (mkF m 221 (LS_JsJsJsJsJsIJsRRRuuuuu q0 q1 q2 q3 q4 p5 (36028797018963967 : Int64) o1 b2 b25) [])) (fun t k => st72 _ k) ?_
                have V1r_v74 := V1r_v69.other W72 ne58
                obtain ⟨cl73, Ar73, qa73, Sa73, Na73, Ha73, Ga73⟩ := id V1r_v74
                have hin75 : ¬ ((4 : Int32) < 0 ∨ cl73.slots.size ≤ ((4 : Int32)).toNatClampNeg) := inb_of Sa73 ⟨by decide, by decide⟩
                have hat75 : cl73.slots[((4 : Int32)).toNatClampNeg]? = some (.long (16551456537884751 : Int64)) := Has.at Ha73 hin75 rfl
                refine own_go (B := T72.setTop (mkF m 228 (LS_JsJsJsJsJsIJsRRRuuuuu q0 q1 q2 q3 q4 p5 (36028797018963967 : Int64) o1 b2 b25) [(.long (16551456537884751 : Int64)), (.int (4 : Int32)), (.ref b25)])) (fun t k => ?_) ?_
                · show Steps p.tables e below (T72.setTop (mkF m 221 (LS_JsJsJsJsJsIJsRRRuuuuu q0 q1 q2 q3 q4 p5 (36028797018963967 : Int64) o1 b2 b25) [])) _
                  refine XS.aload X72.here hx rfl (hb hby at_221) rfl rfl ?_
                  show Steps p.tables e below (T72.setTop (mkF m 223 (LS_JsJsJsJsJsIJsRRRuuuuu q0 q1 q2 q3 q4 p5 (36028797018963967 : Int64) o1 b2 b25) [(.ref b25)])) _
                  refine XS.iconst X72.here hx rfl (hb hby at_223) ?_
                  show Steps p.tables e below (T72.setTop (mkF m 224 (LS_JsJsJsJsJsIJsRRRuuuuu q0 q1 q2 q3 q4 p5 (36028797018963967 : Int64) o1 b2 b25) [(.int (4 : Int32)), (.ref b25)])) _
                  refine XS.aload X72.here hx rfl (hb hby at_224) rfl rfl ?_
                  show Steps p.tables e below (T72.setTop (mkF m 226 (LS_JsJsJsJsJsIJsRRRuuuuu q0 q1 q2 q3 q4 p5 (36028797018963967 : Int64) o1 b2 b25) [(.ref o1), (.int (4 : Int32)), (.ref b25)])) _
                  refine XS.iconst X72.here hx rfl (hb hby at_226) ?_
                  show Steps p.tables e below (T72.setTop (mkF m 227 (LS_JsJsJsJsJsIJsRRRuuuuu q0 q1 q2 q3 q4 p5 (36028797018963967 : Int64) o1 b2 b25) [(.int (4 : Int32)), (.ref o1), (.int (4 : Int32)), (.ref b25)])) _
                  refine X72.laload hx (j := (4 : Int32)) (v := (.long (16551456537884751 : Int64))) (by rw [e72]; exact Ar73.1) (State.isArrayOf_alike hZ.alike Ar73.2.1) Ar73.2.2 hin75 hat75 (g := (mkF m 227 (LS_JsJsJsJsJsIJsRRRuuuuu q0 q1 q2 q3 q4 p5 (36028797018963967 : Int64) o1 b2 b25) [(.int (4 : Int32)), (.ref o1), (.int (4 : Int32)), (.ref b25)])) rfl rfl (hb hby at_227) _ ?_
                  exact k
                obtain ⟨cl76, Ar76, qa76, Sa76, Na76, Ha76, Ga76⟩ := id V72
                have hin77 : ¬ ((4 : Int32) < 0 ∨ cl76.slots.size ≤ ((4 : Int32)).toNatClampNeg) := inb_of Sa76 ⟨by decide, by decide⟩
                obtain ⟨T77, h77, X77, e77, W77, st77⟩ := stJ X72 hx hZ e72 Ar76 (j := (4 : Int32)) hin77 (g := (mkF m 228 (LS_JsJsJsJsJsIJsRRRuuuuu q0 q1 q2 q3 q4 p5 (36028797018963967 : Int64) o1 b2 b25) [(.long (16551456537884751 : Int64)), (.int (4 : Int32)), (.ref b25)])) rfl rfl (hb hby at_228)
                have N77 := Fr.snoc X77 N72 g_b25
                have V77 : Arv Z h77 b25 k25 .long (7 : Int32) [(.long (35747322042231466 : Int64)), (.long (36025922209447795 : Int64)), (.long (1084959616957103 : Int64)), (.long (7925923977987733 : Int64)), (.long (16551456537884751 : Int64)), (.long (0 : Int64)), (.long (0 : Int64))] (.long (0 : Int64)) := Arv.set Ar76 qa76 Sa76 Na76 Ha76 Ga76 rfl W77 4 rfl (Nat.le_of_ble_eq_true rfl)
                refine own_go (B := T77.setTop (mkF m 229 (LS_JsJsJsJsJsIJsRRRuuuuu q0 q1 q2 q3 q4 p5 (36028797018963967 : Int64) o1 b2 b25) [])) (fun t k => st77 _ k) ?_
                have V1r_v79 := V1r_v74.other W77 ne58
                obtain ⟨cl78, Ar78, qa78, Sa78, Na78, Ha78, Ga78⟩ := id V1r_v79
                have hin80 : ¬ ((5 : Int32) < 0 ∨ cl78.slots.size ≤ ((5 : Int32)).toNatClampNeg) := inb_of Sa78 ⟨by decide, by decide⟩
                have hat80 : cl78.slots[((5 : Int32)).toNatClampNeg]? = some (.long (23443114579904617 : Int64)) := Has.at Ha78 hin80 rfl
                refine own_go (B := T77.setTop (mkF m 236 (LS_JsJsJsJsJsIJsRRRuuuuu q0 q1 q2 q3 q4 p5 (36028797018963967 : Int64) o1 b2 b25) [(.long (23443114579904617 : Int64)), (.int (5 : Int32)), (.ref b25)])) (fun t k => ?_) ?_
                · show Steps p.tables e below (T77.setTop (mkF m 229 (LS_JsJsJsJsJsIJsRRRuuuuu q0 q1 q2 q3 q4 p5 (36028797018963967 : Int64) o1 b2 b25) [])) _
                  refine XS.aload X77.here hx rfl (hb hby at_229) rfl rfl ?_
                  show Steps p.tables e below (T77.setTop (mkF m 231 (LS_JsJsJsJsJsIJsRRRuuuuu q0 q1 q2 q3 q4 p5 (36028797018963967 : Int64) o1 b2 b25) [(.ref b25)])) _
                  refine XS.iconst X77.here hx rfl (hb hby at_231) ?_
                  show Steps p.tables e below (T77.setTop (mkF m 232 (LS_JsJsJsJsJsIJsRRRuuuuu q0 q1 q2 q3 q4 p5 (36028797018963967 : Int64) o1 b2 b25) [(.int (5 : Int32)), (.ref b25)])) _
                  refine XS.aload X77.here hx rfl (hb hby at_232) rfl rfl ?_
                  show Steps p.tables e below (T77.setTop (mkF m 234 (LS_JsJsJsJsJsIJsRRRuuuuu q0 q1 q2 q3 q4 p5 (36028797018963967 : Int64) o1 b2 b25) [(.ref o1), (.int (5 : Int32)), (.ref b25)])) _
                  refine XS.iconst X77.here hx rfl (hb hby at_234) ?_
                  show Steps p.tables e below (T77.setTop (mkF m 235 (LS_JsJsJsJsJsIJsRRRuuuuu q0 q1 q2 q3 q4 p5 (36028797018963967 : Int64) o1 b2 b25) [(.int (5 : Int32)), (.ref o1), (.int (5 : Int32)), (.ref b25)])) _
                  refine X77.laload hx (j := (5 : Int32)) (v := (.long (23443114579904617 : Int64))) (by rw [e77]; exact Ar78.1) (State.isArrayOf_alike hZ.alike Ar78.2.1) Ar78.2.2 hin80 hat80 (g := (mkF m 235 (LS_JsJsJsJsJsIJsRRRuuuuu q0 q1 q2 q3 q4 p5 (36028797018963967 : Int64) o1 b2 b25) [(.int (5 : Int32)), (.ref o1), (.int (5 : Int32)), (.ref b25)])) rfl rfl (hb hby at_235) _ ?_
                  exact k
                obtain ⟨cl81, Ar81, qa81, Sa81, Na81, Ha81, Ga81⟩ := id V77
                have hin82 : ¬ ((5 : Int32) < 0 ∨ cl81.slots.size ≤ ((5 : Int32)).toNatClampNeg) := inb_of Sa81 ⟨by decide, by decide⟩
                obtain ⟨T82, h82, X82, e82, W82, st82⟩ := stJ X77 hx hZ e77 Ar81 (j := (5 : Int32)) hin82 (g := (mkF m 236 (LS_JsJsJsJsJsIJsRRRuuuuu q0 q1 q2 q3 q4 p5 (36028797018963967 : Int64) o1 b2 b25) [(.long (23443114579904617 : Int64)), (.int (5 : Int32)), (.ref b25)])) rfl rfl (hb hby at_236)
                have N82 := Fr.snoc X82 N77 g_b25
                have V82 : Arv Z h82 b25 k25 .long (7 : Int32) [(.long (35747322042231466 : Int64)), (.long (36025922209447795 : Int64)), (.long (1084959616957103 : Int64)), (.long (7925923977987733 : Int64)), (.long (16551456537884751 : Int64)), (.long (23443114579904617 : Int64)), (.long (0 : Int64))] (.long (0 : Int64)) := Arv.set Ar81 qa81 Sa81 Na81 Ha81 Ga81 rfl W82 5 rfl (Nat.le_of_ble_eq_true rfl)
                refine own_go (B := T82.setTop (mkF m 237 (LS_JsJsJsJsJsIJsRRRuuuuu q0 q1 q2 q3 q4 p5 (36028797018963967 : Int64) o1 b2 b25) [])) (fun t k => st82 _ k) ?_
                have V1r_v84 := V1r_v79.other W82 ne58
                obtain ⟨cl83, Ar83, qa83, Sa83, Na83, Ha83, Ga83⟩ := id V1r_v84
                have hin85 : ¬ ((6 : Int32) < 0 ∨ cl83.slots.size ≤ ((6 : Int32)).toNatClampNeg) := inb_of Sa83 ⟨by decide, by decide⟩
                have hat85 : cl83.slots[((6 : Int32)).toNatClampNeg]? = some (.long (1829881462546425 : Int64)) := Has.at Ha83 hin85 rfl
                refine own_go (B := T82.setTop (mkF m 246 (LS_JsJsJsJsJsIJsRRRuuuuu q0 q1 q2 q3 q4 p5 (36028797018963967 : Int64) o1 b2 b25) [(.long (1829881462546425 : Int64)), (.int (6 : Int32)), (.ref b25)])) (fun t k => ?_) ?_
                · show Steps p.tables e below (T82.setTop (mkF m 237 (LS_JsJsJsJsJsIJsRRRuuuuu q0 q1 q2 q3 q4 p5 (36028797018963967 : Int64) o1 b2 b25) [])) _
                  refine XS.aload X82.here hx rfl (hb hby at_237) rfl rfl ?_
                  show Steps p.tables e below (T82.setTop (mkF m 239 (LS_JsJsJsJsJsIJsRRRuuuuu q0 q1 q2 q3 q4 p5 (36028797018963967 : Int64) o1 b2 b25) [(.ref b25)])) _
                  refine XS.bipush X82.here hx rfl (hb hby at_239) ?_
                  show Steps p.tables e below (T82.setTop (mkF m 241 (LS_JsJsJsJsJsIJsRRRuuuuu q0 q1 q2 q3 q4 p5 (36028797018963967 : Int64) o1 b2 b25) [(.int (6 : Int32)), (.ref b25)])) _
                  refine XS.aload X82.here hx rfl (hb hby at_241) rfl rfl ?_
                  show Steps p.tables e below (T82.setTop (mkF m 243 (LS_JsJsJsJsJsIJsRRRuuuuu q0 q1 q2 q3 q4 p5 (36028797018963967 : Int64) o1 b2 b25) [(.ref o1), (.int (6 : Int32)), (.ref b25)])) _
                  refine XS.bipush X82.here hx rfl (hb hby at_243) ?_
                  show Steps p.tables e below (T82.setTop (mkF m 245 (LS_JsJsJsJsJsIJsRRRuuuuu q0 q1 q2 q3 q4 p5 (36028797018963967 : Int64) o1 b2 b25) [(.int (6 : Int32)), (.ref o1), (.int (6 : Int32)), (.ref b25)])) _
                  refine X82.laload hx (j := (6 : Int32)) (v := (.long (1829881462546425 : Int64))) (by rw [e82]; exact Ar83.1) (State.isArrayOf_alike hZ.alike Ar83.2.1) Ar83.2.2 hin85 hat85 (g := (mkF m 245 (LS_JsJsJsJsJsIJsRRRuuuuu q0 q1 q2 q3 q4 p5 (36028797018963967 : Int64) o1 b2 b25) [(.int (6 : Int32)), (.ref o1), (.int (6 : Int32)), (.ref b25)])) rfl rfl (hb hby at_245) _ ?_
                  exact k
                obtain ⟨cl86, Ar86, qa86, Sa86, Na86, Ha86, Ga86⟩ := id V82
                have hin87 : ¬ ((6 : Int32) < 0 ∨ cl86.slots.size ≤ ((6 : Int32)).toNatClampNeg) := inb_of Sa86 ⟨by decide, by decide⟩
                obtain ⟨T87, h87, X87, e87, W87, st87⟩ := stJ X82 hx hZ e82 Ar86 (j := (6 : Int32)) hin87 (g := (mkF m 246 (LS_JsJsJsJsJsIJsRRRuuuuu q0 q1 q2 q3 q4 p5 (36028797018963967 : Int64) o1 b2 b25) [(.long (1829881462546425 : Int64)), (.int (6 : Int32)), (.ref b25)])) rfl rfl (hb hby at_246)
                have N87 := Fr.snoc X87 N82 g_b25
                have V87 : Arv Z h87 b25 k25 .long (7 : Int32) [(.long (35747322042231466 : Int64)), (.long (36025922209447795 : Int64)), (.long (1084959616957103 : Int64)), (.long (7925923977987733 : Int64)), (.long (16551456537884751 : Int64)), (.long (23443114579904617 : Int64)), (.long (1829881462546425 : Int64))] (.long (0 : Int64)) := Arv.set Ar86 qa86 Sa86 Na86 Ha86 Ga86 rfl W87 6 rfl (Nat.le_of_ble_eq_true rfl)
                refine own_go (B := T87.setTop (mkF m 247 (LS_JsJsJsJsJsIJsRRRuuuuu q0 q1 q2 q3 q4 p5 (36028797018963967 : Int64) o1 b2 b25) [])) (fun t k => st87 _ k) ?_
                refine own_go (B := T87.setTop (mkF m 256 (LS_JsJsJsJsJsIJsRRRIuuuu q0 q1 q2 q3 q4 p5 (36028797018963967 : Int64) o1 b2 b25 (((p5.toUInt32 >>> ((7 : Int32) &&& 31).toUInt32).toInt32) &&& (3 : Int32))) [])) (fun t k => ?_) ?_
                · show Steps p.tables e below (T87.setTop (mkF m 247 (LS_JsJsJsJsJsIJsRRRuuuuu q0 q1 q2 q3 q4 p5 (36028797018963967 : Int64) o1 b2 b25) [])) _
                  refine XS.iload X87.here hx rfl (hb hby at_247) rfl ?_
                  show Steps p.tables e below (T87.setTop (mkF m 249 (LS_JsJsJsJsJsIJsRRRuuuuu q0 q1 q2 q3 q4 p5 (36028797018963967 : Int64) o1 b2 b25) [(.int p5)])) _
                  refine XS.bipush X87.here hx rfl (hb hby at_249) ?_
                  show Steps p.tables e below (T87.setTop (mkF m 251 (LS_JsJsJsJsJsIJsRRRuuuuu q0 q1 q2 q3 q4 p5 (36028797018963967 : Int64) o1 b2 b25) [(.int (7 : Int32)), (.int p5)])) _
                  refine XS.iushr X87.here hx rfl (hb hby at_251) rfl ?_
                  show Steps p.tables e below (T87.setTop (mkF m 252 (LS_JsJsJsJsJsIJsRRRuuuuu q0 q1 q2 q3 q4 p5 (36028797018963967 : Int64) o1 b2 b25) [(.int ((p5.toUInt32 >>> ((7 : Int32) &&& 31).toUInt32).toInt32))])) _
                  refine XS.iconst X87.here hx rfl (hb hby at_252) ?_
                  show Steps p.tables e below (T87.setTop (mkF m 253 (LS_JsJsJsJsJsIJsRRRuuuuu q0 q1 q2 q3 q4 p5 (36028797018963967 : Int64) o1 b2 b25) [(.int (3 : Int32)), (.int ((p5.toUInt32 >>> ((7 : Int32) &&& 31).toUInt32).toInt32))])) _
                  refine XS.iand X87.here hx rfl (hb hby at_253) rfl ?_
                  show Steps p.tables e below (T87.setTop (mkF m 254 (LS_JsJsJsJsJsIJsRRRuuuuu q0 q1 q2 q3 q4 p5 (36028797018963967 : Int64) o1 b2 b25) [(.int (((p5.toUInt32 >>> ((7 : Int32) &&& 31).toUInt32).toInt32) &&& (3 : Int32)))])) _
                  refine XS.istore X87.here hx rfl (hb hby at_254) rfl (l' := (LS_JsJsJsJsJsIJsRRRIuuuu q0 q1 q2 q3 q4 p5 (36028797018963967 : Int64) o1 b2 b25 (((p5.toUInt32 >>> ((7 : Int32) &&& 31).toUInt32).toInt32) &&& (3 : Int32)))) rfl ?_
                  exact k
                refine own_joinH X87 N87 (ι := Addr) 6 42 (fun i88 hh => ∃ (kv : ClassId) (v0 v1 v2 v3 v4 v5 v6 : Int64), n0 ≤ hh.size ∧ Arv Z hh o1 ko1 .long (7 : Int32) [(.long (35747322042231467 : Int64)), (.long (36025922209447795 : Int64)), (.long (1084959616957103 : Int64)), (.long (7925923977987733 : Int64)), (.long (16551456537884751 : Int64)), (.long (23443114579904617 : Int64)), (.long (1829881462546425 : Int64))] (.long (0 : Int64)) ∧ Arv Z hh i88 kv .long (7 : Int32) [(.long v0), (.long v1), (.long v2), (.long v3), (.long v4), (.long v5), (.long v6)] (.long (0 : Int64)) ∧ (0 ≤ (v0).toInt ∧ (v0).toInt < 36028797018963968) ∧ (0 ≤ (v1).toInt ∧ (v1).toInt < 36028797018963968) ∧ (0 ≤ (v2).toInt ∧ (v2).toInt < 36028797018963968) ∧ (0 ≤ (v3).toInt ∧ (v3).toInt < 36028797018963968) ∧ (0 ≤ (v4).toInt ∧ (v4).toInt < 36028797018963968) ∧ (0 ≤ (v5).toInt ∧ (v5).toInt < 36028797018963968) ∧ (0 ≤ (v6).toInt ∧ (v6).toInt < 36028797018963968) ∧ Sta Z hh "com/example/barred_rows/barredrows/crypto/Fp" "P0" "J" (.long (35747322042231467 : Int64)) ∧ Sta Z hh "com/example/barred_rows/barredrows/crypto/Fp" "P1" "J" (.long (36025922209447795 : Int64)) ∧ Sta Z hh "com/example/barred_rows/barredrows/crypto/Fp" "P2" "J" (.long (1084959616957103 : Int64)) ∧ Sta Z hh "com/example/barred_rows/barredrows/crypto/Fp" "P3" "J" (.long (7925923977987733 : Int64)) ∧ Sta Z hh "com/example/barred_rows/barredrows/crypto/Fp" "P4" "J" (.long (16551456537884751 : Int64)) ∧ Sta Z hh "com/example/barred_rows/barredrows/crypto/Fp" "P5" "J" (.long (23443114579904617 : Int64)) ∧ Sta Z hh "com/example/barred_rows/barredrows/crypto/Fp" "P6" "J" (.long (1829881462546425 : Int64))) (fun i88 => mkF m 318 (LS_JsJsJsJsJsIJsRRRIRuuu q0 q1 q2 q3 q4 p5 (36028797018963967 : Int64) o1 b2 b25 (((p5.toUInt32 >>> ((7 : Int32) &&& 31).toUInt32).toInt32) &&& (3 : Int32)) i88) []) ?_ ?_
                · intro vv T88 lc88 X88 N88 phi88
                  obtain ⟨kv, v0, v1, v2, v3, v4, v5, v6, Zj88, Vp88, Vv88, bv0, bv1, bv2, bv3, bv4, bv5, bv6, Sj0, Sj1, Sj2, Sj3, Sj4, Sj5, Sj6⟩ := phi88
                  refine own_go (B := T88.setTop (mkF m 329 (LS_JsJsJsJsJsIJsRRRIRIuu q0 q1 q2 q3 q4 p5 (36028797018963967 : Int64) o1 b2 b25 (((p5.toUInt32 >>> ((7 : Int32) &&& 31).toUInt32).toInt32) &&& (3 : Int32)) vv (((p5.toUInt32 >>> ((9 : Int32) &&& 31).toUInt32).toInt32) &&& (3 : Int32))) [(.int (10 : Int32))])) (fun t k => ?_) ?_
                  · show Steps p.tables e below (T88.setTop (mkF m 318 (LS_JsJsJsJsJsIJsRRRIRuuu q0 q1 q2 q3 q4 p5 (36028797018963967 : Int64) o1 b2 b25 (((p5.toUInt32 >>> ((7 : Int32) &&& 31).toUInt32).toInt32) &&& (3 : Int32)) vv) [])) _
                    refine XS.iload X88.here hx rfl (hb hby at_318) rfl ?_
                    show Steps p.tables e below (T88.setTop (mkF m 320 (LS_JsJsJsJsJsIJsRRRIRuuu q0 q1 q2 q3 q4 p5 (36028797018963967 : Int64) o1 b2 b25 (((p5.toUInt32 >>> ((7 : Int32) &&& 31).toUInt32).toInt32) &&& (3 : Int32)) vv) [(.int p5)])) _
                    refine XS.bipush X88.here hx rfl (hb hby at_320) ?_
                    show Steps p.tables e below (T88.setTop (mkF m 322 (LS_JsJsJsJsJsIJsRRRIRuuu q0 q1 q2 q3 q4 p5 (36028797018963967 : Int64) o1 b2 b25 (((p5.toUInt32 >>> ((7 : Int32) &&& 31).toUInt32).toInt32) &&& (3 : Int32)) vv) [(.int (9 : Int32)), (.int p5)])) _
                    refine XS.iushr X88.here hx rfl (hb hby at_322) rfl ?_
                    show Steps p.tables e below (T88.setTop (mkF m 323 (LS_JsJsJsJsJsIJsRRRIRuuu q0 q1 q2 q3 q4 p5 (36028797018963967 : Int64) o1 b2 b25 (((p5.toUInt32 >>> ((7 : Int32) &&& 31).toUInt32).toInt32) &&& (3 : Int32)) vv) [(.int ((p5.toUInt32 >>> ((9 : Int32) &&& 31).toUInt32).toInt32))])) _
                    refine XS.iconst X88.here hx rfl (hb hby at_323) ?_
                    show Steps p.tables e below (T88.setTop (mkF m 324 (LS_JsJsJsJsJsIJsRRRIRuuu q0 q1 q2 q3 q4 p5 (36028797018963967 : Int64) o1 b2 b25 (((p5.toUInt32 >>> ((7 : Int32) &&& 31).toUInt32).toInt32) &&& (3 : Int32)) vv) [(.int (3 : Int32)), (.int ((p5.toUInt32 >>> ((9 : Int32) &&& 31).toUInt32).toInt32))])) _
                    refine XS.iand X88.here hx rfl (hb hby at_324) rfl ?_
                    show Steps p.tables e below (T88.setTop (mkF m 325 (LS_JsJsJsJsJsIJsRRRIRuuu q0 q1 q2 q3 q4 p5 (36028797018963967 : Int64) o1 b2 b25 (((p5.toUInt32 >>> ((7 : Int32) &&& 31).toUInt32).toInt32) &&& (3 : Int32)) vv) [(.int (((p5.toUInt32 >>> ((9 : Int32) &&& 31).toUInt32).toInt32) &&& (3 : Int32)))])) _
                    refine XS.istore X88.here hx rfl (hb hby at_325) rfl (l' := (LS_JsJsJsJsJsIJsRRRIRIuu q0 q1 q2 q3 q4 p5 (36028797018963967 : Int64) o1 b2 b25 (((p5.toUInt32 >>> ((7 : Int32) &&& 31).toUInt32).toInt32) &&& (3 : Int32)) vv (((p5.toUInt32 >>> ((9 : Int32) &&& 31).toUInt32).toInt32) &&& (3 : Int32)))) rfl ?_
                    show Steps p.tables e below (T88.setTop (mkF m 327 (LS_JsJsJsJsJsIJsRRRIRIuu q0 q1 q2 q3 q4 p5 (36028797018963967 : Int64) o1 b2 b25 (((p5.toUInt32 >>> ((7 : Int32) &&& 31).toUInt32).toInt32) &&& (3 : Int32)) vv (((p5.toUInt32 >>> ((9 : Int32) &&& 31).toUInt32).toInt32) &&& (3 : Int32))) [])) _
                    refine XS.bipush X88.here hx rfl (hb hby at_327) ?_
                    exact k
                  obtain ⟨T89, h89, k89, X89, e89, E89, A89, st89⟩ := newP X88 hx hZ (hw _ (List.mem_of_getElem? (i := 11) rfl)) rfl (g := (mkF m 329 (LS_JsJsJsJsJsIJsRRRIRIuu q0 q1 q2 q3 q4 p5 (36028797018963967 : Int64) o1 b2 b25 (((p5.toUInt32 >>> ((7 : Int32) &&& 31).toUInt32).toInt32) &&& (3 : Int32)) vv (((p5.toUInt32 >>> ((9 : Int32) &&& 31).toUInt32).toInt32) &&& (3 : Int32))) [(.int (10 : Int32))])) rfl (hb hby at_329) rfl (by decide) (cap := 10) (by decide) (by decide) (by decide) (by decide)
                  obtain ⟨b89, g89⟩ : ∃ z, z = T88.heap.size := ⟨_, rfl⟩
                  rw [← g89] at A89 st89
                  have g_b89 : n0 ≤ b89 := Nat.le_trans Zj88 (Nat.le_of_eq g89.symm)
                  have V89 : Arv Z h89 b89 k89 .long (10 : Int32) [(.long (0 : Int64)), (.long (0 : Int64)), (.long (0 : Int64)), (.long (0 : Int64)), (.long (0 : Int64)), (.long (0 : Int64)), (.long (0 : Int64)), (.long (0 : Int64)), (.long (0 : Int64)), (.long (0 : Int64))] (.long (0 : Int64)) := (Arv.new A89 (by decide)).pad (pad_rep [] (.long (0 : Int64)) 10)
                  refine own_go (B := T89.setTop (mkF m 331 (LS_JsJsJsJsJsIJsRRRIRIuu q0 q1 q2 q3 q4 p5 (36028797018963967 : Int64) o1 b2 b25 (((p5.toUInt32 >>> ((7 : Int32) &&& 31).toUInt32).toInt32) &&& (3 : Int32)) vv (((p5.toUInt32 >>> ((9 : Int32) &&& 31).toUInt32).toInt32) &&& (3 : Int32))) [(.ref b89)])) (fun t k => st89 _ k) ?_
                  refine own_go (B := T89.setTop (mkF m 334 (LS_JsJsJsJsJsIJsRRRIRIuu q0 q1 q2 q3 q4 p5 (36028797018963967 : Int64) o1 b2 b25 (((p5.toUInt32 >>> ((7 : Int32) &&& 31).toUInt32).toInt32) &&& (3 : Int32)) vv (((p5.toUInt32 >>> ((9 : Int32) &&& 31).toUInt32).toInt32) &&& (3 : Int32))) [(.long (1 : Int64)), (.int (0 : Int32)), (.ref b89), (.ref b89)])) (fun t k => ?_) ?_
                  · show Steps p.tables e below (T89.setTop (mkF m 331 (LS_JsJsJsJsJsIJsRRRIRIuu q0 q1 q2 q3 q4 p5 (36028797018963967 : Int64) o1 b2 b25 (((p5.toUInt32 >>> ((7 : Int32) &&& 31).toUInt32).toInt32) &&& (3 : Int32)) vv (((p5.toUInt32 >>> ((9 : Int32) &&& 31).toUInt32).toInt32) &&& (3 : Int32))) [(.ref b89)])) _
                    refine XS.dup X89.here hx rfl (hb hby at_331) rfl rfl ?_
                    show Steps p.tables e below (T89.setTop (mkF m 332 (LS_JsJsJsJsJsIJsRRRIRIuu q0 q1 q2 q3 q4 p5 (36028797018963967 : Int64) o1 b2 b25 (((p5.toUInt32 >>> ((7 : Int32) &&& 31).toUInt32).toInt32) &&& (3 : Int32)) vv (((p5.toUInt32 >>> ((9 : Int32) &&& 31).toUInt32).toInt32) &&& (3 : Int32))) [(.ref b89), (.ref b89)])) _
                    refine XS.iconst X89.here hx rfl (hb hby at_332) ?_
                    show Steps p.tables e below (T89.setTop (mkF m 333 (LS_JsJsJsJsJsIJsRRRIRIuu q0 q1 q2 q3 q4 p5 (36028797018963967 : Int64) o1 b2 b25 (((p5.toUInt32 >>> ((7 : Int32) &&& 31).toUInt32).toInt32) &&& (3 : Int32)) vv (((p5.toUInt32 >>> ((9 : Int32) &&& 31).toUInt32).toInt32) &&& (3 : Int32))) [(.int (0 : Int32)), (.ref b89), (.ref b89)])) _
                    refine XS.lconst X89.here hx rfl (hb hby at_333) ?_
                    exact k
                  obtain ⟨cl90, Ar90, qa90, Sa90, Na90, Ha90, Ga90⟩ := id V89
                  have hin91 : ¬ ((0 : Int32) < 0 ∨ cl90.slots.size ≤ ((0 : Int32)).toNatClampNeg) := inb_of Sa90 ⟨by decide, by decide⟩
                  obtain ⟨T91, h91, X91, e91, W91, st91⟩ := stJ X89 hx hZ e89 Ar90 (j := (0 : Int32)) hin91 (g := (mkF m 334 (LS_JsJsJsJsJsIJsRRRIRIuu q0 q1 q2 q3 q4 p5 (36028797018963967 : Int64) o1 b2 b25 (((p5.toUInt32 >>> ((7 : Int32) &&& 31).toUInt32).toInt32) &&& (3 : Int32)) vv (((p5.toUInt32 >>> ((9 : Int32) &&& 31).toUInt32).toInt32) &&& (3 : Int32))) [(.long (1 : Int64)), (.int (0 : Int32)), (.ref b89), (.ref b89)])) rfl rfl (hb hby at_334)
                  have N91 := Fr.snoc X91 N88 g_b89
                  have V91 : Arv Z h91 b89 k89 .long (10 : Int32) [(.long (1 : Int64)), (.long (0 : Int64)), (.long (0 : Int64)), (.long (0 : Int64)), (.long (0 : Int64)), (.long (0 : Int64)), (.long (0 : Int64)), (.long (0 : Int64)), (.long (0 : Int64)), (.long (0 : Int64))] (.long (0 : Int64)) := Arv.set Ar90 qa90 Sa90 Na90 Ha90 Ga90 rfl W91 0 rfl (Nat.le_of_ble_eq_true rfl)
                  refine own_go (B := T91.setTop (mkF m 335 (LS_JsJsJsJsJsIJsRRRIRIuu q0 q1 q2 q3 q4 p5 (36028797018963967 : Int64) o1 b2 b25 (((p5.toUInt32 >>> ((7 : Int32) &&& 31).toUInt32).toInt32) &&& (3 : Int32)) vv (((p5.toUInt32 >>> ((9 : Int32) &&& 31).toUInt32).toInt32) &&& (3 : Int32))) [(.ref b89)])) (fun t k => st91 _ k) ?_
                  refine own_go (B := T91.setTop (mkF m 338 (LS_JsJsJsJsJsIJsRRRIRIuu q0 q1 q2 q3 q4 p5 (36028797018963967 : Int64) o1 b2 b25 (((p5.toUInt32 >>> ((7 : Int32) &&& 31).toUInt32).toInt32) &&& (3 : Int32)) vv (((p5.toUInt32 >>> ((9 : Int32) &&& 31).toUInt32).toInt32) &&& (3 : Int32))) [(.long (1 : Int64)), (.int (1 : Int32)), (.ref b89), (.ref b89)])) (fun t k => ?_) ?_
                  · show Steps p.tables e below (T91.setTop (mkF m 335 (LS_JsJsJsJsJsIJsRRRIRIuu q0 q1 q2 q3 q4 p5 (36028797018963967 : Int64) o1 b2 b25 (((p5.toUInt32 >>> ((7 : Int32) &&& 31).toUInt32).toInt32) &&& (3 : Int32)) vv (((p5.toUInt32 >>> ((9 : Int32) &&& 31).toUInt32).toInt32) &&& (3 : Int32))) [(.ref b89)])) _
                    refine XS.dup X91.here hx rfl (hb hby at_335) rfl rfl ?_
                    show Steps p.tables e below (T91.setTop (mkF m 336 (LS_JsJsJsJsJsIJsRRRIRIuu q0 q1 q2 q3 q4 p5 (36028797018963967 : Int64) o1 b2 b25 (((p5.toUInt32 >>> ((7 : Int32) &&& 31).toUInt32).toInt32) &&& (3 : Int32)) vv (((p5.toUInt32 >>> ((9 : Int32) &&& 31).toUInt32).toInt32) &&& (3 : Int32))) [(.ref b89), (.ref b89)])) _
                    refine XS.iconst X91.here hx rfl (hb hby at_336) ?_
                    show Steps p.tables e below (T91.setTop (mkF m 337 (LS_JsJsJsJsJsIJsRRRIRIuu q0 q1 q2 q3 q4 p5 (36028797018963967 : Int64) o1 b2 b25 (((p5.toUInt32 >>> ((7 : Int32) &&& 31).toUInt32).toInt32) &&& (3 : Int32)) vv (((p5.toUInt32 >>> ((9 : Int32) &&& 31).toUInt32).toInt32) &&& (3 : Int32))) [(.int (1 : Int32)), (.ref b89), (.ref b89)])) _
                    refine XS.lconst X91.here hx rfl (hb hby at_337) ?_
                    exact k
                  obtain ⟨cl92, Ar92, qa92, Sa92, Na92, Ha92, Ga92⟩ := id V91
                  have hin93 : ¬ ((1 : Int32) < 0 ∨ cl92.slots.size ≤ ((1 : Int32)).toNatClampNeg) := inb_of Sa92 ⟨by decide, by decide⟩
                  obtain ⟨T93, h93, X93, e93, W93, st93⟩ := stJ X91 hx hZ e91 Ar92 (j := (1 : Int32)) hin93 (g := (mkF m 338 (LS_JsJsJsJsJsIJsRRRIRIuu q0 q1 q2 q3 q4 p5 (36028797018963967 : Int64) o1 b2 b25 (((p5.toUInt32 >>> ((7 : Int32) &&& 31).toUInt32).toInt32) &&& (3 : Int32)) vv (((p5.toUInt32 >>> ((9 : Int32) &&& 31).toUInt32).toInt32) &&& (3 : Int32))) [(.long (1 : Int64)), (.int (1 : Int32)), (.ref b89), (.ref b89)])) rfl rfl (hb hby at_338)
                  have N93 := Fr.snoc X93 N91 g_b89
                  have V93 : Arv Z h93 b89 k89 .long (10 : Int32) [(.long (1 : Int64)), (.long (1 : Int64)), (.long (0 : Int64)), (.long (0 : Int64)), (.long (0 : Int64)), (.long (0 : Int64)), (.long (0 : Int64)), (.long (0 : Int64)), (.long (0 : Int64)), (.long (0 : Int64))] (.long (0 : Int64)) := Arv.set Ar92 qa92 Sa92 Na92 Ha92 Ga92 rfl W93 1 rfl (Nat.le_of_ble_eq_true rfl)
                  refine own_go (B := T93.setTop (mkF m 339 (LS_JsJsJsJsJsIJsRRRIRIuu q0 q1 q2 q3 q4 p5 (36028797018963967 : Int64) o1 b2 b25 (((p5.toUInt32 >>> ((7 : Int32) &&& 31).toUInt32).toInt32) &&& (3 : Int32)) vv (((p5.toUInt32 >>> ((9 : Int32) &&& 31).toUInt32).toInt32) &&& (3 : Int32))) [(.ref b89)])) (fun t k => st93 _ k) ?_
                  refine own_go (B := T93.setTop (mkF m 342 (LS_JsJsJsJsJsIJsRRRIRIuu q0 q1 q2 q3 q4 p5 (36028797018963967 : Int64) o1 b2 b25 (((p5.toUInt32 >>> ((7 : Int32) &&& 31).toUInt32).toInt32) &&& (3 : Int32)) vv (((p5.toUInt32 >>> ((9 : Int32) &&& 31).toUInt32).toInt32) &&& (3 : Int32))) [(.long (1 : Int64)), (.int (2 : Int32)), (.ref b89), (.ref b89)])) (fun t k => ?_) ?_
                  · show Steps p.tables e below (T93.setTop (mkF m 339 (LS_JsJsJsJsJsIJsRRRIRIuu q0 q1 q2 q3 q4 p5 (36028797018963967 : Int64) o1 b2 b25 (((p5.toUInt32 >>> ((7 : Int32) &&& 31).toUInt32).toInt32) &&& (3 : Int32)) vv (((p5.toUInt32 >>> ((9 : Int32) &&& 31).toUInt32).toInt32) &&& (3 : Int32))) [(.ref b89)])) _
                    refine XS.dup X93.here hx rfl (hb hby at_339) rfl rfl ?_
                    show Steps p.tables e below (T93.setTop (mkF m 340 (LS_JsJsJsJsJsIJsRRRIRIuu q0 q1 q2 q3 q4 p5 (36028797018963967 : Int64) o1 b2 b25 (((p5.toUInt32 >>> ((7 : Int32) &&& 31).toUInt32).toInt32) &&& (3 : Int32)) vv (((p5.toUInt32 >>> ((9 : Int32) &&& 31).toUInt32).toInt32) &&& (3 : Int32))) [(.ref b89), (.ref b89)])) _
                    refine XS.iconst X93.here hx rfl (hb hby at_340) ?_
                    show Steps p.tables e below (T93.setTop (mkF m 341 (LS_JsJsJsJsJsIJsRRRIRIuu q0 q1 q2 q3 q4 p5 (36028797018963967 : Int64) o1 b2 b25 (((p5.toUInt32 >>> ((7 : Int32) &&& 31).toUInt32).toInt32) &&& (3 : Int32)) vv (((p5.toUInt32 >>> ((9 : Int32) &&& 31).toUInt32).toInt32) &&& (3 : Int32))) [(.int (2 : Int32)), (.ref b89), (.ref b89)])) _
                    refine XS.lconst X93.here hx rfl (hb hby at_341) ?_
                    exact k
                  obtain ⟨cl94, Ar94, qa94, Sa94, Na94, Ha94, Ga94⟩ := id V93
                  have hin95 : ¬ ((2 : Int32) < 0 ∨ cl94.slots.size ≤ ((2 : Int32)).toNatClampNeg) := inb_of Sa94 ⟨by decide, by decide⟩
                  obtain ⟨T95, h95, X95, e95, W95, st95⟩ := stJ X93 hx hZ e93 Ar94 (j := (2 : Int32)) hin95 (g := (mkF m 342 (LS_JsJsJsJsJsIJsRRRIRIuu q0 q1 q2 q3 q4 p5 (36028797018963967 : Int64) o1 b2 b25 (((p5.toUInt32 >>> ((7 : Int32) &&& 31).toUInt32).toInt32) &&& (3 : Int32)) vv (((p5.toUInt32 >>> ((9 : Int32) &&& 31).toUInt32).toInt32) &&& (3 : Int32))) [(.long (1 : Int64)), (.int (2 : Int32)), (.ref b89), (.ref b89)])) rfl rfl (hb hby at_342)
                  have N95 := Fr.snoc X95 N93 g_b89
                  have V95 : Arv Z h95 b89 k89 .long (10 : Int32) [(.long (1 : Int64)), (.long (1 : Int64)), (.long (1 : Int64)), (.long (0 : Int64)), (.long (0 : Int64)), (.long (0 : Int64)), (.long (0 : Int64)), (.long (0 : Int64)), (.long (0 : Int64)), (.long (0 : Int64))] (.long (0 : Int64)) := Arv.set Ar94 qa94 Sa94 Na94 Ha94 Ga94 rfl W95 2 rfl (Nat.le_of_ble_eq_true rfl)
                  refine own_go (B := T95.setTop (mkF m 343 (LS_JsJsJsJsJsIJsRRRIRIuu q0 q1 q2 q3 q4 p5 (36028797018963967 : Int64) o1 b2 b25 (((p5.toUInt32 >>> ((7 : Int32) &&& 31).toUInt32).toInt32) &&& (3 : Int32)) vv (((p5.toUInt32 >>> ((9 : Int32) &&& 31).toUInt32).toInt32) &&& (3 : Int32))) [(.ref b89)])) (fun t k => st95 _ k) ?_
                  refine own_go (B := T95.setTop (mkF m 346 (LS_JsJsJsJsJsIJsRRRIRIuu q0 q1 q2 q3 q4 p5 (36028797018963967 : Int64) o1 b2 b25 (((p5.toUInt32 >>> ((7 : Int32) &&& 31).toUInt32).toInt32) &&& (3 : Int32)) vv (((p5.toUInt32 >>> ((9 : Int32) &&& 31).toUInt32).toInt32) &&& (3 : Int32))) [(.long (1 : Int64)), (.int (3 : Int32)), (.ref b89), (.ref b89)])) (fun t k => ?_) ?_
                  · show Steps p.tables e below (T95.setTop (mkF m 343 (LS_JsJsJsJsJsIJsRRRIRIuu q0 q1 q2 q3 q4 p5 (36028797018963967 : Int64) o1 b2 b25 (((p5.toUInt32 >>> ((7 : Int32) &&& 31).toUInt32).toInt32) &&& (3 : Int32)) vv (((p5.toUInt32 >>> ((9 : Int32) &&& 31).toUInt32).toInt32) &&& (3 : Int32))) [(.ref b89)])) _
                    refine XS.dup X95.here hx rfl (hb hby at_343) rfl rfl ?_
                    show Steps p.tables e below (T95.setTop (mkF m 344 (LS_JsJsJsJsJsIJsRRRIRIuu q0 q1 q2 q3 q4 p5 (36028797018963967 : Int64) o1 b2 b25 (((p5.toUInt32 >>> ((7 : Int32) &&& 31).toUInt32).toInt32) &&& (3 : Int32)) vv (((p5.toUInt32 >>> ((9 : Int32) &&& 31).toUInt32).toInt32) &&& (3 : Int32))) [(.ref b89), (.ref b89)])) _
                    refine XS.iconst X95.here hx rfl (hb hby at_344) ?_
                    show Steps p.tables e below (T95.setTop (mkF m 345 (LS_JsJsJsJsJsIJsRRRIRIuu q0 q1 q2 q3 q4 p5 (36028797018963967 : Int64) o1 b2 b25 (((p5.toUInt32 >>> ((7 : Int32) &&& 31).toUInt32).toInt32) &&& (3 : Int32)) vv (((p5.toUInt32 >>> ((9 : Int32) &&& 31).toUInt32).toInt32) &&& (3 : Int32))) [(.int (3 : Int32)), (.ref b89), (.ref b89)])) _
                    refine XS.lconst X95.here hx rfl (hb hby at_345) ?_
                    exact k
                  obtain ⟨cl96, Ar96, qa96, Sa96, Na96, Ha96, Ga96⟩ := id V95
                  have hin97 : ¬ ((3 : Int32) < 0 ∨ cl96.slots.size ≤ ((3 : Int32)).toNatClampNeg) := inb_of Sa96 ⟨by decide, by decide⟩
                  obtain ⟨T97, h97, X97, e97, W97, st97⟩ := stJ X95 hx hZ e95 Ar96 (j := (3 : Int32)) hin97 (g := (mkF m 346 (LS_JsJsJsJsJsIJsRRRIRIuu q0 q1 q2 q3 q4 p5 (36028797018963967 : Int64) o1 b2 b25 (((p5.toUInt32 >>> ((7 : Int32) &&& 31).toUInt32).toInt32) &&& (3 : Int32)) vv (((p5.toUInt32 >>> ((9 : Int32) &&& 31).toUInt32).toInt32) &&& (3 : Int32))) [(.long (1 : Int64)), (.int (3 : Int32)), (.ref b89), (.ref b89)])) rfl rfl (hb hby at_346)
                  have N97 := Fr.snoc X97 N95 g_b89
                  have V97 : Arv Z h97 b89 k89 .long (10 : Int32) [(.long (1 : Int64)), (.long (1 : Int64)), (.long (1 : Int64)), (.long (1 : Int64)), (.long (0 : Int64)), (.long (0 : Int64)), (.long (0 : Int64)), (.long (0 : Int64)), (.long (0 : Int64)), (.long (0 : Int64))] (.long (0 : Int64)) := Arv.set Ar96 qa96 Sa96 Na96 Ha96 Ga96 rfl W97 3 rfl (Nat.le_of_ble_eq_true rfl)
                  refine own_go (B := T97.setTop (mkF m 347 (LS_JsJsJsJsJsIJsRRRIRIuu q0 q1 q2 q3 q4 p5 (36028797018963967 : Int64) o1 b2 b25 (((p5.toUInt32 >>> ((7 : Int32) &&& 31).toUInt32).toInt32) &&& (3 : Int32)) vv (((p5.toUInt32 >>> ((9 : Int32) &&& 31).toUInt32).toInt32) &&& (3 : Int32))) [(.ref b89)])) (fun t k => st97 _ k) ?_
                  refine own_go (B := T97.setTop (mkF m 350 (LS_JsJsJsJsJsIJsRRRIRIuu q0 q1 q2 q3 q4 p5 (36028797018963967 : Int64) o1 b2 b25 (((p5.toUInt32 >>> ((7 : Int32) &&& 31).toUInt32).toInt32) &&& (3 : Int32)) vv (((p5.toUInt32 >>> ((9 : Int32) &&& 31).toUInt32).toInt32) &&& (3 : Int32))) [(.long (1 : Int64)), (.int (4 : Int32)), (.ref b89), (.ref b89)])) (fun t k => ?_) ?_
                  · show Steps p.tables e below (T97.setTop (mkF m 347 (LS_JsJsJsJsJsIJsRRRIRIuu q0 q1 q2 q3 q4 p5 (36028797018963967 : Int64) o1 b2 b25 (((p5.toUInt32 >>> ((7 : Int32) &&& 31).toUInt32).toInt32) &&& (3 : Int32)) vv (((p5.toUInt32 >>> ((9 : Int32) &&& 31).toUInt32).toInt32) &&& (3 : Int32))) [(.ref b89)])) _
                    refine XS.dup X97.here hx rfl (hb hby at_347) rfl rfl ?_
                    show Steps p.tables e below (T97.setTop (mkF m 348 (LS_JsJsJsJsJsIJsRRRIRIuu q0 q1 q2 q3 q4 p5 (36028797018963967 : Int64) o1 b2 b25 (((p5.toUInt32 >>> ((7 : Int32) &&& 31).toUInt32).toInt32) &&& (3 : Int32)) vv (((p5.toUInt32 >>> ((9 : Int32) &&& 31).toUInt32).toInt32) &&& (3 : Int32))) [(.ref b89), (.ref b89)])) _
                    refine XS.iconst X97.here hx rfl (hb hby at_348) ?_
                    show Steps p.tables e below (T97.setTop (mkF m 349 (LS_JsJsJsJsJsIJsRRRIRIuu q0 q1 q2 q3 q4 p5 (36028797018963967 : Int64) o1 b2 b25 (((p5.toUInt32 >>> ((7 : Int32) &&& 31).toUInt32).toInt32) &&& (3 : Int32)) vv (((p5.toUInt32 >>> ((9 : Int32) &&& 31).toUInt32).toInt32) &&& (3 : Int32))) [(.int (4 : Int32)), (.ref b89), (.ref b89)])) _
                    refine XS.lconst X97.here hx rfl (hb hby at_349) ?_
                    exact k
                  obtain ⟨cl98, Ar98, qa98, Sa98, Na98, Ha98, Ga98⟩ := id V97
                  have hin99 : ¬ ((4 : Int32) < 0 ∨ cl98.slots.size ≤ ((4 : Int32)).toNatClampNeg) := inb_of Sa98 ⟨by decide, by decide⟩
                  obtain ⟨T99, h99, X99, e99, W99, st99⟩ := stJ X97 hx hZ e97 Ar98 (j := (4 : Int32)) hin99 (g := (mkF m 350 (LS_JsJsJsJsJsIJsRRRIRIuu q0 q1 q2 q3 q4 p5 (36028797018963967 : Int64) o1 b2 b25 (((p5.toUInt32 >>> ((7 : Int32) &&& 31).toUInt32).toInt32) &&& (3 : Int32)) vv (((p5.toUInt32 >>> ((9 : Int32) &&& 31).toUInt32).toInt32) &&& (3 : Int32))) [(.long (1 : Int64)), (.int (4 : Int32)), (.ref b89), (.ref b89)])) rfl rfl (hb hby at_350)
                  have N99 := Fr.snoc X99 N97 g_b89
                  have V99 : Arv Z h99 b89 k89 .long (10 : Int32) [(.long (1 : Int64)), (.long (1 : Int64)), (.long (1 : Int64)), (.long (1 : Int64)), (.long (1 : Int64)), (.long (0 : Int64)), (.long (0 : Int64)), (.long (0 : Int64)), (.long (0 : Int64)), (.long (0 : Int64))] (.long (0 : Int64)) := Arv.set Ar98 qa98 Sa98 Na98 Ha98 Ga98 rfl W99 4 rfl (Nat.le_of_ble_eq_true rfl)
                  refine own_go (B := T99.setTop (mkF m 351 (LS_JsJsJsJsJsIJsRRRIRIuu q0 q1 q2 q3 q4 p5 (36028797018963967 : Int64) o1 b2 b25 (((p5.toUInt32 >>> ((7 : Int32) &&& 31).toUInt32).toInt32) &&& (3 : Int32)) vv (((p5.toUInt32 >>> ((9 : Int32) &&& 31).toUInt32).toInt32) &&& (3 : Int32))) [(.ref b89)])) (fun t k => st99 _ k) ?_
                  refine own_go (B := T99.setTop (mkF m 354 (LS_JsJsJsJsJsIJsRRRIRIuu q0 q1 q2 q3 q4 p5 (36028797018963967 : Int64) o1 b2 b25 (((p5.toUInt32 >>> ((7 : Int32) &&& 31).toUInt32).toInt32) &&& (3 : Int32)) vv (((p5.toUInt32 >>> ((9 : Int32) &&& 31).toUInt32).toInt32) &&& (3 : Int32))) [(.long (1 : Int64)), (.int (5 : Int32)), (.ref b89), (.ref b89)])) (fun t k => ?_) ?_
                  · show Steps p.tables e below (T99.setTop (mkF m 351 (LS_JsJsJsJsJsIJsRRRIRIuu q0 q1 q2 q3 q4 p5 (36028797018963967 : Int64) o1 b2 b25 (((p5.toUInt32 >>> ((7 : Int32) &&& 31).toUInt32).toInt32) &&& (3 : Int32)) vv (((p5.toUInt32 >>> ((9 : Int32) &&& 31).toUInt32).toInt32) &&& (3 : Int32))) [(.ref b89)])) _
                    refine XS.dup X99.here hx rfl (hb hby at_351) rfl rfl ?_
                    show Steps p.tables e below (T99.setTop (mkF m 352 (LS_JsJsJsJsJsIJsRRRIRIuu q0 q1 q2 q3 q4 p5 (36028797018963967 : Int64) o1 b2 b25 (((p5.toUInt32 >>> ((7 : Int32) &&& 31).toUInt32).toInt32) &&& (3 : Int32)) vv (((p5.toUInt32 >>> ((9 : Int32) &&& 31).toUInt32).toInt32) &&& (3 : Int32))) [(.ref b89), (.ref b89)])) _
                    refine XS.iconst X99.here hx rfl (hb hby at_352) ?_
                    show Steps p.tables e below (T99.setTop (mkF m 353 (LS_JsJsJsJsJsIJsRRRIRIuu q0 q1 q2 q3 q4 p5 (36028797018963967 : Int64) o1 b2 b25 (((p5.toUInt32 >>> ((7 : Int32) &&& 31).toUInt32).toInt32) &&& (3 : Int32)) vv (((p5.toUInt32 >>> ((9 : Int32) &&& 31).toUInt32).toInt32) &&& (3 : Int32))) [(.int (5 : Int32)), (.ref b89), (.ref b89)])) _
                    refine XS.lconst X99.here hx rfl (hb hby at_353) ?_
                    exact k
                  obtain ⟨cl100, Ar100, qa100, Sa100, Na100, Ha100, Ga100⟩ := id V99
                  have hin101 : ¬ ((5 : Int32) < 0 ∨ cl100.slots.size ≤ ((5 : Int32)).toNatClampNeg) := inb_of Sa100 ⟨by decide, by decide⟩
                  obtain ⟨T101, h101, X101, e101, W101, st101⟩ := stJ X99 hx hZ e99 Ar100 (j := (5 : Int32)) hin101 (g := (mkF m 354 (LS_JsJsJsJsJsIJsRRRIRIuu q0 q1 q2 q3 q4 p5 (36028797018963967 : Int64) o1 b2 b25 (((p5.toUInt32 >>> ((7 : Int32) &&& 31).toUInt32).toInt32) &&& (3 : Int32)) vv (((p5.toUInt32 >>> ((9 : Int32) &&& 31).toUInt32).toInt32) &&& (3 : Int32))) [(.long (1 : Int64)), (.int (5 : Int32)), (.ref b89), (.ref b89)])) rfl rfl (hb hby at_354)
                  have N101 := Fr.snoc X101 N99 g_b89
                  have V101 : Arv Z h101 b89 k89 .long (10 : Int32) [(.long (1 : Int64)), (.long (1 : Int64)), (.long (1 : Int64)), (.long (1 : Int64)), (.long (1 : Int64)), (.long (1 : Int64)), (.long (0 : Int64)), (.long (0 : Int64)), (.long (0 : Int64)), (.long (0 : Int64))] (.long (0 : Int64)) := Arv.set Ar100 qa100 Sa100 Na100 Ha100 Ga100 rfl W101 5 rfl (Nat.le_of_ble_eq_true rfl)
                  refine own_go (B := T101.setTop (mkF m 355 (LS_JsJsJsJsJsIJsRRRIRIuu q0 q1 q2 q3 q4 p5 (36028797018963967 : Int64) o1 b2 b25 (((p5.toUInt32 >>> ((7 : Int32) &&& 31).toUInt32).toInt32) &&& (3 : Int32)) vv (((p5.toUInt32 >>> ((9 : Int32) &&& 31).toUInt32).toInt32) &&& (3 : Int32))) [(.ref b89)])) (fun t k => st101 _ k) ?_
                  refine own_go (B := T101.setTop (mkF m 359 (LS_JsJsJsJsJsIJsRRRIRIuu q0 q1 q2 q3 q4 p5 (36028797018963967 : Int64) o1 b2 b25 (((p5.toUInt32 >>> ((7 : Int32) &&& 31).toUInt32).toInt32) &&& (3 : Int32)) vv (((p5.toUInt32 >>> ((9 : Int32) &&& 31).toUInt32).toInt32) &&& (3 : Int32))) [(.long (1 : Int64)), (.int (6 : Int32)), (.ref b89), (.ref b89)])) (fun t k => ?_) ?_
                  · show Steps p.tables e below (T101.setTop (mkF m 355 (LS_JsJsJsJsJsIJsRRRIRIuu q0 q1 q2 q3 q4 p5 (36028797018963967 : Int64) o1 b2 b25 (((p5.toUInt32 >>> ((7 : Int32) &&& 31).toUInt32).toInt32) &&& (3 : Int32)) vv (((p5.toUInt32 >>> ((9 : Int32) &&& 31).toUInt32).toInt32) &&& (3 : Int32))) [(.ref b89)])) _
                    refine XS.dup X101.here hx rfl (hb hby at_355) rfl rfl ?_
                    show Steps p.tables e below (T101.setTop (mkF m 356 (LS_JsJsJsJsJsIJsRRRIRIuu q0 q1 q2 q3 q4 p5 (36028797018963967 : Int64) o1 b2 b25 (((p5.toUInt32 >>> ((7 : Int32) &&& 31).toUInt32).toInt32) &&& (3 : Int32)) vv (((p5.toUInt32 >>> ((9 : Int32) &&& 31).toUInt32).toInt32) &&& (3 : Int32))) [(.ref b89), (.ref b89)])) _
                    refine XS.bipush X101.here hx rfl (hb hby at_356) ?_
                    show Steps p.tables e below (T101.setTop (mkF m 358 (LS_JsJsJsJsJsIJsRRRIRIuu q0 q1 q2 q3 q4 p5 (36028797018963967 : Int64) o1 b2 b25 (((p5.toUInt32 >>> ((7 : Int32) &&& 31).toUInt32).toInt32) &&& (3 : Int32)) vv (((p5.toUInt32 >>> ((9 : Int32) &&& 31).toUInt32).toInt32) &&& (3 : Int32))) [(.int (6 : Int32)), (.ref b89), (.ref b89)])) _
                    refine XS.lconst X101.here hx rfl (hb hby at_358) ?_
                    exact k
                  obtain ⟨cl102, Ar102, qa102, Sa102, Na102, Ha102, Ga102⟩ := id V101
                  have hin103 : ¬ ((6 : Int32) < 0 ∨ cl102.slots.size ≤ ((6 : Int32)).toNatClampNeg) := inb_of Sa102 ⟨by decide, by decide⟩
                  obtain ⟨T103, h103, X103, e103, W103, st103⟩ := stJ X101 hx hZ e101 Ar102 (j := (6 : Int32)) hin103 (g := (mkF m 359 (LS_JsJsJsJsJsIJsRRRIRIuu q0 q1 q2 q3 q4 p5 (36028797018963967 : Int64) o1 b2 b25 (((p5.toUInt32 >>> ((7 : Int32) &&& 31).toUInt32).toInt32) &&& (3 : Int32)) vv (((p5.toUInt32 >>> ((9 : Int32) &&& 31).toUInt32).toInt32) &&& (3 : Int32))) [(.long (1 : Int64)), (.int (6 : Int32)), (.ref b89), (.ref b89)])) rfl rfl (hb hby at_359)
                  have N103 := Fr.snoc X103 N101 g_b89
                  have V103 : Arv Z h103 b89 k89 .long (10 : Int32) [(.long (1 : Int64)), (.long (1 : Int64)), (.long (1 : Int64)), (.long (1 : Int64)), (.long (1 : Int64)), (.long (1 : Int64)), (.long (1 : Int64)), (.long (0 : Int64)), (.long (0 : Int64)), (.long (0 : Int64))] (.long (0 : Int64)) := Arv.set Ar102 qa102 Sa102 Na102 Ha102 Ga102 rfl W103 6 rfl (Nat.le_of_ble_eq_true rfl)
                  refine own_go (B := T103.setTop (mkF m 360 (LS_JsJsJsJsJsIJsRRRIRIuu q0 q1 q2 q3 q4 p5 (36028797018963967 : Int64) o1 b2 b25 (((p5.toUInt32 >>> ((7 : Int32) &&& 31).toUInt32).toInt32) &&& (3 : Int32)) vv (((p5.toUInt32 >>> ((9 : Int32) &&& 31).toUInt32).toInt32) &&& (3 : Int32))) [(.ref b89)])) (fun t k => st103 _ k) ?_
                  refine own_go (B := T103.setTop (mkF m 364 (LS_JsJsJsJsJsIJsRRRIRIuu q0 q1 q2 q3 q4 p5 (36028797018963967 : Int64) o1 b2 b25 (((p5.toUInt32 >>> ((7 : Int32) &&& 31).toUInt32).toInt32) &&& (3 : Int32)) vv (((p5.toUInt32 >>> ((9 : Int32) &&& 31).toUInt32).toInt32) &&& (3 : Int32))) [(.long (1 : Int64)), (.int (7 : Int32)), (.ref b89), (.ref b89)])) (fun t k => ?_) ?_
                  · show Steps p.tables e below (T103.setTop (mkF m 360 (LS_JsJsJsJsJsIJsRRRIRIuu q0 q1 q2 q3 q4 p5 (36028797018963967 : Int64) o1 b2 b25 (((p5.toUInt32 >>> ((7 : Int32) &&& 31).toUInt32).toInt32) &&& (3 : Int32)) vv (((p5.toUInt32 >>> ((9 : Int32) &&& 31).toUInt32).toInt32) &&& (3 : Int32))) [(.ref b89)])) _
                    refine XS.dup X103.here hx rfl (hb hby at_360) rfl rfl ?_
                    show Steps p.tables e below (T103.setTop (mkF m 361 (LS_JsJsJsJsJsIJsRRRIRIuu q0 q1 q2 q3 q4 p5 (36028797018963967 : Int64) o1 b2 b25 (((p5.toUInt32 >>> ((7 : Int32) &&& 31).toUInt32).toInt32) &&& (3 : Int32)) vv (((p5.toUInt32 >>> ((9 : Int32) &&& 31).toUInt32).toInt32) &&& (3 : Int32))) [(.ref b89), (.ref b89)])) _
                    refine XS.bipush X103.here hx rfl (hb hby at_361) ?_
                    show Steps p.tables e below (T103.setTop (mkF m 363 (LS_JsJsJsJsJsIJsRRRIRIuu q0 q1 q2 q3 q4 p5 (36028797018963967 : Int64) o1 b2 b25 (((p5.toUInt32 >>> ((7 : Int32) &&& 31).toUInt32).toInt32) &&& (3 : Int32)) vv (((p5.toUInt32 >>> ((9 : Int32) &&& 31).toUInt32).toInt32) &&& (3 : Int32))) [(.int (7 : Int32)), (.ref b89), (.ref b89)])) _
                    refine XS.lconst X103.here hx rfl (hb hby at_363) ?_
                    exact k
                  obtain ⟨cl104, Ar104, qa104, Sa104, Na104, Ha104, Ga104⟩ := id V103
                  have hin105 : ¬ ((7 : Int32) < 0 ∨ cl104.slots.size ≤ ((7 : Int32)).toNatClampNeg) := inb_of Sa104 ⟨by decide, by decide⟩
                  obtain ⟨T105, h105, X105, e105, W105, st105⟩ := stJ X103 hx hZ e103 Ar104 (j := (7 : Int32)) hin105 (g := (mkF m 364 (LS_JsJsJsJsJsIJsRRRIRIuu q0 q1 q2 q3 q4 p5 (36028797018963967 : Int64) o1 b2 b25 (((p5.toUInt32 >>> ((7 : Int32) &&& 31).toUInt32).toInt32) &&& (3 : Int32)) vv (((p5.toUInt32 >>> ((9 : Int32) &&& 31).toUInt32).toInt32) &&& (3 : Int32))) [(.long (1 : Int64)), (.int (7 : Int32)), (.ref b89), (.ref b89)])) rfl rfl (hb hby at_364)
                  have N105 := Fr.snoc X105 N103 g_b89
                  have V105 : Arv Z h105 b89 k89 .long (10 : Int32) [(.long (1 : Int64)), (.long (1 : Int64)), (.long (1 : Int64)), (.long (1 : Int64)), (.long (1 : Int64)), (.long (1 : Int64)), (.long (1 : Int64)), (.long (1 : Int64)), (.long (0 : Int64)), (.long (0 : Int64))] (.long (0 : Int64)) := Arv.set Ar104 qa104 Sa104 Na104 Ha104 Ga104 rfl W105 7 rfl (Nat.le_of_ble_eq_true rfl)
                  refine own_go (B := T105.setTop (mkF m 365 (LS_JsJsJsJsJsIJsRRRIRIuu q0 q1 q2 q3 q4 p5 (36028797018963967 : Int64) o1 b2 b25 (((p5.toUInt32 >>> ((7 : Int32) &&& 31).toUInt32).toInt32) &&& (3 : Int32)) vv (((p5.toUInt32 >>> ((9 : Int32) &&& 31).toUInt32).toInt32) &&& (3 : Int32))) [(.ref b89)])) (fun t k => st105 _ k) ?_
                  refine own_go (B := T105.setTop (mkF m 369 (LS_JsJsJsJsJsIJsRRRIRIuu q0 q1 q2 q3 q4 p5 (36028797018963967 : Int64) o1 b2 b25 (((p5.toUInt32 >>> ((7 : Int32) &&& 31).toUInt32).toInt32) &&& (3 : Int32)) vv (((p5.toUInt32 >>> ((9 : Int32) &&& 31).toUInt32).toInt32) &&& (3 : Int32))) [(.long (1 : Int64)), (.int (8 : Int32)), (.ref b89), (.ref b89)])) (fun t k => ?_) ?_
                  · show Steps p.tables e below (T105.setTop (mkF m 365 (LS_JsJsJsJsJsIJsRRRIRIuu q0 q1 q2 q3 q4 p5 (36028797018963967 : Int64) o1 b2 b25 (((p5.toUInt32 >>> ((7 : Int32) &&& 31).toUInt32).toInt32) &&& (3 : Int32)) vv (((p5.toUInt32 >>> ((9 : Int32) &&& 31).toUInt32).toInt32) &&& (3 : Int32))) [(.ref b89)])) _
                    refine XS.dup X105.here hx rfl (hb hby at_365) rfl rfl ?_
                    show Steps p.tables e below (T105.setTop (mkF m 366 (LS_JsJsJsJsJsIJsRRRIRIuu q0 q1 q2 q3 q4 p5 (36028797018963967 : Int64) o1 b2 b25 (((p5.toUInt32 >>> ((7 : Int32) &&& 31).toUInt32).toInt32) &&& (3 : Int32)) vv (((p5.toUInt32 >>> ((9 : Int32) &&& 31).toUInt32).toInt32) &&& (3 : Int32))) [(.ref b89), (.ref b89)])) _
                    refine XS.bipush X105.here hx rfl (hb hby at_366) ?_
                    show Steps p.tables e below (T105.setTop (mkF m 368 (LS_JsJsJsJsJsIJsRRRIRIuu q0 q1 q2 q3 q4 p5 (36028797018963967 : Int64) o1 b2 b25 (((p5.toUInt32 >>> ((7 : Int32) &&& 31).toUInt32).toInt32) &&& (3 : Int32)) vv (((p5.toUInt32 >>> ((9 : Int32) &&& 31).toUInt32).toInt32) &&& (3 : Int32))) [(.int (8 : Int32)), (.ref b89), (.ref b89)])) _
                    refine XS.lconst X105.here hx rfl (hb hby at_368) ?_
                    exact k
                  obtain ⟨cl106, Ar106, qa106, Sa106, Na106, Ha106, Ga106⟩ := id V105
                  have hin107 : ¬ ((8 : Int32) < 0 ∨ cl106.slots.size ≤ ((8 : Int32)).toNatClampNeg) := inb_of Sa106 ⟨by decide, by decide⟩
                  obtain ⟨T107, h107, X107, e107, W107, st107⟩ := stJ X105 hx hZ e105 Ar106 (j := (8 : Int32)) hin107 (g := (mkF m 369 (LS_JsJsJsJsJsIJsRRRIRIuu q0 q1 q2 q3 q4 p5 (36028797018963967 : Int64) o1 b2 b25 (((p5.toUInt32 >>> ((7 : Int32) &&& 31).toUInt32).toInt32) &&& (3 : Int32)) vv (((p5.toUInt32 >>> ((9 : Int32) &&& 31).toUInt32).toInt32) &&& (3 : Int32))) [(.long (1 : Int64)), (.int (8 : Int32)), (.ref b89), (.ref b89)])) rfl rfl (hb hby at_369)
                  have N107 := Fr.snoc X107 N105 g_b89
                  have V107 : Arv Z h107 b89 k89 .long (10 : Int32) [(.long (1 : Int64)), (.long (1 : Int64)), (.long (1 : Int64)), (.long (1 : Int64)), (.long (1 : Int64)), (.long (1 : Int64)), (.long (1 : Int64)), (.long (1 : Int64)), (.long (1 : Int64)), (.long (0 : Int64))] (.long (0 : Int64)) := Arv.set Ar106 qa106 Sa106 Na106 Ha106 Ga106 rfl W107 8 rfl (Nat.le_of_ble_eq_true rfl)
                  refine own_go (B := T107.setTop (mkF m 370 (LS_JsJsJsJsJsIJsRRRIRIuu q0 q1 q2 q3 q4 p5 (36028797018963967 : Int64) o1 b2 b25 (((p5.toUInt32 >>> ((7 : Int32) &&& 31).toUInt32).toInt32) &&& (3 : Int32)) vv (((p5.toUInt32 >>> ((9 : Int32) &&& 31).toUInt32).toInt32) &&& (3 : Int32))) [(.ref b89)])) (fun t k => st107 _ k) ?_
                  refine own_go (B := T107.setTop (mkF m 374 (LS_JsJsJsJsJsIJsRRRIRIuu q0 q1 q2 q3 q4 p5 (36028797018963967 : Int64) o1 b2 b25 (((p5.toUInt32 >>> ((7 : Int32) &&& 31).toUInt32).toInt32) &&& (3 : Int32)) vv (((p5.toUInt32 >>> ((9 : Int32) &&& 31).toUInt32).toInt32) &&& (3 : Int32))) [(.long (1 : Int64)), (.int (9 : Int32)), (.ref b89), (.ref b89)])) (fun t k => ?_) ?_
                  · show Steps p.tables e below (T107.setTop (mkF m 370 (LS_JsJsJsJsJsIJsRRRIRIuu q0 q1 q2 q3 q4 p5 (36028797018963967 : Int64) o1 b2 b25 (((p5.toUInt32 >>> ((7 : Int32) &&& 31).toUInt32).toInt32) &&& (3 : Int32)) vv (((p5.toUInt32 >>> ((9 : Int32) &&& 31).toUInt32).toInt32) &&& (3 : Int32))) [(.ref b89)])) _
                    refine XS.dup X107.here hx rfl (hb hby at_370) rfl rfl ?_
                    show Steps p.tables e below (T107.setTop (mkF m 371 (LS_JsJsJsJsJsIJsRRRIRIuu q0 q1 q2 q3 q4 p5 (36028797018963967 : Int64) o1 b2 b25 (((p5.toUInt32 >>> ((7 : Int32) &&& 31).toUInt32).toInt32) &&& (3 : Int32)) vv (((p5.toUInt32 >>> ((9 : Int32) &&& 31).toUInt32).toInt32) &&& (3 : Int32))) [(.ref b89), (.ref b89)])) _
                    refine XS.bipush X107.here hx rfl (hb hby at_371) ?_
                    show Steps p.tables e below (T107.setTop (mkF m 373 (LS_JsJsJsJsJsIJsRRRIRIuu q0 q1 q2 q3 q4 p5 (36028797018963967 : Int64) o1 b2 b25 (((p5.toUInt32 >>> ((7 : Int32) &&& 31).toUInt32).toInt32) &&& (3 : Int32)) vv (((p5.toUInt32 >>> ((9 : Int32) &&& 31).toUInt32).toInt32) &&& (3 : Int32))) [(.int (9 : Int32)), (.ref b89), (.ref b89)])) _
                    refine XS.lconst X107.here hx rfl (hb hby at_373) ?_
                    exact k
                  obtain ⟨cl108, Ar108, qa108, Sa108, Na108, Ha108, Ga108⟩ := id V107
                  have hin109 : ¬ ((9 : Int32) < 0 ∨ cl108.slots.size ≤ ((9 : Int32)).toNatClampNeg) := inb_of Sa108 ⟨by decide, by decide⟩
                  obtain ⟨T109, h109, X109, e109, W109, st109⟩ := stJ X107 hx hZ e107 Ar108 (j := (9 : Int32)) hin109 (g := (mkF m 374 (LS_JsJsJsJsJsIJsRRRIRIuu q0 q1 q2 q3 q4 p5 (36028797018963967 : Int64) o1 b2 b25 (((p5.toUInt32 >>> ((7 : Int32) &&& 31).toUInt32).toInt32) &&& (3 : Int32)) vv (((p5.toUInt32 >>> ((9 : Int32) &&& 31).toUInt32).toInt32) &&& (3 : Int32))) [(.long (1 : Int64)), (.int (9 : Int32)), (.ref b89), (.ref b89)])) rfl rfl (hb hby at_374)
                  have N109 := Fr.snoc X109 N107 g_b89
                  have V109 : Arv Z h109 b89 k89 .long (10 : Int32) [(.long (1 : Int64)), (.long (1 : Int64)), (.long (1 : Int64)), (.long (1 : Int64)), (.long (1 : Int64)), (.long (1 : Int64)), (.long (1 : Int64)), (.long (1 : Int64)), (.long (1 : Int64)), (.long (1 : Int64))] (.long (0 : Int64)) := Arv.set Ar108 qa108 Sa108 Na108 Ha108 Ga108 rfl W109 9 rfl (Nat.le_of_ble_eq_true rfl)
                  refine own_go (B := T109.setTop (mkF m 375 (LS_JsJsJsJsJsIJsRRRIRIuu q0 q1 q2 q3 q4 p5 (36028797018963967 : Int64) o1 b2 b25 (((p5.toUInt32 >>> ((7 : Int32) &&& 31).toUInt32).toInt32) &&& (3 : Int32)) vv (((p5.toUInt32 >>> ((9 : Int32) &&& 31).toUInt32).toInt32) &&& (3 : Int32))) [(.ref b89)])) (fun t k => st109 _ k) ?_
                  refine own_go (B := T109.setTop (mkF m 377 (LS_JsJsJsJsJsIJsRRRIRIRu q0 q1 q2 q3 q4 p5 (36028797018963967 : Int64) o1 b2 b25 (((p5.toUInt32 >>> ((7 : Int32) &&& 31).toUInt32).toInt32) &&& (3 : Int32)) vv (((p5.toUInt32 >>> ((9 : Int32) &&& 31).toUInt32).toInt32) &&& (3 : Int32)) b89) [])) (fun t k => ?_) ?_
                  · show Steps p.tables e below (T109.setTop (mkF m 375 (LS_JsJsJsJsJsIJsRRRIRIuu q0 q1 q2 q3 q4 p5 (36028797018963967 : Int64) o1 b2 b25 (((p5.toUInt32 >>> ((7 : Int32) &&& 31).toUInt32).toInt32) &&& (3 : Int32)) vv (((p5.toUInt32 >>> ((9 : Int32) &&& 31).toUInt32).toInt32) &&& (3 : Int32))) [(.ref b89)])) _
                    refine XS.astore X109.here hx rfl (hb hby at_375) rfl rfl (l' := (LS_JsJsJsJsJsIJsRRRIRIRu q0 q1 q2 q3 q4 p5 (36028797018963967 : Int64) o1 b2 b25 (((p5.toUInt32 >>> ((7 : Int32) &&& 31).toUInt32).toInt32) &&& (3 : Int32)) vv (((p5.toUInt32 >>> ((9 : Int32) &&& 31).toUInt32).toInt32) &&& (3 : Int32)) b89)) rfl ?_
                    exact k
                  rcases own_and3 ((p5.toUInt32 >>> ((9 : Int32) &&& 31).toUInt32).toInt32) with hk110 | hk110 | hk110 | hk110
                  · rw [hk110]
                    have Vv88_v112 := Vv88.ext E89
                    have ne114 : vv ≠ b89 := Nat.ne_of_lt (Nat.lt_of_lt_of_le Vv88.lt (Nat.le_of_eq g89.symm))
                    have Vv88_v113 := Vv88_v112.other W91 ne114
                    have Vv88_v115 := Vv88_v113.other W93 ne114
                    have Vv88_v116 := Vv88_v115.other W95 ne114
                    have Vv88_v117 := Vv88_v116.other W97 ne114
                    have Vv88_v118 := Vv88_v117.other W99 ne114
                    have Vv88_v119 := Vv88_v118.other W101 ne114
                    have Vv88_v120 := Vv88_v119.other W103 ne114
                    have Vv88_v121 := Vv88_v120.other W105 ne114
                    have Vv88_v122 := Vv88_v121.other W107 ne114
                    have Vv88_v123 := Vv88_v122.other W109 ne114
                    obtain ⟨cl111, Ar111, qa111, Sa111, Na111, Ha111, Ga111⟩ := id Vv88_v123
                    have hin124 : ¬ ((0 : Int32) < 0 ∨ cl111.slots.size ≤ ((0 : Int32)).toNatClampNeg) := inb_of Sa111 ⟨by decide, by decide⟩
                    have hat124 : cl111.slots[((0 : Int32)).toNatClampNeg]? = some (.long v0) := Has.at Ha111 hin124 rfl
                    refine own_go (B := T109.setTop (mkF m 385 (LS_JsJsJsJsJsIJsRRRIRIRu q0 q1 q2 q3 q4 p5 (36028797018963967 : Int64) o1 b2 b25 (((p5.toUInt32 >>> ((7 : Int32) &&& 31).toUInt32).toInt32) &&& (3 : Int32)) vv (0 : Int32) b89) [(.long v0), (.int (0 : Int32)), (.ref b89)])) (fun t k => ?_) ?_
                    · show Steps p.tables e below (T109.setTop (mkF m 377 (LS_JsJsJsJsJsIJsRRRIRIRu q0 q1 q2 q3 q4 p5 (36028797018963967 : Int64) o1 b2 b25 (((p5.toUInt32 >>> ((7 : Int32) &&& 31).toUInt32).toInt32) &&& (3 : Int32)) vv (0 : Int32) b89) [])) _
                      refine XS.aload X109.here hx rfl (hb hby at_377) rfl rfl ?_
                      show Steps p.tables e below (T109.setTop (mkF m 379 (LS_JsJsJsJsJsIJsRRRIRIRu q0 q1 q2 q3 q4 p5 (36028797018963967 : Int64) o1 b2 b25 (((p5.toUInt32 >>> ((7 : Int32) &&& 31).toUInt32).toInt32) &&& (3 : Int32)) vv (0 : Int32) b89) [(.ref b89)])) _
                      refine XS.iload X109.here hx rfl (hb hby at_379) rfl ?_
                      show Steps p.tables e below (T109.setTop (mkF m 381 (LS_JsJsJsJsJsIJsRRRIRIRu q0 q1 q2 q3 q4 p5 (36028797018963967 : Int64) o1 b2 b25 (((p5.toUInt32 >>> ((7 : Int32) &&& 31).toUInt32).toInt32) &&& (3 : Int32)) vv (0 : Int32) b89) [(.int (0 : Int32)), (.ref b89)])) _
                      refine XS.aload X109.here hx rfl (hb hby at_381) rfl rfl ?_
                      show Steps p.tables e below (T109.setTop (mkF m 383 (LS_JsJsJsJsJsIJsRRRIRIRu q0 q1 q2 q3 q4 p5 (36028797018963967 : Int64) o1 b2 b25 (((p5.toUInt32 >>> ((7 : Int32) &&& 31).toUInt32).toInt32) &&& (3 : Int32)) vv (0 : Int32) b89) [(.ref vv), (.int (0 : Int32)), (.ref b89)])) _
                      refine XS.iconst X109.here hx rfl (hb hby at_383) ?_
                      show Steps p.tables e below (T109.setTop (mkF m 384 (LS_JsJsJsJsJsIJsRRRIRIRu q0 q1 q2 q3 q4 p5 (36028797018963967 : Int64) o1 b2 b25 (((p5.toUInt32 >>> ((7 : Int32) &&& 31).toUInt32).toInt32) &&& (3 : Int32)) vv (0 : Int32) b89) [(.int (0 : Int32)), (.ref vv), (.int (0 : Int32)), (.ref b89)])) _
                      refine X109.laload hx (j := (0 : Int32)) (v := (.long v0)) (by rw [e109]; exact Ar111.1) (State.isArrayOf_alike hZ.alike Ar111.2.1) Ar111.2.2 hin124 hat124 (g := (mkF m 384 (LS_JsJsJsJsJsIJsRRRIRIRu q0 q1 q2 q3 q4 p5 (36028797018963967 : Int64) o1 b2 b25 (((p5.toUInt32 >>> ((7 : Int32) &&& 31).toUInt32).toInt32) &&& (3 : Int32)) vv (0 : Int32) b89) [(.int (0 : Int32)), (.ref vv), (.int (0 : Int32)), (.ref b89)])) rfl rfl (hb hby at_384) _ ?_
                      exact k
                    obtain ⟨cl125, Ar125, qa125, Sa125, Na125, Ha125, Ga125⟩ := id V109
                    have hin126 : ¬ ((0 : Int32) < 0 ∨ cl125.slots.size ≤ ((0 : Int32)).toNatClampNeg) := inb_of Sa125 ⟨by decide, by decide⟩
                    obtain ⟨T126, h126, X126, e126, W126, st126⟩ := stJ X109 hx hZ e109 Ar125 (j := (0 : Int32)) hin126 (g := (mkF m 385 (LS_JsJsJsJsJsIJsRRRIRIRu q0 q1 q2 q3 q4 p5 (36028797018963967 : Int64) o1 b2 b25 (((p5.toUInt32 >>> ((7 : Int32) &&& 31).toUInt32).toInt32) &&& (3 : Int32)) vv (0 : Int32) b89) [(.long v0), (.int (0 : Int32)), (.ref b89)])) rfl rfl (hb hby at_385)
                    have N126 := Fr.snoc X126 N109 g_b89
                    have V126 : Arv Z h126 b89 k89 .long (10 : Int32) [(.long v0), (.long (1 : Int64)), (.long (1 : Int64)), (.long (1 : Int64)), (.long (1 : Int64)), (.long (1 : Int64)), (.long (1 : Int64)), (.long (1 : Int64)), (.long (1 : Int64)), (.long (1 : Int64))] (.long (0 : Int64)) := Arv.set Ar125 qa125 Sa125 Na125 Ha125 Ga125 rfl W126 0 rfl (Nat.le_of_ble_eq_true rfl)
                    refine own_go (B := T126.setTop (mkF m 386 (LS_JsJsJsJsJsIJsRRRIRIRu q0 q1 q2 q3 q4 p5 (36028797018963967 : Int64) o1 b2 b25 (((p5.toUInt32 >>> ((7 : Int32) &&& 31).toUInt32).toInt32) &&& (3 : Int32)) vv (0 : Int32) b89) [])) (fun t k => st126 _ k) ?_
                    have Vv88_v128 := Vv88_v112.other W91 ne114
                    have Vv88_v129 := Vv88_v128.other W93 ne114
                    have Vv88_v130 := Vv88_v129.other W95 ne114
                    have Vv88_v131 := Vv88_v130.other W97 ne114
                    have Vv88_v132 := Vv88_v131.other W99 ne114
                    have Vv88_v133 := Vv88_v132.other W101 ne114
                    have Vv88_v134 := Vv88_v133.other W103 ne114
                    have Vv88_v135 := Vv88_v134.other W105 ne114
                    have Vv88_v136 := Vv88_v135.other W107 ne114
                    have Vv88_v137 := Vv88_v136.other W109 ne114
                    have Vv88_v138 := Vv88_v137.other W126 ne114
                    obtain ⟨cl127, Ar127, qa127, Sa127, Na127, Ha127, Ga127⟩ := id Vv88_v138
                    have hin139 : ¬ ((1 : Int32) < 0 ∨ cl127.slots.size ≤ ((1 : Int32)).toNatClampNeg) := inb_of Sa127 ⟨by decide, by decide⟩
                    have hat139 : cl127.slots[((1 : Int32)).toNatClampNeg]? = some (.long v1) := Has.at Ha127 hin139 rfl
                    refine own_go (B := T126.setTop (mkF m 396 (LS_JsJsJsJsJsIJsRRRIRIRu q0 q1 q2 q3 q4 p5 (36028797018963967 : Int64) o1 b2 b25 (((p5.toUInt32 >>> ((7 : Int32) &&& 31).toUInt32).toInt32) &&& (3 : Int32)) vv (0 : Int32) b89) [(.long v1), (.int (1 : Int32)), (.ref b89)])) (fun t k => ?_) ?_
                    · show Steps p.tables e below (T126.setTop (mkF m 386 (LS_JsJsJsJsJsIJsRRRIRIRu q0 q1 q2 q3 q4 p5 (36028797018963967 : Int64) o1 b2 b25 (((p5.toUInt32 >>> ((7 : Int32) &&& 31).toUInt32).toInt32) &&& (3 : Int32)) vv (0 : Int32) b89) [])) _
                      refine XS.aload X126.here hx rfl (hb hby at_386) rfl rfl ?_
                      show Steps p.tables e below (T126.setTop (mkF m 388 (LS_JsJsJsJsJsIJsRRRIRIRu q0 q1 q2 q3 q4 p5 (36028797018963967 : Int64) o1 b2 b25 (((p5.toUInt32 >>> ((7 : Int32) &&& 31).toUInt32).toInt32) &&& (3 : Int32)) vv (0 : Int32) b89) [(.ref b89)])) _
                      refine XS.iload X126.here hx rfl (hb hby at_388) rfl ?_
                      show Steps p.tables e below (T126.setTop (mkF m 390 (LS_JsJsJsJsJsIJsRRRIRIRu q0 q1 q2 q3 q4 p5 (36028797018963967 : Int64) o1 b2 b25 (((p5.toUInt32 >>> ((7 : Int32) &&& 31).toUInt32).toInt32) &&& (3 : Int32)) vv (0 : Int32) b89) [(.int (0 : Int32)), (.ref b89)])) _
                      refine XS.iconst X126.here hx rfl (hb hby at_390) ?_
                      show Steps p.tables e below (T126.setTop (mkF m 391 (LS_JsJsJsJsJsIJsRRRIRIRu q0 q1 q2 q3 q4 p5 (36028797018963967 : Int64) o1 b2 b25 (((p5.toUInt32 >>> ((7 : Int32) &&& 31).toUInt32).toInt32) &&& (3 : Int32)) vv (0 : Int32) b89) [(.int (1 : Int32)), (.int (0 : Int32)), (.ref b89)])) _
                      refine XS.iadd X126.here hx rfl (hb hby at_391) rfl ?_
                      rw [show ((0 : Int32) + (1 : Int32)) = (1 : Int32) from by decide]
                      show Steps p.tables e below (T126.setTop (mkF m 392 (LS_JsJsJsJsJsIJsRRRIRIRu q0 q1 q2 q3 q4 p5 (36028797018963967 : Int64) o1 b2 b25 (((p5.toUInt32 >>> ((7 : Int32) &&& 31).toUInt32).toInt32) &&& (3 : Int32)) vv (0 : Int32) b89) [(.int (1 : Int32)), (.ref b89)])) _
                      refine XS.aload X126.here hx rfl (hb hby at_392) rfl rfl ?_
                      show Steps p.tables e below (T126.setTop (mkF m 394 (LS_JsJsJsJsJsIJsRRRIRIRu q0 q1 q2 q3 q4 p5 (36028797018963967 : Int64) o1 b2 b25 (((p5.toUInt32 >>> ((7 : Int32) &&& 31).toUInt32).toInt32) &&& (3 : Int32)) vv (0 : Int32) b89) [(.ref vv), (.int (1 : Int32)), (.ref b89)])) _
                      refine XS.iconst X126.here hx rfl (hb hby at_394) ?_
                      show Steps p.tables e below (T126.setTop (mkF m 395 (LS_JsJsJsJsJsIJsRRRIRIRu q0 q1 q2 q3 q4 p5 (36028797018963967 : Int64) o1 b2 b25 (((p5.toUInt32 >>> ((7 : Int32) &&& 31).toUInt32).toInt32) &&& (3 : Int32)) vv (0 : Int32) b89) [(.int (1 : Int32)), (.ref vv), (.int (1 : Int32)), (.ref b89)])) _
                      refine X126.laload hx (j := (1 : Int32)) (v := (.long v1)) (by rw [e126]; exact Ar127.1) (State.isArrayOf_alike hZ.alike Ar127.2.1) Ar127.2.2 hin139 hat139 (g := (mkF m 395 (LS_JsJsJsJsJsIJsRRRIRIRu q0 q1 q2 q3 q4 p5 (36028797018963967 : Int64) o1 b2 b25 (((p5.toUInt32 >>> ((7 : Int32) &&& 31).toUInt32).toInt32) &&& (3 : Int32)) vv (0 : Int32) b89) [(.int (1 : Int32)), (.ref vv), (.int (1 : Int32)), (.ref b89)])) rfl rfl (hb hby at_395) _ ?_
                      exact k
                    obtain ⟨cl140, Ar140, qa140, Sa140, Na140, Ha140, Ga140⟩ := id V126
                    have hin141 : ¬ ((1 : Int32) < 0 ∨ cl140.slots.size ≤ ((1 : Int32)).toNatClampNeg) := inb_of Sa140 ⟨by decide, by decide⟩
                    obtain ⟨T141, h141, X141, e141, W141, st141⟩ := stJ X126 hx hZ e126 Ar140 (j := (1 : Int32)) hin141 (g := (mkF m 396 (LS_JsJsJsJsJsIJsRRRIRIRu q0 q1 q2 q3 q4 p5 (36028797018963967 : Int64) o1 b2 b25 (((p5.toUInt32 >>> ((7 : Int32) &&& 31).toUInt32).toInt32) &&& (3 : Int32)) vv (0 : Int32) b89) [(.long v1), (.int (1 : Int32)), (.ref b89)])) rfl rfl (hb hby at_396)
                    have N141 := Fr.snoc X141 N126 g_b89
                    have V141 : Arv Z h141 b89 k89 .long (10 : Int32) [(.long v0), (.long v1), (.long (1 : Int64)), (.long (1 : Int64)), (.long (1 : Int64)), (.long (1 : Int64)), (.long (1 : Int64)), (.long (1 : Int64)), (.long (1 : Int64)), (.long (1 : Int64))] (.long (0 : Int64)) := Arv.set Ar140 qa140 Sa140 Na140 Ha140 Ga140 rfl W141 1 rfl (Nat.le_of_ble_eq_true rfl)
                    refine own_go (B := T141.setTop (mkF m 397 (LS_JsJsJsJsJsIJsRRRIRIRu q0 q1 q2 q3 q4 p5 (36028797018963967 : Int64) o1 b2 b25 (((p5.toUInt32 >>> ((7 : Int32) &&& 31).toUInt32).toInt32) &&& (3 : Int32)) vv (0 : Int32) b89) [])) (fun t k => st141 _ k) ?_
                    have Vv88_v143 := Vv88_v138.other W141 ne114
                    obtain ⟨cl142, Ar142, qa142, Sa142, Na142, Ha142, Ga142⟩ := id Vv88_v143
                    have hin144 : ¬ ((2 : Int32) < 0 ∨ cl142.slots.size ≤ ((2 : Int32)).toNatClampNeg) := inb_of Sa142 ⟨by decide, by decide⟩
                    have hat144 : cl142.slots[((2 : Int32)).toNatClampNeg]? = some (.long v2) := Has.at Ha142 hin144 rfl
                    refine own_go (B := T141.setTop (mkF m 407 (LS_JsJsJsJsJsIJsRRRIRIRu q0 q1 q2 q3 q4 p5 (36028797018963967 : Int64) o1 b2 b25 (((p5.toUInt32 >>> ((7 : Int32) &&& 31).toUInt32).toInt32) &&& (3 : Int32)) vv (0 : Int32) b89) [(.long v2), (.int (2 : Int32)), (.ref b89)])) (fun t k => ?_) ?_
                    · show Steps p.tables e below (T141.setTop (mkF m 397 (LS_JsJsJsJsJsIJsRRRIRIRu q0 q1 q2 q3 q4 p5 (36028797018963967 : Int64) o1 b2 b25 (((p5.toUInt32 >>> ((7 : Int32) &&& 31).toUInt32).toInt32) &&& (3 : Int32)) vv (0 : Int32) b89) [])) _
                      refine XS.aload X141.here hx rfl (hb hby at_397) rfl rfl ?_
                      show Steps p.tables e below (T141.setTop (mkF m 399 (LS_JsJsJsJsJsIJsRRRIRIRu q0 q1 q2 q3 q4 p5 (36028797018963967 : Int64) o1 b2 b25 (((p5.toUInt32 >>> ((7 : Int32) &&& 31).toUInt32).toInt32) &&& (3 : Int32)) vv (0 : Int32) b89) [(.ref b89)])) _
                      refine XS.iload X141.here hx rfl (hb hby at_399) rfl ?_
                      show Steps p.tables e below (T141.setTop (mkF m 401 (LS_JsJsJsJsJsIJsRRRIRIRu q0 q1 q2 q3 q4 p5 (36028797018963967 : Int64) o1 b2 b25 (((p5.toUInt32 >>> ((7 : Int32) &&& 31).toUInt32).toInt32) &&& (3 : Int32)) vv (0 : Int32) b89) [(.int (0 : Int32)), (.ref b89)])) _
                      refine XS.iconst X141.here hx rfl (hb hby at_401) ?_
                      show Steps p.tables e below (T141.setTop (mkF m 402 (LS_JsJsJsJsJsIJsRRRIRIRu q0 q1 q2 q3 q4 p5 (36028797018963967 : Int64) o1 b2 b25 (((p5.toUInt32 >>> ((7 : Int32) &&& 31).toUInt32).toInt32) &&& (3 : Int32)) vv (0 : Int32) b89) [(.int (2 : Int32)), (.int (0 : Int32)), (.ref b89)])) _
                      refine XS.iadd X141.here hx rfl (hb hby at_402) rfl ?_
                      rw [show ((0 : Int32) + (2 : Int32)) = (2 : Int32) from by decide]
                      show Steps p.tables e below (T141.setTop (mkF m 403 (LS_JsJsJsJsJsIJsRRRIRIRu q0 q1 q2 q3 q4 p5 (36028797018963967 : Int64) o1 b2 b25 (((p5.toUInt32 >>> ((7 : Int32) &&& 31).toUInt32).toInt32) &&& (3 : Int32)) vv (0 : Int32) b89) [(.int (2 : Int32)), (.ref b89)])) _
                      refine XS.aload X141.here hx rfl (hb hby at_403) rfl rfl ?_
                      show Steps p.tables e below (T141.setTop (mkF m 405 (LS_JsJsJsJsJsIJsRRRIRIRu q0 q1 q2 q3 q4 p5 (36028797018963967 : Int64) o1 b2 b25 (((p5.toUInt32 >>> ((7 : Int32) &&& 31).toUInt32).toInt32) &&& (3 : Int32)) vv (0 : Int32) b89) [(.ref vv), (.int (2 : Int32)), (.ref b89)])) _
                      refine XS.iconst X141.here hx rfl (hb hby at_405) ?_
                      show Steps p.tables e below (T141.setTop (mkF m 406 (LS_JsJsJsJsJsIJsRRRIRIRu q0 q1 q2 q3 q4 p5 (36028797018963967 : Int64) o1 b2 b25 (((p5.toUInt32 >>> ((7 : Int32) &&& 31).toUInt32).toInt32) &&& (3 : Int32)) vv (0 : Int32) b89) [(.int (2 : Int32)), (.ref vv), (.int (2 : Int32)), (.ref b89)])) _
                      refine X141.laload hx (j := (2 : Int32)) (v := (.long v2)) (by rw [e141]; exact Ar142.1) (State.isArrayOf_alike hZ.alike Ar142.2.1) Ar142.2.2 hin144 hat144 (g := (mkF m 406 (LS_JsJsJsJsJsIJsRRRIRIRu q0 q1 q2 q3 q4 p5 (36028797018963967 : Int64) o1 b2 b25 (((p5.toUInt32 >>> ((7 : Int32) &&& 31).toUInt32).toInt32) &&& (3 : Int32)) vv (0 : Int32) b89) [(.int (2 : Int32)), (.ref vv), (.int (2 : Int32)), (.ref b89)])) rfl rfl (hb hby at_406) _ ?_
                      exact k
                    obtain ⟨cl145, Ar145, qa145, Sa145, Na145, Ha145, Ga145⟩ := id V141
                    have hin146 : ¬ ((2 : Int32) < 0 ∨ cl145.slots.size ≤ ((2 : Int32)).toNatClampNeg) := inb_of Sa145 ⟨by decide, by decide⟩
                    obtain ⟨T146, h146, X146, e146, W146, st146⟩ := stJ X141 hx hZ e141 Ar145 (j := (2 : Int32)) hin146 (g := (mkF m 407 (LS_JsJsJsJsJsIJsRRRIRIRu q0 q1 q2 q3 q4 p5 (36028797018963967 : Int64) o1 b2 b25 (((p5.toUInt32 >>> ((7 : Int32) &&& 31).toUInt32).toInt32) &&& (3 : Int32)) vv (0 : Int32) b89) [(.long v2), (.int (2 : Int32)), (.ref b89)])) rfl rfl (hb hby at_407)
                    have N146 := Fr.snoc X146 N141 g_b89
                    have V146 : Arv Z h146 b89 k89 .long (10 : Int32) [(.long v0), (.long v1), (.long v2), (.long (1 : Int64)), (.long (1 : Int64)), (.long (1 : Int64)), (.long (1 : Int64)), (.long (1 : Int64)), (.long (1 : Int64)), (.long (1 : Int64))] (.long (0 : Int64)) := Arv.set Ar145 qa145 Sa145 Na145 Ha145 Ga145 rfl W146 2 rfl (Nat.le_of_ble_eq_true rfl)
                    refine own_go (B := T146.setTop (mkF m 408 (LS_JsJsJsJsJsIJsRRRIRIRu q0 q1 q2 q3 q4 p5 (36028797018963967 : Int64) o1 b2 b25 (((p5.toUInt32 >>> ((7 : Int32) &&& 31).toUInt32).toInt32) &&& (3 : Int32)) vv (0 : Int32) b89) [])) (fun t k => st146 _ k) ?_
                    have Vv88_v148 := Vv88_v143.other W146 ne114
                    obtain ⟨cl147, Ar147, qa147, Sa147, Na147, Ha147, Ga147⟩ := id Vv88_v148
                    have hin149 : ¬ ((3 : Int32) < 0 ∨ cl147.slots.size ≤ ((3 : Int32)).toNatClampNeg) := inb_of Sa147 ⟨by decide, by decide⟩
                    have hat149 : cl147.slots[((3 : Int32)).toNatClampNeg]? = some (.long v3) := Has.at Ha147 hin149 rfl
                    refine own_go (B := T146.setTop (mkF m 418 (LS_JsJsJsJsJsIJsRRRIRIRu q0 q1 q2 q3 q4 p5 (36028797018963967 : Int64) o1 b2 b25 (((p5.toUInt32 >>> ((7 : Int32) &&& 31).toUInt32).toInt32) &&& (3 : Int32)) vv (0 : Int32) b89) [(.long v3), (.int (3 : Int32)), (.ref b89)])) (fun t k => ?_) ?_
                    · show Steps p.tables e below (T146.setTop (mkF m 408 (LS_JsJsJsJsJsIJsRRRIRIRu q0 q1 q2 q3 q4 p5 (36028797018963967 : Int64) o1 b2 b25 (((p5.toUInt32 >>> ((7 : Int32) &&& 31).toUInt32).toInt32) &&& (3 : Int32)) vv (0 : Int32) b89) [])) _
                      refine XS.aload X146.here hx rfl (hb hby at_408) rfl rfl ?_
                      show Steps p.tables e below (T146.setTop (mkF m 410 (LS_JsJsJsJsJsIJsRRRIRIRu q0 q1 q2 q3 q4 p5 (36028797018963967 : Int64) o1 b2 b25 (((p5.toUInt32 >>> ((7 : Int32) &&& 31).toUInt32).toInt32) &&& (3 : Int32)) vv (0 : Int32) b89) [(.ref b89)])) _
                      refine XS.iload X146.here hx rfl (hb hby at_410) rfl ?_
                      show Steps p.tables e below (T146.setTop (mkF m 412 (LS_JsJsJsJsJsIJsRRRIRIRu q0 q1 q2 q3 q4 p5 (36028797018963967 : Int64) o1 b2 b25 (((p5.toUInt32 >>> ((7 : Int32) &&& 31).toUInt32).toInt32) &&& (3 : Int32)) vv (0 : Int32) b89) [(.int (0 : Int32)), (.ref b89)])) _
                      refine XS.iconst X146.here hx rfl (hb hby at_412) ?_
                      show Steps p.tables e below (T146.setTop (mkF m 413 (LS_JsJsJsJsJsIJsRRRIRIRu q0 q1 q2 q3 q4 p5 (36028797018963967 : Int64) o1 b2 b25 (((p5.toUInt32 >>> ((7 : Int32) &&& 31).toUInt32).toInt32) &&& (3 : Int32)) vv (0 : Int32) b89) [(.int (3 : Int32)), (.int (0 : Int32)), (.ref b89)])) _
                      refine XS.iadd X146.here hx rfl (hb hby at_413) rfl ?_
                      rw [show ((0 : Int32) + (3 : Int32)) = (3 : Int32) from by decide]
                      show Steps p.tables e below (T146.setTop (mkF m 414 (LS_JsJsJsJsJsIJsRRRIRIRu q0 q1 q2 q3 q4 p5 (36028797018963967 : Int64) o1 b2 b25 (((p5.toUInt32 >>> ((7 : Int32) &&& 31).toUInt32).toInt32) &&& (3 : Int32)) vv (0 : Int32) b89) [(.int (3 : Int32)), (.ref b89)])) _
                      refine XS.aload X146.here hx rfl (hb hby at_414) rfl rfl ?_
                      show Steps p.tables e below (T146.setTop (mkF m 416 (LS_JsJsJsJsJsIJsRRRIRIRu q0 q1 q2 q3 q4 p5 (36028797018963967 : Int64) o1 b2 b25 (((p5.toUInt32 >>> ((7 : Int32) &&& 31).toUInt32).toInt32) &&& (3 : Int32)) vv (0 : Int32) b89) [(.ref vv), (.int (3 : Int32)), (.ref b89)])) _
                      refine XS.iconst X146.here hx rfl (hb hby at_416) ?_
                      show Steps p.tables e below (T146.setTop (mkF m 417 (LS_JsJsJsJsJsIJsRRRIRIRu q0 q1 q2 q3 q4 p5 (36028797018963967 : Int64) o1 b2 b25 (((p5.toUInt32 >>> ((7 : Int32) &&& 31).toUInt32).toInt32) &&& (3 : Int32)) vv (0 : Int32) b89) [(.int (3 : Int32)), (.ref vv), (.int (3 : Int32)), (.ref b89)])) _
                      refine X146.laload hx (j := (3 : Int32)) (v := (.long v3)) (by rw [e146]; exact Ar147.1) (State.isArrayOf_alike hZ.alike Ar147.2.1) Ar147.2.2 hin149 hat149 (g := (mkF m 417 (LS_JsJsJsJsJsIJsRRRIRIRu q0 q1 q2 q3 q4 p5 (36028797018963967 : Int64) o1 b2 b25 (((p5.toUInt32 >>> ((7 : Int32) &&& 31).toUInt32).toInt32) &&& (3 : Int32)) vv (0 : Int32) b89) [(.int (3 : Int32)), (.ref vv), (.int (3 : Int32)), (.ref b89)])) rfl rfl (hb hby at_417) _ ?_
                      exact k
                    obtain ⟨cl150, Ar150, qa150, Sa150, Na150, Ha150, Ga150⟩ := id V146
                    have hin151 : ¬ ((3 : Int32) < 0 ∨ cl150.slots.size ≤ ((3 : Int32)).toNatClampNeg) := inb_of Sa150 ⟨by decide, by decide⟩
                    obtain ⟨T151, h151, X151, e151, W151, st151⟩ := stJ X146 hx hZ e146 Ar150 (j := (3 : Int32)) hin151 (g := (mkF m 418 (LS_JsJsJsJsJsIJsRRRIRIRu q0 q1 q2 q3 q4 p5 (36028797018963967 : Int64) o1 b2 b25 (((p5.toUInt32 >>> ((7 : Int32) &&& 31).toUInt32).toInt32) &&& (3 : Int32)) vv (0 : Int32) b89) [(.long v3), (.int (3 : Int32)), (.ref b89)])) rfl rfl (hb hby at_418)
                    have N151 := Fr.snoc X151 N146 g_b89
                    have V151 : Arv Z h151 b89 k89 .long (10 : Int32) [(.long v0), (.long v1), (.long v2), (.long v3), (.long (1 : Int64)), (.long (1 : Int64)), (.long (1 : Int64)), (.long (1 : Int64)), (.long (1 : Int64)), (.long (1 : Int64))] (.long (0 : Int64)) := Arv.set Ar150 qa150 Sa150 Na150 Ha150 Ga150 rfl W151 3 rfl (Nat.le_of_ble_eq_true rfl)
                    refine own_go (B := T151.setTop (mkF m 419 (LS_JsJsJsJsJsIJsRRRIRIRu q0 q1 q2 q3 q4 p5 (36028797018963967 : Int64) o1 b2 b25 (((p5.toUInt32 >>> ((7 : Int32) &&& 31).toUInt32).toInt32) &&& (3 : Int32)) vv (0 : Int32) b89) [])) (fun t k => st151 _ k) ?_
                    have Vv88_v153 := Vv88_v148.other W151 ne114
                    obtain ⟨cl152, Ar152, qa152, Sa152, Na152, Ha152, Ga152⟩ := id Vv88_v153
                    have hin154 : ¬ ((4 : Int32) < 0 ∨ cl152.slots.size ≤ ((4 : Int32)).toNatClampNeg) := inb_of Sa152 ⟨by decide, by decide⟩
                    have hat154 : cl152.slots[((4 : Int32)).toNatClampNeg]? = some (.long v4) := Has.at Ha152 hin154 rfl
                    refine own_go (B := T151.setTop (mkF m 429 (LS_JsJsJsJsJsIJsRRRIRIRu q0 q1 q2 q3 q4 p5 (36028797018963967 : Int64) o1 b2 b25 (((p5.toUInt32 >>> ((7 : Int32) &&& 31).toUInt32).toInt32) &&& (3 : Int32)) vv (0 : Int32) b89) [(.long v4), (.int (4 : Int32)), (.ref b89)])) (fun t k => ?_) ?_
                    · show Steps p.tables e below (T151.setTop (mkF m 419 (LS_JsJsJsJsJsIJsRRRIRIRu q0 q1 q2 q3 q4 p5 (36028797018963967 : Int64) o1 b2 b25 (((p5.toUInt32 >>> ((7 : Int32) &&& 31).toUInt32).toInt32) &&& (3 : Int32)) vv (0 : Int32) b89) [])) _
                      refine XS.aload X151.here hx rfl (hb hby at_419) rfl rfl ?_
                      show Steps p.tables e below (T151.setTop (mkF m 421 (LS_JsJsJsJsJsIJsRRRIRIRu q0 q1 q2 q3 q4 p5 (36028797018963967 : Int64) o1 b2 b25 (((p5.toUInt32 >>> ((7 : Int32) &&& 31).toUInt32).toInt32) &&& (3 : Int32)) vv (0 : Int32) b89) [(.ref b89)])) _
                      refine XS.iload X151.here hx rfl (hb hby at_421) rfl ?_
                      show Steps p.tables e below (T151.setTop (mkF m 423 (LS_JsJsJsJsJsIJsRRRIRIRu q0 q1 q2 q3 q4 p5 (36028797018963967 : Int64) o1 b2 b25 (((p5.toUInt32 >>> ((7 : Int32) &&& 31).toUInt32).toInt32) &&& (3 : Int32)) vv (0 : Int32) b89) [(.int (0 : Int32)), (.ref b89)])) _
                      refine XS.iconst X151.here hx rfl (hb hby at_423) ?_
                      show Steps p.tables e below (T151.setTop (mkF m 424 (LS_JsJsJsJsJsIJsRRRIRIRu q0 q1 q2 q3 q4 p5 (36028797018963967 : Int64) o1 b2 b25 (((p5.toUInt32 >>> ((7 : Int32) &&& 31).toUInt32).toInt32) &&& (3 : Int32)) vv (0 : Int32) b89) [(.int (4 : Int32)), (.int (0 : Int32)), (.ref b89)])) _
                      refine XS.iadd X151.here hx rfl (hb hby at_424) rfl ?_
                      rw [show ((0 : Int32) + (4 : Int32)) = (4 : Int32) from by decide]
                      show Steps p.tables e below (T151.setTop (mkF m 425 (LS_JsJsJsJsJsIJsRRRIRIRu q0 q1 q2 q3 q4 p5 (36028797018963967 : Int64) o1 b2 b25 (((p5.toUInt32 >>> ((7 : Int32) &&& 31).toUInt32).toInt32) &&& (3 : Int32)) vv (0 : Int32) b89) [(.int (4 : Int32)), (.ref b89)])) _
                      refine XS.aload X151.here hx rfl (hb hby at_425) rfl rfl ?_
                      show Steps p.tables e below (T151.setTop (mkF m 427 (LS_JsJsJsJsJsIJsRRRIRIRu q0 q1 q2 q3 q4 p5 (36028797018963967 : Int64) o1 b2 b25 (((p5.toUInt32 >>> ((7 : Int32) &&& 31).toUInt32).toInt32) &&& (3 : Int32)) vv (0 : Int32) b89) [(.ref vv), (.int (4 : Int32)), (.ref b89)])) _
                      refine XS.iconst X151.here hx rfl (hb hby at_427) ?_
                      show Steps p.tables e below (T151.setTop (mkF m 428 (LS_JsJsJsJsJsIJsRRRIRIRu q0 q1 q2 q3 q4 p5 (36028797018963967 : Int64) o1 b2 b25 (((p5.toUInt32 >>> ((7 : Int32) &&& 31).toUInt32).toInt32) &&& (3 : Int32)) vv (0 : Int32) b89) [(.int (4 : Int32)), (.ref vv), (.int (4 : Int32)), (.ref b89)])) _
                      refine X151.laload hx (j := (4 : Int32)) (v := (.long v4)) (by rw [e151]; exact Ar152.1) (State.isArrayOf_alike hZ.alike Ar152.2.1) Ar152.2.2 hin154 hat154 (g := (mkF m 428 (LS_JsJsJsJsJsIJsRRRIRIRu q0 q1 q2 q3 q4 p5 (36028797018963967 : Int64) o1 b2 b25 (((p5.toUInt32 >>> ((7 : Int32) &&& 31).toUInt32).toInt32) &&& (3 : Int32)) vv (0 : Int32) b89) [(.int (4 : Int32)), (.ref vv), (.int (4 : Int32)), (.ref b89)])) rfl rfl (hb hby at_428) _ ?_
                      exact k
                    obtain ⟨cl155, Ar155, qa155, Sa155, Na155, Ha155, Ga155⟩ := id V151
                    have hin156 : ¬ ((4 : Int32) < 0 ∨ cl155.slots.size ≤ ((4 : Int32)).toNatClampNeg) := inb_of Sa155 ⟨by decide, by decide⟩
                    obtain ⟨T156, h156, X156, e156, W156, st156⟩ := stJ X151 hx hZ e151 Ar155 (j := (4 : Int32)) hin156 (g := (mkF m 429 (LS_JsJsJsJsJsIJsRRRIRIRu q0 q1 q2 q3 q4 p5 (36028797018963967 : Int64) o1 b2 b25 (((p5.toUInt32 >>> ((7 : Int32) &&& 31).toUInt32).toInt32) &&& (3 : Int32)) vv (0 : Int32) b89) [(.long v4), (.int (4 : Int32)), (.ref b89)])) rfl rfl (hb hby at_429)
                    have N156 := Fr.snoc X156 N151 g_b89
                    have V156 : Arv Z h156 b89 k89 .long (10 : Int32) [(.long v0), (.long v1), (.long v2), (.long v3), (.long v4), (.long (1 : Int64)), (.long (1 : Int64)), (.long (1 : Int64)), (.long (1 : Int64)), (.long (1 : Int64))] (.long (0 : Int64)) := Arv.set Ar155 qa155 Sa155 Na155 Ha155 Ga155 rfl W156 4 rfl (Nat.le_of_ble_eq_true rfl)
                    refine own_go (B := T156.setTop (mkF m 430 (LS_JsJsJsJsJsIJsRRRIRIRu q0 q1 q2 q3 q4 p5 (36028797018963967 : Int64) o1 b2 b25 (((p5.toUInt32 >>> ((7 : Int32) &&& 31).toUInt32).toInt32) &&& (3 : Int32)) vv (0 : Int32) b89) [])) (fun t k => st156 _ k) ?_
                    have Vv88_v158 := Vv88_v153.other W156 ne114
                    obtain ⟨cl157, Ar157, qa157, Sa157, Na157, Ha157, Ga157⟩ := id Vv88_v158
                    have hin159 : ¬ ((5 : Int32) < 0 ∨ cl157.slots.size ≤ ((5 : Int32)).toNatClampNeg) := inb_of Sa157 ⟨by decide, by decide⟩
                    have hat159 : cl157.slots[((5 : Int32)).toNatClampNeg]? = some (.long v5) := Has.at Ha157 hin159 rfl
                    refine own_go (B := T156.setTop (mkF m 440 (LS_JsJsJsJsJsIJsRRRIRIRu q0 q1 q2 q3 q4 p5 (36028797018963967 : Int64) o1 b2 b25 (((p5.toUInt32 >>> ((7 : Int32) &&& 31).toUInt32).toInt32) &&& (3 : Int32)) vv (0 : Int32) b89) [(.long v5), (.int (5 : Int32)), (.ref b89)])) (fun t k => ?_) ?_
                    · show Steps p.tables e below (T156.setTop (mkF m 430 (LS_JsJsJsJsJsIJsRRRIRIRu q0 q1 q2 q3 q4 p5 (36028797018963967 : Int64) o1 b2 b25 (((p5.toUInt32 >>> ((7 : Int32) &&& 31).toUInt32).toInt32) &&& (3 : Int32)) vv (0 : Int32) b89) [])) _
                      refine XS.aload X156.here hx rfl (hb hby at_430) rfl rfl ?_
                      show Steps p.tables e below (T156.setTop (mkF m 432 (LS_JsJsJsJsJsIJsRRRIRIRu q0 q1 q2 q3 q4 p5 (36028797018963967 : Int64) o1 b2 b25 (((p5.toUInt32 >>> ((7 : Int32) &&& 31).toUInt32).toInt32) &&& (3 : Int32)) vv (0 : Int32) b89) [(.ref b89)])) _
                      refine XS.iload X156.here hx rfl (hb hby at_432) rfl ?_
                      show Steps p.tables e below (T156.setTop (mkF m 434 (LS_JsJsJsJsJsIJsRRRIRIRu q0 q1 q2 q3 q4 p5 (36028797018963967 : Int64) o1 b2 b25 (((p5.toUInt32 >>> ((7 : Int32) &&& 31).toUInt32).toInt32) &&& (3 : Int32)) vv (0 : Int32) b89) [(.int (0 : Int32)), (.ref b89)])) _
                      refine XS.iconst X156.here hx rfl (hb hby at_434) ?_
                      show Steps p.tables e below (T156.setTop (mkF m 435 (LS_JsJsJsJsJsIJsRRRIRIRu q0 q1 q2 q3 q4 p5 (36028797018963967 : Int64) o1 b2 b25 (((p5.toUInt32 >>> ((7 : Int32) &&& 31).toUInt32).toInt32) &&& (3 : Int32)) vv (0 : Int32) b89) [(.int (5 : Int32)), (.int (0 : Int32)), (.ref b89)])) _
                      refine XS.iadd X156.here hx rfl (hb hby at_435) rfl ?_
                      rw [show ((0 : Int32) + (5 : Int32)) = (5 : Int32) from by decide]
                      show Steps p.tables e below (T156.setTop (mkF m 436 (LS_JsJsJsJsJsIJsRRRIRIRu q0 q1 q2 q3 q4 p5 (36028797018963967 : Int64) o1 b2 b25 (((p5.toUInt32 >>> ((7 : Int32) &&& 31).toUInt32).toInt32) &&& (3 : Int32)) vv (0 : Int32) b89) [(.int (5 : Int32)), (.ref b89)])) _
                      refine XS.aload X156.here hx rfl (hb hby at_436) rfl rfl ?_
                      show Steps p.tables e below (T156.setTop (mkF m 438 (LS_JsJsJsJsJsIJsRRRIRIRu q0 q1 q2 q3 q4 p5 (36028797018963967 : Int64) o1 b2 b25 (((p5.toUInt32 >>> ((7 : Int32) &&& 31).toUInt32).toInt32) &&& (3 : Int32)) vv (0 : Int32) b89) [(.ref vv), (.int (5 : Int32)), (.ref b89)])) _
                      refine XS.iconst X156.here hx rfl (hb hby at_438) ?_
                      show Steps p.tables e below (T156.setTop (mkF m 439 (LS_JsJsJsJsJsIJsRRRIRIRu q0 q1 q2 q3 q4 p5 (36028797018963967 : Int64) o1 b2 b25 (((p5.toUInt32 >>> ((7 : Int32) &&& 31).toUInt32).toInt32) &&& (3 : Int32)) vv (0 : Int32) b89) [(.int (5 : Int32)), (.ref vv), (.int (5 : Int32)), (.ref b89)])) _
                      refine X156.laload hx (j := (5 : Int32)) (v := (.long v5)) (by rw [e156]; exact Ar157.1) (State.isArrayOf_alike hZ.alike Ar157.2.1) Ar157.2.2 hin159 hat159 (g := (mkF m 439 (LS_JsJsJsJsJsIJsRRRIRIRu q0 q1 q2 q3 q4 p5 (36028797018963967 : Int64) o1 b2 b25 (((p5.toUInt32 >>> ((7 : Int32) &&& 31).toUInt32).toInt32) &&& (3 : Int32)) vv (0 : Int32) b89) [(.int (5 : Int32)), (.ref vv), (.int (5 : Int32)), (.ref b89)])) rfl rfl (hb hby at_439) _ ?_
                      exact k
                    obtain ⟨cl160, Ar160, qa160, Sa160, Na160, Ha160, Ga160⟩ := id V156
                    have hin161 : ¬ ((5 : Int32) < 0 ∨ cl160.slots.size ≤ ((5 : Int32)).toNatClampNeg) := inb_of Sa160 ⟨by decide, by decide⟩
                    obtain ⟨T161, h161, X161, e161, W161, st161⟩ := stJ X156 hx hZ e156 Ar160 (j := (5 : Int32)) hin161 (g := (mkF m 440 (LS_JsJsJsJsJsIJsRRRIRIRu q0 q1 q2 q3 q4 p5 (36028797018963967 : Int64) o1 b2 b25 (((p5.toUInt32 >>> ((7 : Int32) &&& 31).toUInt32).toInt32) &&& (3 : Int32)) vv (0 : Int32) b89) [(.long v5), (.int (5 : Int32)), (.ref b89)])) rfl rfl (hb hby at_440)
                    have N161 := Fr.snoc X161 N156 g_b89
                    have V161 : Arv Z h161 b89 k89 .long (10 : Int32) [(.long v0), (.long v1), (.long v2), (.long v3), (.long v4), (.long v5), (.long (1 : Int64)), (.long (1 : Int64)), (.long (1 : Int64)), (.long (1 : Int64))] (.long (0 : Int64)) := Arv.set Ar160 qa160 Sa160 Na160 Ha160 Ga160 rfl W161 5 rfl (Nat.le_of_ble_eq_true rfl)
                    refine own_go (B := T161.setTop (mkF m 441 (LS_JsJsJsJsJsIJsRRRIRIRu q0 q1 q2 q3 q4 p5 (36028797018963967 : Int64) o1 b2 b25 (((p5.toUInt32 >>> ((7 : Int32) &&& 31).toUInt32).toInt32) &&& (3 : Int32)) vv (0 : Int32) b89) [])) (fun t k => st161 _ k) ?_
                    have Vv88_v163 := Vv88_v158.other W161 ne114
                    obtain ⟨cl162, Ar162, qa162, Sa162, Na162, Ha162, Ga162⟩ := id Vv88_v163
                    have hin164 : ¬ ((6 : Int32) < 0 ∨ cl162.slots.size ≤ ((6 : Int32)).toNatClampNeg) := inb_of Sa162 ⟨by decide, by decide⟩
                    have hat164 : cl162.slots[((6 : Int32)).toNatClampNeg]? = some (.long v6) := Has.at Ha162 hin164 rfl
                    refine own_go (B := T161.setTop (mkF m 453 (LS_JsJsJsJsJsIJsRRRIRIRu q0 q1 q2 q3 q4 p5 (36028797018963967 : Int64) o1 b2 b25 (((p5.toUInt32 >>> ((7 : Int32) &&& 31).toUInt32).toInt32) &&& (3 : Int32)) vv (0 : Int32) b89) [(.long v6), (.int (6 : Int32)), (.ref b89)])) (fun t k => ?_) ?_
                    · show Steps p.tables e below (T161.setTop (mkF m 441 (LS_JsJsJsJsJsIJsRRRIRIRu q0 q1 q2 q3 q4 p5 (36028797018963967 : Int64) o1 b2 b25 (((p5.toUInt32 >>> ((7 : Int32) &&& 31).toUInt32).toInt32) &&& (3 : Int32)) vv (0 : Int32) b89) [])) _
                      refine XS.aload X161.here hx rfl (hb hby at_441) rfl rfl ?_
                      show Steps p.tables e below (T161.setTop (mkF m 443 (LS_JsJsJsJsJsIJsRRRIRIRu q0 q1 q2 q3 q4 p5 (36028797018963967 : Int64) o1 b2 b25 (((p5.toUInt32 >>> ((7 : Int32) &&& 31).toUInt32).toInt32) &&& (3 : Int32)) vv (0 : Int32) b89) [(.ref b89)])) _
                      refine XS.iload X161.here hx rfl (hb hby at_443) rfl ?_
                      show Steps p.tables e below (T161.setTop (mkF m 445 (LS_JsJsJsJsJsIJsRRRIRIRu q0 q1 q2 q3 q4 p5 (36028797018963967 : Int64) o1 b2 b25 (((p5.toUInt32 >>> ((7 : Int32) &&& 31).toUInt32).toInt32) &&& (3 : Int32)) vv (0 : Int32) b89) [(.int (0 : Int32)), (.ref b89)])) _
                      refine XS.bipush X161.here hx rfl (hb hby at_445) ?_
                      show Steps p.tables e below (T161.setTop (mkF m 447 (LS_JsJsJsJsJsIJsRRRIRIRu q0 q1 q2 q3 q4 p5 (36028797018963967 : Int64) o1 b2 b25 (((p5.toUInt32 >>> ((7 : Int32) &&& 31).toUInt32).toInt32) &&& (3 : Int32)) vv (0 : Int32) b89) [(.int (6 : Int32)), (.int (0 : Int32)), (.ref b89)])) _
                      refine XS.iadd X161.here hx rfl (hb hby at_447) rfl ?_
                      rw [show ((0 : Int32) + (6 : Int32)) = (6 : Int32) from by decide]
                      show Steps p.tables e below (T161.setTop (mkF m 448 (LS_JsJsJsJsJsIJsRRRIRIRu q0 q1 q2 q3 q4 p5 (36028797018963967 : Int64) o1 b2 b25 (((p5.toUInt32 >>> ((7 : Int32) &&& 31).toUInt32).toInt32) &&& (3 : Int32)) vv (0 : Int32) b89) [(.int (6 : Int32)), (.ref b89)])) _
                      refine XS.aload X161.here hx rfl (hb hby at_448) rfl rfl ?_
                      show Steps p.tables e below (T161.setTop (mkF m 450 (LS_JsJsJsJsJsIJsRRRIRIRu q0 q1 q2 q3 q4 p5 (36028797018963967 : Int64) o1 b2 b25 (((p5.toUInt32 >>> ((7 : Int32) &&& 31).toUInt32).toInt32) &&& (3 : Int32)) vv (0 : Int32) b89) [(.ref vv), (.int (6 : Int32)), (.ref b89)])) _
                      refine XS.bipush X161.here hx rfl (hb hby at_450) ?_
                      show Steps p.tables e below (T161.setTop (mkF m 452 (LS_JsJsJsJsJsIJsRRRIRIRu q0 q1 q2 q3 q4 p5 (36028797018963967 : Int64) o1 b2 b25 (((p5.toUInt32 >>> ((7 : Int32) &&& 31).toUInt32).toInt32) &&& (3 : Int32)) vv (0 : Int32) b89) [(.int (6 : Int32)), (.ref vv), (.int (6 : Int32)), (.ref b89)])) _
                      refine X161.laload hx (j := (6 : Int32)) (v := (.long v6)) (by rw [e161]; exact Ar162.1) (State.isArrayOf_alike hZ.alike Ar162.2.1) Ar162.2.2 hin164 hat164 (g := (mkF m 452 (LS_JsJsJsJsJsIJsRRRIRIRu q0 q1 q2 q3 q4 p5 (36028797018963967 : Int64) o1 b2 b25 (((p5.toUInt32 >>> ((7 : Int32) &&& 31).toUInt32).toInt32) &&& (3 : Int32)) vv (0 : Int32) b89) [(.int (6 : Int32)), (.ref vv), (.int (6 : Int32)), (.ref b89)])) rfl rfl (hb hby at_452) _ ?_
                      exact k
                    obtain ⟨cl165, Ar165, qa165, Sa165, Na165, Ha165, Ga165⟩ := id V161
                    have hin166 : ¬ ((6 : Int32) < 0 ∨ cl165.slots.size ≤ ((6 : Int32)).toNatClampNeg) := inb_of Sa165 ⟨by decide, by decide⟩
                    obtain ⟨T166, h166, X166, e166, W166, st166⟩ := stJ X161 hx hZ e161 Ar165 (j := (6 : Int32)) hin166 (g := (mkF m 453 (LS_JsJsJsJsJsIJsRRRIRIRu q0 q1 q2 q3 q4 p5 (36028797018963967 : Int64) o1 b2 b25 (((p5.toUInt32 >>> ((7 : Int32) &&& 31).toUInt32).toInt32) &&& (3 : Int32)) vv (0 : Int32) b89) [(.long v6), (.int (6 : Int32)), (.ref b89)])) rfl rfl (hb hby at_453)
                    have N166 := Fr.snoc X166 N161 g_b89
                    have V166 : Arv Z h166 b89 k89 .long (10 : Int32) [(.long v0), (.long v1), (.long v2), (.long v3), (.long v4), (.long v5), (.long v6), (.long (1 : Int64)), (.long (1 : Int64)), (.long (1 : Int64))] (.long (0 : Int64)) := Arv.set Ar165 qa165 Sa165 Na165 Ha165 Ga165 rfl W166 6 rfl (Nat.le_of_ble_eq_true rfl)
                    refine own_go (B := T166.setTop (mkF m 454 (LS_JsJsJsJsJsIJsRRRIRIRu q0 q1 q2 q3 q4 p5 (36028797018963967 : Int64) o1 b2 b25 (((p5.toUInt32 >>> ((7 : Int32) &&& 31).toUInt32).toInt32) &&& (3 : Int32)) vv (0 : Int32) b89) [])) (fun t k => st166 _ k) ?_
                    refine own_go (B := T166.setTop (mkF m 458 (LS_JsJsJsJsJsIJsRRRIRIRu q0 q1 q2 q3 q4 p5 (36028797018963967 : Int64) o1 b2 b25 (((p5.toUInt32 >>> ((7 : Int32) &&& 31).toUInt32).toInt32) &&& (3 : Int32)) vv (0 : Int32) b89) [(.ref o1), (.ref vv)])) (fun t k => ?_) ?_
                    · show Steps p.tables e below (T166.setTop (mkF m 454 (LS_JsJsJsJsJsIJsRRRIRIRu q0 q1 q2 q3 q4 p5 (36028797018963967 : Int64) o1 b2 b25 (((p5.toUInt32 >>> ((7 : Int32) &&& 31).toUInt32).toInt32) &&& (3 : Int32)) vv (0 : Int32) b89) [])) _
                      refine XS.aload X166.here hx rfl (hb hby at_454) rfl rfl ?_
                      show Steps p.tables e below (T166.setTop (mkF m 456 (LS_JsJsJsJsJsIJsRRRIRIRu q0 q1 q2 q3 q4 p5 (36028797018963967 : Int64) o1 b2 b25 (((p5.toUInt32 >>> ((7 : Int32) &&& 31).toUInt32).toInt32) &&& (3 : Int32)) vv (0 : Int32) b89) [(.ref vv)])) _
                      refine XS.aload X166.here hx rfl (hb hby at_456) rfl rfl ?_
                      exact k
                    have Zj88_v167 := Nat.le_trans Zj88 E89.1
                    have Zj88_v168 := Nat.le_trans Zj88_v167 (Nat.le_of_eq W91.size.symm)
                    have Zj88_v169 := Nat.le_trans Zj88_v168 (Nat.le_of_eq W93.size.symm)
                    have Zj88_v170 := Nat.le_trans Zj88_v169 (Nat.le_of_eq W95.size.symm)
                    have Zj88_v171 := Nat.le_trans Zj88_v170 (Nat.le_of_eq W97.size.symm)
                    have Zj88_v172 := Nat.le_trans Zj88_v171 (Nat.le_of_eq W99.size.symm)
                    have Zj88_v173 := Nat.le_trans Zj88_v172 (Nat.le_of_eq W101.size.symm)
                    have Zj88_v174 := Nat.le_trans Zj88_v173 (Nat.le_of_eq W103.size.symm)
                    have Zj88_v175 := Nat.le_trans Zj88_v174 (Nat.le_of_eq W105.size.symm)
                    have Zj88_v176 := Nat.le_trans Zj88_v175 (Nat.le_of_eq W107.size.symm)
                    have Zj88_v177 := Nat.le_trans Zj88_v176 (Nat.le_of_eq W109.size.symm)
                    have Zj88_v178 := Nat.le_trans Zj88_v177 (Nat.le_of_eq W126.size.symm)
                    have Zj88_v179 := Nat.le_trans Zj88_v178 (Nat.le_of_eq W141.size.symm)
                    have Zj88_v180 := Nat.le_trans Zj88_v179 (Nat.le_of_eq W146.size.symm)
                    have Zj88_v181 := Nat.le_trans Zj88_v180 (Nat.le_of_eq W151.size.symm)
                    have Zj88_v182 := Nat.le_trans Zj88_v181 (Nat.le_of_eq W156.size.symm)
                    have Zj88_v183 := Nat.le_trans Zj88_v182 (Nat.le_of_eq W161.size.symm)
                    have Zj88_v184 := Nat.le_trans Zj88_v183 (Nat.le_of_eq W166.size.symm)
                    have Vv88_v185 := Vv88_v163.other W166 ne114
                    have Vp88_v186 := Vp88.ext E89
                    have ne188 : o1 ≠ b89 := Nat.ne_of_lt (Nat.lt_of_lt_of_le Vp88.lt (Nat.le_of_eq g89.symm))
                    have Vp88_v187 := Vp88_v186.other W91 ne188
                    have Vp88_v189 := Vp88_v187.other W93 ne188
                    have Vp88_v190 := Vp88_v189.other W95 ne188
                    have Vp88_v191 := Vp88_v190.other W97 ne188
                    have Vp88_v192 := Vp88_v191.other W99 ne188
                    have Vp88_v193 := Vp88_v192.other W101 ne188
                    have Vp88_v194 := Vp88_v193.other W103 ne188
                    have Vp88_v195 := Vp88_v194.other W105 ne188
                    have Vp88_v196 := Vp88_v195.other W107 ne188
                    have Vp88_v197 := Vp88_v196.other W109 ne188
                    have Vp88_v198 := Vp88_v197.other W126 ne188
                    have Vp88_v199 := Vp88_v198.other W141 ne188
                    have Vp88_v200 := Vp88_v199.other W146 ne188
                    have Vp88_v201 := Vp88_v200.other W151 ne188
                    have Vp88_v202 := Vp88_v201.other W156 ne188
                    have Vp88_v203 := Vp88_v202.other W161 ne188
                    have Vp88_v204 := Vp88_v203.other W166 ne188
                    obtain ⟨_, _, ⟨T205, L205, k205, n205⟩, -, X205, ⟨Lc205, hQ205, l205, y205, z205⟩, st205⟩ := Jvm.LawKit.callS X166 hx (y := (⟨"com/example/barred_rows/barredrows/crypto/FpIsZeroPinLaw", "zeroModP", "([J[J)Z"⟩ : MethodName)) hown (mvT hZ (hw _ (List.mem_of_getElem? (i := 12) rfl))) (mvT hZ (hw _ (List.mem_of_getElem? (i := 13) rfl))) (mvT hZ (hw _ (List.mem_of_getElem? (i := 3) rfl))) (mvT hZ (hw _ (List.mem_of_getElem? (i := 14) rfl))) (by decide) (backOf (W := 0) (rm2 l Z a0 hw [] vv o1 kv ko1 v0 v1 v2 v3 v4 v5 v6 h166 n0 Zj88_v184 Vv88_v185 Vp88_v204) hZ (hw _ (List.mem_of_getElem? (i := 14) rfl)) (hw _ (List.mem_of_getElem? (i := 3) rfl)) (by decide) (by decide)) (g := (mkF m 458 (LS_JsJsJsJsJsIJsRRRIRIRu q0 q1 q2 q3 q4 p5 (36028797018963967 : Int64) o1 b2 b25 (((p5.toUInt32 >>> ((7 : Int32) &&& 31).toUInt32).toInt32) &&& (3 : Int32)) vv (0 : Int32) b89) [(.ref o1), (.ref vv)])) rfl (by rw [hml]; rfl) (argsL := [(.ref vv), (.ref o1)]) (rest := []) (lenOf pd___J_J_Z rfl) rfl (by show 2 * 0 + _ ≤ _; exact Nat.le_of_eq rfl) (hb hby at_458) (fun _ _ => ⟨rfl, e166, (by decide : 7 + 0 ≤ _), (by decide : 52 + 0 ≤ _)⟩)
                    dsimp only [Pt.U, Pt.locs, Pt.cells, Pt.slots] at X205 l205 y205 z205 st205 hQ205
                    subst l205 y205 z205
                    obtain ⟨rfl, N205q, e205⟩ := hQ205
                    have N205 := Fr.app N166 N205q
                    refine own_go (B := T205.setTop (mkF m 461 (LS_JsJsJsJsJsIJsRRRIRIRu q0 q1 q2 q3 q4 p5 (36028797018963967 : Int64) o1 b2 b25 (((p5.toUInt32 >>> ((7 : Int32) &&& 31).toUInt32).toInt32) &&& (3 : Int32)) vv (0 : Int32) b89) [(.int (if ((((((v0 ||| v1) ||| v2) ||| v3) ||| v4) ||| v5) ||| v6) = (0 : Int64) ∨ (((((((v0 ^^^ (35747322042231467 : Int64)) ||| (v1 ^^^ (36025922209447795 : Int64))) ||| (v2 ^^^ (1084959616957103 : Int64))) ||| (v3 ^^^ (7925923977987733 : Int64))) ||| (v4 ^^^ (16551456537884751 : Int64))) ||| (v5 ^^^ (23443114579904617 : Int64))) ||| (v6 ^^^ (1829881462546425 : Int64))) = (0 : Int64) then (1 : Int32) else (0 : Int32)))])) (fun t k => st205 _ k) ?_
                    refine own_go (B := T205.setTop (mkF m 467 (LS_JsJsJsJsJsIJsRRRIRIRI q0 q1 q2 q3 q4 p5 (36028797018963967 : Int64) o1 b2 b25 (((p5.toUInt32 >>> ((7 : Int32) &&& 31).toUInt32).toInt32) &&& (3 : Int32)) vv (0 : Int32) b89 (if ((((((v0 ||| v1) ||| v2) ||| v3) ||| v4) ||| v5) ||| v6) = (0 : Int64) ∨ (((((((v0 ^^^ (35747322042231467 : Int64)) ||| (v1 ^^^ (36025922209447795 : Int64))) ||| (v2 ^^^ (1084959616957103 : Int64))) ||| (v3 ^^^ (7925923977987733 : Int64))) ||| (v4 ^^^ (16551456537884751 : Int64))) ||| (v5 ^^^ (23443114579904617 : Int64))) ||| (v6 ^^^ (1829881462546425 : Int64))) = (0 : Int64) then (1 : Int32) else (0 : Int32))) [(.int (0 : Int32)), (.ref b89)])) (fun t k => ?_) ?_
                    · show Steps p.tables e below (T205.setTop (mkF m 461 (LS_JsJsJsJsJsIJsRRRIRIRu q0 q1 q2 q3 q4 p5 (36028797018963967 : Int64) o1 b2 b25 (((p5.toUInt32 >>> ((7 : Int32) &&& 31).toUInt32).toInt32) &&& (3 : Int32)) vv (0 : Int32) b89) [(.int (if ((((((v0 ||| v1) ||| v2) ||| v3) ||| v4) ||| v5) ||| v6) = (0 : Int64) ∨ (((((((v0 ^^^ (35747322042231467 : Int64)) ||| (v1 ^^^ (36025922209447795 : Int64))) ||| (v2 ^^^ (1084959616957103 : Int64))) ||| (v3 ^^^ (7925923977987733 : Int64))) ||| (v4 ^^^ (16551456537884751 : Int64))) ||| (v5 ^^^ (23443114579904617 : Int64))) ||| (v6 ^^^ (1829881462546425 : Int64))) = (0 : Int64) then (1 : Int32) else (0 : Int32)))])) _
                      refine XS.istore X205.here hx rfl (hb hby at_461) rfl (l' := (LS_JsJsJsJsJsIJsRRRIRIRI q0 q1 q2 q3 q4 p5 (36028797018963967 : Int64) o1 b2 b25 (((p5.toUInt32 >>> ((7 : Int32) &&& 31).toUInt32).toInt32) &&& (3 : Int32)) vv (0 : Int32) b89 (if ((((((v0 ||| v1) ||| v2) ||| v3) ||| v4) ||| v5) ||| v6) = (0 : Int64) ∨ (((((((v0 ^^^ (35747322042231467 : Int64)) ||| (v1 ^^^ (36025922209447795 : Int64))) ||| (v2 ^^^ (1084959616957103 : Int64))) ||| (v3 ^^^ (7925923977987733 : Int64))) ||| (v4 ^^^ (16551456537884751 : Int64))) ||| (v5 ^^^ (23443114579904617 : Int64))) ||| (v6 ^^^ (1829881462546425 : Int64))) = (0 : Int64) then (1 : Int32) else (0 : Int32)))) rfl ?_
                      show Steps p.tables e below (T205.setTop (mkF m 463 (LS_JsJsJsJsJsIJsRRRIRIRI q0 q1 q2 q3 q4 p5 (36028797018963967 : Int64) o1 b2 b25 (((p5.toUInt32 >>> ((7 : Int32) &&& 31).toUInt32).toInt32) &&& (3 : Int32)) vv (0 : Int32) b89 (if ((((((v0 ||| v1) ||| v2) ||| v3) ||| v4) ||| v5) ||| v6) = (0 : Int64) ∨ (((((((v0 ^^^ (35747322042231467 : Int64)) ||| (v1 ^^^ (36025922209447795 : Int64))) ||| (v2 ^^^ (1084959616957103 : Int64))) ||| (v3 ^^^ (7925923977987733 : Int64))) ||| (v4 ^^^ (16551456537884751 : Int64))) ||| (v5 ^^^ (23443114579904617 : Int64))) ||| (v6 ^^^ (1829881462546425 : Int64))) = (0 : Int64) then (1 : Int32) else (0 : Int32))) [])) _
                      refine XS.aload X205.here hx rfl (hb hby at_463) rfl rfl ?_
                      show Steps p.tables e below (T205.setTop (mkF m 465 (LS_JsJsJsJsJsIJsRRRIRIRI q0 q1 q2 q3 q4 p5 (36028797018963967 : Int64) o1 b2 b25 (((p5.toUInt32 >>> ((7 : Int32) &&& 31).toUInt32).toInt32) &&& (3 : Int32)) vv (0 : Int32) b89 (if ((((((v0 ||| v1) ||| v2) ||| v3) ||| v4) ||| v5) ||| v6) = (0 : Int64) ∨ (((((((v0 ^^^ (35747322042231467 : Int64)) ||| (v1 ^^^ (36025922209447795 : Int64))) ||| (v2 ^^^ (1084959616957103 : Int64))) ||| (v3 ^^^ (7925923977987733 : Int64))) ||| (v4 ^^^ (16551456537884751 : Int64))) ||| (v5 ^^^ (23443114579904617 : Int64))) ||| (v6 ^^^ (1829881462546425 : Int64))) = (0 : Int64) then (1 : Int32) else (0 : Int32))) [(.ref b89)])) _
                      refine XS.iload X205.here hx rfl (hb hby at_465) rfl ?_
                      exact k
                    obtain ⟨cl206, Ar206, qa206, Sa206, Na206, Ha206, Ga206⟩ := id V166
                    have hi206_0 : ¬ ((0 : Int32) < 0 ∨ cl206.slots.size ≤ ((0 : Int32)).toNatClampNeg) := inb_of Sa206 ⟨by decide, by decide⟩
                    have ht206_0 : cl206.slots[((0 : Int32)).toNatClampNeg]? = some (.long v0) := Has.at Ha206 hi206_0 rfl
                    have hi206_1 : ¬ (((0 : Int32) + (1 : Int32)) < 0 ∨ cl206.slots.size ≤ (((0 : Int32) + (1 : Int32))).toNatClampNeg) := inb_of Sa206 ⟨by decide, by decide⟩
                    have ht206_1 : cl206.slots[(((0 : Int32) + (1 : Int32))).toNatClampNeg]? = some (.long v1) := Has.at Ha206 hi206_1 rfl
                    have hi206_2 : ¬ (((0 : Int32) + (2 : Int32)) < 0 ∨ cl206.slots.size ≤ (((0 : Int32) + (2 : Int32))).toNatClampNeg) := inb_of Sa206 ⟨by decide, by decide⟩
                    have ht206_2 : cl206.slots[(((0 : Int32) + (2 : Int32))).toNatClampNeg]? = some (.long v2) := Has.at Ha206 hi206_2 rfl
                    have hi206_3 : ¬ (((0 : Int32) + (3 : Int32)) < 0 ∨ cl206.slots.size ≤ (((0 : Int32) + (3 : Int32))).toNatClampNeg) := inb_of Sa206 ⟨by decide, by decide⟩
                    have ht206_3 : cl206.slots[(((0 : Int32) + (3 : Int32))).toNatClampNeg]? = some (.long v3) := Has.at Ha206 hi206_3 rfl
                    have hi206_4 : ¬ (((0 : Int32) + (4 : Int32)) < 0 ∨ cl206.slots.size ≤ (((0 : Int32) + (4 : Int32))).toNatClampNeg) := inb_of Sa206 ⟨by decide, by decide⟩
                    have ht206_4 : cl206.slots[(((0 : Int32) + (4 : Int32))).toNatClampNeg]? = some (.long v4) := Has.at Ha206 hi206_4 rfl
                    have hi206_5 : ¬ (((0 : Int32) + (5 : Int32)) < 0 ∨ cl206.slots.size ≤ (((0 : Int32) + (5 : Int32))).toNatClampNeg) := inb_of Sa206 ⟨by decide, by decide⟩
                    have ht206_5 : cl206.slots[(((0 : Int32) + (5 : Int32))).toNatClampNeg]? = some (.long v5) := Has.at Ha206 hi206_5 rfl
                    have hi206_6 : ¬ (((0 : Int32) + (6 : Int32)) < 0 ∨ cl206.slots.size ≤ (((0 : Int32) + (6 : Int32))).toNatClampNeg) := inb_of Sa206 ⟨by decide, by decide⟩
                    have ht206_6 : cl206.slots[(((0 : Int32) + (6 : Int32))).toNatClampNeg]? = some (.long v6) := Has.at Ha206 hi206_6 rfl
                    have Sj0_v207 := Sj0.ext E89
                    have Sj0_v208 := Sj0_v207.wr W91
                    have Sj0_v209 := Sj0_v208.wr W93
                    have Sj0_v210 := Sj0_v209.wr W95
                    have Sj0_v211 := Sj0_v210.wr W97
                    have Sj0_v212 := Sj0_v211.wr W99
                    have Sj0_v213 := Sj0_v212.wr W101
                    have Sj0_v214 := Sj0_v213.wr W103
                    have Sj0_v215 := Sj0_v214.wr W105
                    have Sj0_v216 := Sj0_v215.wr W107
                    have Sj0_v217 := Sj0_v216.wr W109
                    have Sj0_v218 := Sj0_v217.wr W126
                    have Sj0_v219 := Sj0_v218.wr W141
                    have Sj0_v220 := Sj0_v219.wr W146
                    have Sj0_v221 := Sj0_v220.wr W151
                    have Sj0_v222 := Sj0_v221.wr W156
                    have Sj0_v223 := Sj0_v222.wr W161
                    have Sj0_v224 := Sj0_v223.wr W166
                    have Sj1_v225 := Sj1.ext E89
                    have Sj1_v226 := Sj1_v225.wr W91
                    have Sj1_v227 := Sj1_v226.wr W93
                    have Sj1_v228 := Sj1_v227.wr W95
                    have Sj1_v229 := Sj1_v228.wr W97
                    have Sj1_v230 := Sj1_v229.wr W99
                    have Sj1_v231 := Sj1_v230.wr W101
                    have Sj1_v232 := Sj1_v231.wr W103
                    have Sj1_v233 := Sj1_v232.wr W105
                    have Sj1_v234 := Sj1_v233.wr W107
                    have Sj1_v235 := Sj1_v234.wr W109
                    have Sj1_v236 := Sj1_v235.wr W126
                    have Sj1_v237 := Sj1_v236.wr W141
                    have Sj1_v238 := Sj1_v237.wr W146
                    have Sj1_v239 := Sj1_v238.wr W151
                    have Sj1_v240 := Sj1_v239.wr W156
                    have Sj1_v241 := Sj1_v240.wr W161
                    have Sj1_v242 := Sj1_v241.wr W166
                    have Sj2_v243 := Sj2.ext E89
                    have Sj2_v244 := Sj2_v243.wr W91
                    have Sj2_v245 := Sj2_v244.wr W93
                    have Sj2_v246 := Sj2_v245.wr W95
                    have Sj2_v247 := Sj2_v246.wr W97
                    have Sj2_v248 := Sj2_v247.wr W99
                    have Sj2_v249 := Sj2_v248.wr W101
                    have Sj2_v250 := Sj2_v249.wr W103
                    have Sj2_v251 := Sj2_v250.wr W105
                    have Sj2_v252 := Sj2_v251.wr W107
                    have Sj2_v253 := Sj2_v252.wr W109
                    have Sj2_v254 := Sj2_v253.wr W126
                    have Sj2_v255 := Sj2_v254.wr W141
                    have Sj2_v256 := Sj2_v255.wr W146
                    have Sj2_v257 := Sj2_v256.wr W151
                    have Sj2_v258 := Sj2_v257.wr W156
                    have Sj2_v259 := Sj2_v258.wr W161
                    have Sj2_v260 := Sj2_v259.wr W166
                    have Sj3_v261 := Sj3.ext E89
                    have Sj3_v262 := Sj3_v261.wr W91
                    have Sj3_v263 := Sj3_v262.wr W93
                    have Sj3_v264 := Sj3_v263.wr W95
                    have Sj3_v265 := Sj3_v264.wr W97
                    have Sj3_v266 := Sj3_v265.wr W99
                    have Sj3_v267 := Sj3_v266.wr W101
                    have Sj3_v268 := Sj3_v267.wr W103
                    have Sj3_v269 := Sj3_v268.wr W105
                    have Sj3_v270 := Sj3_v269.wr W107
                    have Sj3_v271 := Sj3_v270.wr W109
                    have Sj3_v272 := Sj3_v271.wr W126
                    have Sj3_v273 := Sj3_v272.wr W141
                    have Sj3_v274 := Sj3_v273.wr W146
                    have Sj3_v275 := Sj3_v274.wr W151
                    have Sj3_v276 := Sj3_v275.wr W156
                    have Sj3_v277 := Sj3_v276.wr W161
                    have Sj3_v278 := Sj3_v277.wr W166
                    have Sj4_v279 := Sj4.ext E89
                    have Sj4_v280 := Sj4_v279.wr W91
                    have Sj4_v281 := Sj4_v280.wr W93
                    have Sj4_v282 := Sj4_v281.wr W95
                    have Sj4_v283 := Sj4_v282.wr W97
                    have Sj4_v284 := Sj4_v283.wr W99
                    have Sj4_v285 := Sj4_v284.wr W101
                    have Sj4_v286 := Sj4_v285.wr W103
                    have Sj4_v287 := Sj4_v286.wr W105
                    have Sj4_v288 := Sj4_v287.wr W107
                    have Sj4_v289 := Sj4_v288.wr W109
                    have Sj4_v290 := Sj4_v289.wr W126
                    have Sj4_v291 := Sj4_v290.wr W141
                    have Sj4_v292 := Sj4_v291.wr W146
                    have Sj4_v293 := Sj4_v292.wr W151
                    have Sj4_v294 := Sj4_v293.wr W156
                    have Sj4_v295 := Sj4_v294.wr W161
                    have Sj4_v296 := Sj4_v295.wr W166
                    have Sj5_v297 := Sj5.ext E89
                    have Sj5_v298 := Sj5_v297.wr W91
                    have Sj5_v299 := Sj5_v298.wr W93
                    have Sj5_v300 := Sj5_v299.wr W95
                    have Sj5_v301 := Sj5_v300.wr W97
                    have Sj5_v302 := Sj5_v301.wr W99
                    have Sj5_v303 := Sj5_v302.wr W101
                    have Sj5_v304 := Sj5_v303.wr W103
                    have Sj5_v305 := Sj5_v304.wr W105
                    have Sj5_v306 := Sj5_v305.wr W107
                    have Sj5_v307 := Sj5_v306.wr W109
                    have Sj5_v308 := Sj5_v307.wr W126
                    have Sj5_v309 := Sj5_v308.wr W141
                    have Sj5_v310 := Sj5_v309.wr W146
                    have Sj5_v311 := Sj5_v310.wr W151
                    have Sj5_v312 := Sj5_v311.wr W156
                    have Sj5_v313 := Sj5_v312.wr W161
                    have Sj5_v314 := Sj5_v313.wr W166
                    have Sj6_v315 := Sj6.ext E89
                    have Sj6_v316 := Sj6_v315.wr W91
                    have Sj6_v317 := Sj6_v316.wr W93
                    have Sj6_v318 := Sj6_v317.wr W95
                    have Sj6_v319 := Sj6_v318.wr W97
                    have Sj6_v320 := Sj6_v319.wr W99
                    have Sj6_v321 := Sj6_v320.wr W101
                    have Sj6_v322 := Sj6_v321.wr W103
                    have Sj6_v323 := Sj6_v322.wr W105
                    have Sj6_v324 := Sj6_v323.wr W107
                    have Sj6_v325 := Sj6_v324.wr W109
                    have Sj6_v326 := Sj6_v325.wr W126
                    have Sj6_v327 := Sj6_v326.wr W141
                    have Sj6_v328 := Sj6_v327.wr W146
                    have Sj6_v329 := Sj6_v328.wr W151
                    have Sj6_v330 := Sj6_v329.wr W156
                    have Sj6_v331 := Sj6_v330.wr W161
                    have Sj6_v332 := Sj6_v331.wr W166
                    obtain ⟨_, _, ⟨T333, L333, k333, n333⟩, -, X333, ⟨Lc333, hQ333, l333, y333, z333⟩, st333⟩ := Jvm.LawKit.callS X205 hx (y := (⟨"com/example/barred_rows/barredrows/crypto/Fp", "isZero", "([JI)Z"⟩ : MethodName)) hown (mvT hZ (hw _ (List.mem_of_getElem? (i := 15) rfl))) (mvT hZ (hw _ (List.mem_of_getElem? (i := 16) rfl))) (mvT hZ (hw _ (List.mem_of_getElem? (i := 17) rfl))) (mvT hZ (hw _ (List.mem_of_getElem? (i := 18) rfl))) (by decide) (backOf (W := 0) (rm3 l Z a0 hw [] b89 (0 : Int32) cl206 v0 v1 v2 v3 v4 v5 v6 h166 n0 Zj88_v184 Ar206 hi206_0 hi206_1 hi206_2 hi206_3 hi206_4 hi206_5 hi206_6 ht206_0 ht206_1 ht206_2 ht206_3 ht206_4 ht206_5 ht206_6 Sj0_v224 Sj1_v242 Sj2_v260 Sj3_v278 Sj4_v296 Sj5_v314 Sj6_v332) hZ (hw _ (List.mem_of_getElem? (i := 18) rfl)) (hw _ (List.mem_of_getElem? (i := 17) rfl)) (by decide) (by decide)) (g := (mkF m 467 (LS_JsJsJsJsJsIJsRRRIRIRI q0 q1 q2 q3 q4 p5 (36028797018963967 : Int64) o1 b2 b25 (((p5.toUInt32 >>> ((7 : Int32) &&& 31).toUInt32).toInt32) &&& (3 : Int32)) vv (0 : Int32) b89 (if ((((((v0 ||| v1) ||| v2) ||| v3) ||| v4) ||| v5) ||| v6) = (0 : Int64) ∨ (((((((v0 ^^^ (35747322042231467 : Int64)) ||| (v1 ^^^ (36025922209447795 : Int64))) ||| (v2 ^^^ (1084959616957103 : Int64))) ||| (v3 ^^^ (7925923977987733 : Int64))) ||| (v4 ^^^ (16551456537884751 : Int64))) ||| (v5 ^^^ (23443114579904617 : Int64))) ||| (v6 ^^^ (1829881462546425 : Int64))) = (0 : Int64) then (1 : Int32) else (0 : Int32))) [(.int (0 : Int32)), (.ref b89)])) rfl (by rw [hml]; rfl) (argsL := [(.ref b89), (.int (0 : Int32))]) (rest := []) (lenOf pd___JI_Z rfl) rfl (by show 2 * 0 + _ ≤ _; exact Nat.le_of_eq rfl) (hb hby at_467) (fun _ _ => ⟨rfl, e205, (by decide : 7 + 1 ≤ _), (by decide : 52 + 7 ≤ _)⟩)
                    dsimp only [Pt.U, Pt.locs, Pt.cells, Pt.slots] at X333 l333 y333 z333 st333 hQ333
                    subst l333 y333 z333
                    obtain ⟨rfl, N333q⟩ := hQ333
                    have N333 := Fr.app N205 N333q
                    refine own_go (B := T333.setTop (mkF m 470 (LS_JsJsJsJsJsIJsRRRIRIRI q0 q1 q2 q3 q4 p5 (36028797018963967 : Int64) o1 b2 b25 (((p5.toUInt32 >>> ((7 : Int32) &&& 31).toUInt32).toInt32) &&& (3 : Int32)) vv (0 : Int32) b89 (if ((((((v0 ||| v1) ||| v2) ||| v3) ||| v4) ||| v5) ||| v6) = (0 : Int64) ∨ (((((((v0 ^^^ (35747322042231467 : Int64)) ||| (v1 ^^^ (36025922209447795 : Int64))) ||| (v2 ^^^ (1084959616957103 : Int64))) ||| (v3 ^^^ (7925923977987733 : Int64))) ||| (v4 ^^^ (16551456537884751 : Int64))) ||| (v5 ^^^ (23443114579904617 : Int64))) ||| (v6 ^^^ (1829881462546425 : Int64))) = (0 : Int64) then (1 : Int32) else (0 : Int32))) [(.int (if (((((((own_c0 v0 v1 v2 v3 v4 v5 v6) ||| (own_c1 v0 v1 v2 v3 v4 v5 v6)) ||| (own_c2 v0 v1 v2 v3 v4 v5 v6)) ||| (own_c3 v0 v1 v2 v3 v4 v5 v6)) ||| (own_c4 v0 v1 v2 v3 v4 v5 v6)) ||| (own_c5 v0 v1 v2 v3 v4 v5 v6)) ||| (own_c6 v0 v1 v2 v3 v4 v5 v6)) = (0 : Int64) then (1 : Int32) else (0 : Int32)))])) (fun t k => st333 _ k) ?_
                    refine own_go (B := T333.setTop (mkF m 480 (LS_JsJsJsJsJsIJsRRRIRIRI q0 q1 q2 q3 q4 p5 (36028797018963967 : Int64) o1 b2 b25 (((p5.toUInt32 >>> ((7 : Int32) &&& 31).toUInt32).toInt32) &&& (3 : Int32)) vv (0 : Int32) b89 (if ((((((v0 ||| v1) ||| v2) ||| v3) ||| v4) ||| v5) ||| v6) = (0 : Int64) ∨ (((((((v0 ^^^ (35747322042231467 : Int64)) ||| (v1 ^^^ (36025922209447795 : Int64))) ||| (v2 ^^^ (1084959616957103 : Int64))) ||| (v3 ^^^ (7925923977987733 : Int64))) ||| (v4 ^^^ (16551456537884751 : Int64))) ||| (v5 ^^^ (23443114579904617 : Int64))) ||| (v6 ^^^ (1829881462546425 : Int64))) = (0 : Int64) then (1 : Int32) else (0 : Int32))) [(.int (1 : Int32))])) (fun t k => ?_) ?_
                    · show Steps p.tables e below (T333.setTop (mkF m 470 (LS_JsJsJsJsJsIJsRRRIRIRI q0 q1 q2 q3 q4 p5 (36028797018963967 : Int64) o1 b2 b25 (((p5.toUInt32 >>> ((7 : Int32) &&& 31).toUInt32).toInt32) &&& (3 : Int32)) vv (0 : Int32) b89 (if ((((((v0 ||| v1) ||| v2) ||| v3) ||| v4) ||| v5) ||| v6) = (0 : Int64) ∨ (((((((v0 ^^^ (35747322042231467 : Int64)) ||| (v1 ^^^ (36025922209447795 : Int64))) ||| (v2 ^^^ (1084959616957103 : Int64))) ||| (v3 ^^^ (7925923977987733 : Int64))) ||| (v4 ^^^ (16551456537884751 : Int64))) ||| (v5 ^^^ (23443114579904617 : Int64))) ||| (v6 ^^^ (1829881462546425 : Int64))) = (0 : Int64) then (1 : Int32) else (0 : Int32))) [(.int (if (((((((own_c0 v0 v1 v2 v3 v4 v5 v6) ||| (own_c1 v0 v1 v2 v3 v4 v5 v6)) ||| (own_c2 v0 v1 v2 v3 v4 v5 v6)) ||| (own_c3 v0 v1 v2 v3 v4 v5 v6)) ||| (own_c4 v0 v1 v2 v3 v4 v5 v6)) ||| (own_c5 v0 v1 v2 v3 v4 v5 v6)) ||| (own_c6 v0 v1 v2 v3 v4 v5 v6)) = (0 : Int64) then (1 : Int32) else (0 : Int32)))])) _
                      refine XS.iload X333.here hx rfl (hb hby at_470) rfl ?_
                      show Steps p.tables e below (T333.setTop (mkF m 472 (LS_JsJsJsJsJsIJsRRRIRIRI q0 q1 q2 q3 q4 p5 (36028797018963967 : Int64) o1 b2 b25 (((p5.toUInt32 >>> ((7 : Int32) &&& 31).toUInt32).toInt32) &&& (3 : Int32)) vv (0 : Int32) b89 (if ((((((v0 ||| v1) ||| v2) ||| v3) ||| v4) ||| v5) ||| v6) = (0 : Int64) ∨ (((((((v0 ^^^ (35747322042231467 : Int64)) ||| (v1 ^^^ (36025922209447795 : Int64))) ||| (v2 ^^^ (1084959616957103 : Int64))) ||| (v3 ^^^ (7925923977987733 : Int64))) ||| (v4 ^^^ (16551456537884751 : Int64))) ||| (v5 ^^^ (23443114579904617 : Int64))) ||| (v6 ^^^ (1829881462546425 : Int64))) = (0 : Int64) then (1 : Int32) else (0 : Int32))) [(.int (if ((((((v0 ||| v1) ||| v2) ||| v3) ||| v4) ||| v5) ||| v6) = (0 : Int64) ∨ (((((((v0 ^^^ (35747322042231467 : Int64)) ||| (v1 ^^^ (36025922209447795 : Int64))) ||| (v2 ^^^ (1084959616957103 : Int64))) ||| (v3 ^^^ (7925923977987733 : Int64))) ||| (v4 ^^^ (16551456537884751 : Int64))) ||| (v5 ^^^ (23443114579904617 : Int64))) ||| (v6 ^^^ (1829881462546425 : Int64))) = (0 : Int64) then (1 : Int32) else (0 : Int32))), (.int (if (((((((own_c0 v0 v1 v2 v3 v4 v5 v6) ||| (own_c1 v0 v1 v2 v3 v4 v5 v6)) ||| (own_c2 v0 v1 v2 v3 v4 v5 v6)) ||| (own_c3 v0 v1 v2 v3 v4 v5 v6)) ||| (own_c4 v0 v1 v2 v3 v4 v5 v6)) ||| (own_c5 v0 v1 v2 v3 v4 v5 v6)) ||| (own_c6 v0 v1 v2 v3 v4 v5 v6)) = (0 : Int64) then (1 : Int32) else (0 : Int32)))])) _
                      refine XS.icmpNo X333.here hx rfl (hb hby at_472) rfl (teq (own_ite ((own_zero bv0 bv1 bv2 bv3 bv4 bv5 bv6)))).2 ?_
                      show Steps p.tables e below (T333.setTop (mkF m 475 (LS_JsJsJsJsJsIJsRRRIRIRI q0 q1 q2 q3 q4 p5 (36028797018963967 : Int64) o1 b2 b25 (((p5.toUInt32 >>> ((7 : Int32) &&& 31).toUInt32).toInt32) &&& (3 : Int32)) vv (0 : Int32) b89 (if ((((((v0 ||| v1) ||| v2) ||| v3) ||| v4) ||| v5) ||| v6) = (0 : Int64) ∨ (((((((v0 ^^^ (35747322042231467 : Int64)) ||| (v1 ^^^ (36025922209447795 : Int64))) ||| (v2 ^^^ (1084959616957103 : Int64))) ||| (v3 ^^^ (7925923977987733 : Int64))) ||| (v4 ^^^ (16551456537884751 : Int64))) ||| (v5 ^^^ (23443114579904617 : Int64))) ||| (v6 ^^^ (1829881462546425 : Int64))) = (0 : Int64) then (1 : Int32) else (0 : Int32))) [])) _
                      refine XS.iconst X333.here hx rfl (hb hby at_475) ?_
                      show Steps p.tables e below (T333.setTop (mkF m 476 (LS_JsJsJsJsJsIJsRRRIRIRI q0 q1 q2 q3 q4 p5 (36028797018963967 : Int64) o1 b2 b25 (((p5.toUInt32 >>> ((7 : Int32) &&& 31).toUInt32).toInt32) &&& (3 : Int32)) vv (0 : Int32) b89 (if ((((((v0 ||| v1) ||| v2) ||| v3) ||| v4) ||| v5) ||| v6) = (0 : Int64) ∨ (((((((v0 ^^^ (35747322042231467 : Int64)) ||| (v1 ^^^ (36025922209447795 : Int64))) ||| (v2 ^^^ (1084959616957103 : Int64))) ||| (v3 ^^^ (7925923977987733 : Int64))) ||| (v4 ^^^ (16551456537884751 : Int64))) ||| (v5 ^^^ (23443114579904617 : Int64))) ||| (v6 ^^^ (1829881462546425 : Int64))) = (0 : Int64) then (1 : Int32) else (0 : Int32))) [(.int (1 : Int32))])) _
                      refine XS.goto X333.here hx rfl (pc0 := 476) (pc' := 480) rfl (hb hby at_476) (by decide) (by decide) ?_
                      exact k
                    obtain ⟨fs, hr, hrun, hended, hW, hsame⟩ := X333.leave (v := some (.int (1 : Int32))) (fun h => by rw [Bd.returns] at h; cases h)
                    refine ⟨_, _, ?_, hrun, hended, _, _, rfl, ?_, ⟨_, rfl⟩, hW, hsame.mono (by decide) (by decide)⟩
                    · show Steps p.tables e below (T333.setTop (mkF m 480 (LS_JsJsJsJsJsIJsRRRIRIRI q0 q1 q2 q3 q4 p5 (36028797018963967 : Int64) o1 b2 b25 (((p5.toUInt32 >>> ((7 : Int32) &&& 31).toUInt32).toInt32) &&& (3 : Int32)) vv (0 : Int32) b89 (if ((((((v0 ||| v1) ||| v2) ||| v3) ||| v4) ||| v5) ||| v6) = (0 : Int64) ∨ (((((((v0 ^^^ (35747322042231467 : Int64)) ||| (v1 ^^^ (36025922209447795 : Int64))) ||| (v2 ^^^ (1084959616957103 : Int64))) ||| (v3 ^^^ (7925923977987733 : Int64))) ||| (v4 ^^^ (16551456537884751 : Int64))) ||| (v5 ^^^ (23443114579904617 : Int64))) ||| (v6 ^^^ (1829881462546425 : Int64))) = (0 : Int64) then (1 : Int32) else (0 : Int32))) [(.int (1 : Int32))])) _
                      exact retN X333 hx (t := .boolean) Bd.returns (by simp) (hb hby at_480) hr
                    · show Q0 Z q0 q1 q2 q3 q4 p5 h0 n0 _ T333.heap _
                      exact ⟨rfl, N333⟩
                  · rw [hk110]
                    have Vv88_v335 := Vv88.ext E89
                    have ne337 : vv ≠ b89 := Nat.ne_of_lt (Nat.lt_of_lt_of_le Vv88.lt (Nat.le_of_eq g89.symm))
                    have Vv88_v336 := Vv88_v335.other W91 ne337
                    have Vv88_v338 := Vv88_v336.other W93 ne337
                    have Vv88_v339 := Vv88_v338.other W95 ne337
                    have Vv88_v340 := Vv88_v339.other W97 ne337
                    have Vv88_v341 := Vv88_v340.other W99 ne337
                    have Vv88_v342 := Vv88_v341.other W101 ne337
                    have Vv88_v343 := Vv88_v342.other W103 ne337
                    have Vv88_v344 := Vv88_v343.other W105 ne337
                    have Vv88_v345 := Vv88_v344.other W107 ne337
                    have Vv88_v346 := Vv88_v345.other W109 ne337
                    obtain ⟨cl334, Ar334, qa334, Sa334, Na334, Ha334, Ga334⟩ := id Vv88_v346
                    have hin347 : ¬ ((0 : Int32) < 0 ∨ cl334.slots.size ≤ ((0 : Int32)).toNatClampNeg) := inb_of Sa334 ⟨by decide, by decide⟩
                    have hat347 : cl334.slots[((0 : Int32)).toNatClampNeg]? = some (.long v0) := Has.at Ha334 hin347 rfl
                    refine own_go (B := T109.setTop (mkF m 385 (LS_JsJsJsJsJsIJsRRRIRIRu q0 q1 q2 q3 q4 p5 (36028797018963967 : Int64) o1 b2 b25 (((p5.toUInt32 >>> ((7 : Int32) &&& 31).toUInt32).toInt32) &&& (3 : Int32)) vv (1 : Int32) b89) [(.long v0), (.int (1 : Int32)), (.ref b89)])) (fun t k => ?_) ?_
                    · show Steps p.tables e below (T109.setTop (mkF m 377 (LS_JsJsJsJsJsIJsRRRIRIRu q0 q1 q2 q3 q4 p5 (36028797018963967 : Int64) o1 b2 b25 (((p5.toUInt32 >>> ((7 : Int32) &&& 31).toUInt32).toInt32) &&& (3 : Int32)) vv (1 : Int32) b89) [])) _
                      refine XS.aload X109.here hx rfl (hb hby at_377) rfl rfl ?_
                      show Steps p.tables e below (T109.setTop (mkF m 379 (LS_JsJsJsJsJsIJsRRRIRIRu q0 q1 q2 q3 q4 p5 (36028797018963967 : Int64) o1 b2 b25 (((p5.toUInt32 >>> ((7 : Int32) &&& 31).toUInt32).toInt32) &&& (3 : Int32)) vv (1 : Int32) b89) [(.ref b89)])) _
                      refine XS.iload X109.here hx rfl (hb hby at_379) rfl ?_
                      show Steps p.tables e below (T109.setTop (mkF m 381 (LS_JsJsJsJsJsIJsRRRIRIRu q0 q1 q2 q3 q4 p5 (36028797018963967 : Int64) o1 b2 b25 (((p5.toUInt32 >>> ((7 : Int32) &&& 31).toUInt32).toInt32) &&& (3 : Int32)) vv (1 : Int32) b89) [(.int (1 : Int32)), (.ref b89)])) _
                      refine XS.aload X109.here hx rfl (hb hby at_381) rfl rfl ?_
                      show Steps p.tables e below (T109.setTop (mkF m 383 (LS_JsJsJsJsJsIJsRRRIRIRu q0 q1 q2 q3 q4 p5 (36028797018963967 : Int64) o1 b2 b25 (((p5.toUInt32 >>> ((7 : Int32) &&& 31).toUInt32).toInt32) &&& (3 : Int32)) vv (1 : Int32) b89) [(.ref vv), (.int (1 : Int32)), (.ref b89)])) _
                      refine XS.iconst X109.here hx rfl (hb hby at_383) ?_
                      show Steps p.tables e below (T109.setTop (mkF m 384 (LS_JsJsJsJsJsIJsRRRIRIRu q0 q1 q2 q3 q4 p5 (36028797018963967 : Int64) o1 b2 b25 (((p5.toUInt32 >>> ((7 : Int32) &&& 31).toUInt32).toInt32) &&& (3 : Int32)) vv (1 : Int32) b89) [(.int (0 : Int32)), (.ref vv), (.int (1 : Int32)), (.ref b89)])) _
                      refine X109.laload hx (j := (0 : Int32)) (v := (.long v0)) (by rw [e109]; exact Ar334.1) (State.isArrayOf_alike hZ.alike Ar334.2.1) Ar334.2.2 hin347 hat347 (g := (mkF m 384 (LS_JsJsJsJsJsIJsRRRIRIRu q0 q1 q2 q3 q4 p5 (36028797018963967 : Int64) o1 b2 b25 (((p5.toUInt32 >>> ((7 : Int32) &&& 31).toUInt32).toInt32) &&& (3 : Int32)) vv (1 : Int32) b89) [(.int (0 : Int32)), (.ref vv), (.int (1 : Int32)), (.ref b89)])) rfl rfl (hb hby at_384) _ ?_
                      exact k
                    obtain ⟨cl348, Ar348, qa348, Sa348, Na348, Ha348, Ga348⟩ := id V109
                    have hin349 : ¬ ((1 : Int32) < 0 ∨ cl348.slots.size ≤ ((1 : Int32)).toNatClampNeg) := inb_of Sa348 ⟨by decide, by decide⟩
                    obtain ⟨T349, h349, X349, e349, W349, st349⟩ := stJ X109 hx hZ e109 Ar348 (j := (1 : Int32)) hin349 (g := (mkF m 385 (LS_JsJsJsJsJsIJsRRRIRIRu q0 q1 q2 q3 q4 p5 (36028797018963967 : Int64) o1 b2 b25 (((p5.toUInt32 >>> ((7 : Int32) &&& 31).toUInt32).toInt32) &&& (3 : Int32)) vv (1 : Int32) b89) [(.long v0), (.int (1 : Int32)), (.ref b89)])) rfl rfl (hb hby at_385)
                    have N349 := Fr.snoc X349 N109 g_b89
                    have V349 : Arv Z h349 b89 k89 .long (10 : Int32) [(.long (1 : Int64)), (.long v0), (.long (1 : Int64)), (.long (1 : Int64)), (.long (1 : Int64)), (.long (1 : Int64)), (.long (1 : Int64)), (.long (1 : Int64)), (.long (1 : Int64)), (.long (1 : Int64))] (.long (0 : Int64)) := Arv.set Ar348 qa348 Sa348 Na348 Ha348 Ga348 rfl W349 1 rfl (Nat.le_of_ble_eq_true rfl)
                    refine own_go (B := T349.setTop (mkF m 386 (LS_JsJsJsJsJsIJsRRRIRIRu q0 q1 q2 q3 q4 p5 (36028797018963967 : Int64) o1 b2 b25 (((p5.toUInt32 >>> ((7 : Int32) &&& 31).toUInt32).toInt32) &&& (3 : Int32)) vv (1 : Int32) b89) [])) (fun t k => st349 _ k) ?_
                    have Vv88_v351 := Vv88_v335.other W91 ne337
                    have Vv88_v352 := Vv88_v351.other W93 ne337
                    have Vv88_v353 := Vv88_v352.other W95 ne337
                    have Vv88_v354 := Vv88_v353.other W97 ne337
                    have Vv88_v355 := Vv88_v354.other W99 ne337
                    have Vv88_v356 := Vv88_v355.other W101 ne337
                    have Vv88_v357 := Vv88_v356.other W103 ne337
                    have Vv88_v358 := Vv88_v357.other W105 ne337
                    have Vv88_v359 := Vv88_v358.other W107 ne337
                    have Vv88_v360 := Vv88_v359.other W109 ne337
                    have Vv88_v361 := Vv88_v360.other W349 ne337
                    obtain ⟨cl350, Ar350, qa350, Sa350, Na350, Ha350, Ga350⟩ := id Vv88_v361
                    have hin362 : ¬ ((1 : Int32) < 0 ∨ cl350.slots.size ≤ ((1 : Int32)).toNatClampNeg) := inb_of Sa350 ⟨by decide, by decide⟩
                    have hat362 : cl350.slots[((1 : Int32)).toNatClampNeg]? = some (.long v1) := Has.at Ha350 hin362 rfl
                    refine own_go (B := T349.setTop (mkF m 396 (LS_JsJsJsJsJsIJsRRRIRIRu q0 q1 q2 q3 q4 p5 (36028797018963967 : Int64) o1 b2 b25 (((p5.toUInt32 >>> ((7 : Int32) &&& 31).toUInt32).toInt32) &&& (3 : Int32)) vv (1 : Int32) b89) [(.long v1), (.int (2 : Int32)), (.ref b89)])) (fun t k => ?_) ?_
                    · show Steps p.tables e below (T349.setTop (mkF m 386 (LS_JsJsJsJsJsIJsRRRIRIRu q0 q1 q2 q3 q4 p5 (36028797018963967 : Int64) o1 b2 b25 (((p5.toUInt32 >>> ((7 : Int32) &&& 31).toUInt32).toInt32) &&& (3 : Int32)) vv (1 : Int32) b89) [])) _
                      refine XS.aload X349.here hx rfl (hb hby at_386) rfl rfl ?_
                      show Steps p.tables e below (T349.setTop (mkF m 388 (LS_JsJsJsJsJsIJsRRRIRIRu q0 q1 q2 q3 q4 p5 (36028797018963967 : Int64) o1 b2 b25 (((p5.toUInt32 >>> ((7 : Int32) &&& 31).toUInt32).toInt32) &&& (3 : Int32)) vv (1 : Int32) b89) [(.ref b89)])) _
                      refine XS.iload X349.here hx rfl (hb hby at_388) rfl ?_
                      show Steps p.tables e below (T349.setTop (mkF m 390 (LS_JsJsJsJsJsIJsRRRIRIRu q0 q1 q2 q3 q4 p5 (36028797018963967 : Int64) o1 b2 b25 (((p5.toUInt32 >>> ((7 : Int32) &&& 31).toUInt32).toInt32) &&& (3 : Int32)) vv (1 : Int32) b89) [(.int (1 : Int32)), (.ref b89)])) _
                      refine XS.iconst X349.here hx rfl (hb hby at_390) ?_
                      show Steps p.tables e below (T349.setTop (mkF m 391 (LS_JsJsJsJsJsIJsRRRIRIRu q0 q1 q2 q3 q4 p5 (36028797018963967 : Int64) o1 b2 b25 (((p5.toUInt32 >>> ((7 : Int32) &&& 31).toUInt32).toInt32) &&& (3 : Int32)) vv (1 : Int32) b89) [(.int (1 : Int32)), (.int (1 : Int32)), (.ref b89)])) _
                      refine XS.iadd X349.here hx rfl (hb hby at_391) rfl ?_
                      rw [show ((1 : Int32) + (1 : Int32)) = (2 : Int32) from by decide]
                      show Steps p.tables e below (T349.setTop (mkF m 392 (LS_JsJsJsJsJsIJsRRRIRIRu q0 q1 q2 q3 q4 p5 (36028797018963967 : Int64) o1 b2 b25 (((p5.toUInt32 >>> ((7 : Int32) &&& 31).toUInt32).toInt32) &&& (3 : Int32)) vv (1 : Int32) b89) [(.int (2 : Int32)), (.ref b89)])) _
                      refine XS.aload X349.here hx rfl (hb hby at_392) rfl rfl ?_
                      show Steps p.tables e below (T349.setTop (mkF m 394 (LS_JsJsJsJsJsIJsRRRIRIRu q0 q1 q2 q3 q4 p5 (36028797018963967 : Int64) o1 b2 b25 (((p5.toUInt32 >>> ((7 : Int32) &&& 31).toUInt32).toInt32) &&& (3 : Int32)) vv (1 : Int32) b89) [(.ref vv), (.int (2 : Int32)), (.ref b89)])) _
                      refine XS.iconst X349.here hx rfl (hb hby at_394) ?_
                      show Steps p.tables e below (T349.setTop (mkF m 395 (LS_JsJsJsJsJsIJsRRRIRIRu q0 q1 q2 q3 q4 p5 (36028797018963967 : Int64) o1 b2 b25 (((p5.toUInt32 >>> ((7 : Int32) &&& 31).toUInt32).toInt32) &&& (3 : Int32)) vv (1 : Int32) b89) [(.int (1 : Int32)), (.ref vv), (.int (2 : Int32)), (.ref b89)])) _
                      refine X349.laload hx (j := (1 : Int32)) (v := (.long v1)) (by rw [e349]; exact Ar350.1) (State.isArrayOf_alike hZ.alike Ar350.2.1) Ar350.2.2 hin362 hat362 (g := (mkF m 395 (LS_JsJsJsJsJsIJsRRRIRIRu q0 q1 q2 q3 q4 p5 (36028797018963967 : Int64) o1 b2 b25 (((p5.toUInt32 >>> ((7 : Int32) &&& 31).toUInt32).toInt32) &&& (3 : Int32)) vv (1 : Int32) b89) [(.int (1 : Int32)), (.ref vv), (.int (2 : Int32)), (.ref b89)])) rfl rfl (hb hby at_395) _ ?_
                      exact k
                    obtain ⟨cl363, Ar363, qa363, Sa363, Na363, Ha363, Ga363⟩ := id V349
                    have hin364 : ¬ ((2 : Int32) < 0 ∨ cl363.slots.size ≤ ((2 : Int32)).toNatClampNeg) := inb_of Sa363 ⟨by decide, by decide⟩
                    obtain ⟨T364, h364, X364, e364, W364, st364⟩ := stJ X349 hx hZ e349 Ar363 (j := (2 : Int32)) hin364 (g := (mkF m 396 (LS_JsJsJsJsJsIJsRRRIRIRu q0 q1 q2 q3 q4 p5 (36028797018963967 : Int64) o1 b2 b25 (((p5.toUInt32 >>> ((7 : Int32) &&& 31).toUInt32).toInt32) &&& (3 : Int32)) vv (1 : Int32) b89) [(.long v1), (.int (2 : Int32)), (.ref b89)])) rfl rfl (hb hby at_396)
                    have N364 := Fr.snoc X364 N349 g_b89
                    have V364 : Arv Z h364 b89 k89 .long (10 : Int32) [(.long (1 : Int64)), (.long v0), (.long v1), (.long (1 : Int64)), (.long (1 : Int64)), (.long (1 : Int64)), (.long (1 : Int64)), (.long (1 : Int64)), (.long (1 : Int64)), (.long (1 : Int64))] (.long (0 : Int64)) := Arv.set Ar363 qa363 Sa363 Na363 Ha363 Ga363 rfl W364 2 rfl (Nat.le_of_ble_eq_true rfl)
                    refine own_go (B := T364.setTop (mkF m 397 (LS_JsJsJsJsJsIJsRRRIRIRu q0 q1 q2 q3 q4 p5 (36028797018963967 : Int64) o1 b2 b25 (((p5.toUInt32 >>> ((7 : Int32) &&& 31).toUInt32).toInt32) &&& (3 : Int32)) vv (1 : Int32) b89) [])) (fun t k => st364 _ k) ?_
                    have Vv88_v366 := Vv88_v361.other W364 ne337
                    obtain ⟨cl365, Ar365, qa365, Sa365, Na365, Ha365, Ga365⟩ := id Vv88_v366
                    have hin367 : ¬ ((2 : Int32) < 0 ∨ cl365.slots.size ≤ ((2 : Int32)).toNatClampNeg) := inb_of Sa365 ⟨by decide, by decide⟩
                    have hat367 : cl365.slots[((2 : Int32)).toNatClampNeg]? = some (.long v2) := Has.at Ha365 hin367 rfl
                    refine own_go (B := T364.setTop (mkF m 407 (LS_JsJsJsJsJsIJsRRRIRIRu q0 q1 q2 q3 q4 p5 (36028797018963967 : Int64) o1 b2 b25 (((p5.toUInt32 >>> ((7 : Int32) &&& 31).toUInt32).toInt32) &&& (3 : Int32)) vv (1 : Int32) b89) [(.long v2), (.int (3 : Int32)), (.ref b89)])) (fun t k => ?_) ?_
                    · show Steps p.tables e below (T364.setTop (mkF m 397 (LS_JsJsJsJsJsIJsRRRIRIRu q0 q1 q2 q3 q4 p5 (36028797018963967 : Int64) o1 b2 b25 (((p5.toUInt32 >>> ((7 : Int32) &&& 31).toUInt32).toInt32) &&& (3 : Int32)) vv (1 : Int32) b89) [])) _
                      refine XS.aload X364.here hx rfl (hb hby at_397) rfl rfl ?_
                      show Steps p.tables e below (T364.setTop (mkF m 399 (LS_JsJsJsJsJsIJsRRRIRIRu q0 q1 q2 q3 q4 p5 (36028797018963967 : Int64) o1 b2 b25 (((p5.toUInt32 >>> ((7 : Int32) &&& 31).toUInt32).toInt32) &&& (3 : Int32)) vv (1 : Int32) b89) [(.ref b89)])) _
                      refine XS.iload X364.here hx rfl (hb hby at_399) rfl ?_
                      show Steps p.tables e below (T364.setTop (mkF m 401 (LS_JsJsJsJsJsIJsRRRIRIRu q0 q1 q2 q3 q4 p5 (36028797018963967 : Int64) o1 b2 b25 (((p5.toUInt32 >>> ((7 : Int32) &&& 31).toUInt32).toInt32) &&& (3 : Int32)) vv (1 : Int32) b89) [(.int (1 : Int32)), (.ref b89)])) _
                      refine XS.iconst X364.here hx rfl (hb hby at_401) ?_
                      show Steps p.tables e below (T364.setTop (mkF m 402 (LS_JsJsJsJsJsIJsRRRIRIRu q0 q1 q2 q3 q4 p5 (36028797018963967 : Int64) o1 b2 b25 (((p5.toUInt32 >>> ((7 : Int32) &&& 31).toUInt32).toInt32) &&& (3 : Int32)) vv (1 : Int32) b89) [(.int (2 : Int32)), (.int (1 : Int32)), (.ref b89)])) _
                      refine XS.iadd X364.here hx rfl (hb hby at_402) rfl ?_
                      rw [show ((1 : Int32) + (2 : Int32)) = (3 : Int32) from by decide]
                      show Steps p.tables e below (T364.setTop (mkF m 403 (LS_JsJsJsJsJsIJsRRRIRIRu q0 q1 q2 q3 q4 p5 (36028797018963967 : Int64) o1 b2 b25 (((p5.toUInt32 >>> ((7 : Int32) &&& 31).toUInt32).toInt32) &&& (3 : Int32)) vv (1 : Int32) b89) [(.int (3 : Int32)), (.ref b89)])) _
                      refine XS.aload X364.here hx rfl (hb hby at_403) rfl rfl ?_
                      show Steps p.tables e below (T364.setTop (mkF m 405 (LS_JsJsJsJsJsIJsRRRIRIRu q0 q1 q2 q3 q4 p5 (36028797018963967 : Int64) o1 b2 b25 (((p5.toUInt32 >>> ((7 : Int32) &&& 31).toUInt32).toInt32) &&& (3 : Int32)) vv (1 : Int32) b89) [(.ref vv), (.int (3 : Int32)), (.ref b89)])) _
                      refine XS.iconst X364.here hx rfl (hb hby at_405) ?_
                      show Steps p.tables e below (T364.setTop (mkF m 406 (LS_JsJsJsJsJsIJsRRRIRIRu q0 q1 q2 q3 q4 p5 (36028797018963967 : Int64) o1 b2 b25 (((p5.toUInt32 >>> ((7 : Int32) &&& 31).toUInt32).toInt32) &&& (3 : Int32)) vv (1 : Int32) b89) [(.int (2 : Int32)), (.ref vv), (.int (3 : Int32)), (.ref b89)])) _
                      refine X364.laload hx (j := (2 : Int32)) (v := (.long v2)) (by rw [e364]; exact Ar365.1) (State.isArrayOf_alike hZ.alike Ar365.2.1) Ar365.2.2 hin367 hat367 (g := (mkF m 406 (LS_JsJsJsJsJsIJsRRRIRIRu q0 q1 q2 q3 q4 p5 (36028797018963967 : Int64) o1 b2 b25 (((p5.toUInt32 >>> ((7 : Int32) &&& 31).toUInt32).toInt32) &&& (3 : Int32)) vv (1 : Int32) b89) [(.int (2 : Int32)), (.ref vv), (.int (3 : Int32)), (.ref b89)])) rfl rfl (hb hby at_406) _ ?_
                      exact k
                    obtain ⟨cl368, Ar368, qa368, Sa368, Na368, Ha368, Ga368⟩ := id V364
                    have hin369 : ¬ ((3 : Int32) < 0 ∨ cl368.slots.size ≤ ((3 : Int32)).toNatClampNeg) := inb_of Sa368 ⟨by decide, by decide⟩
                    obtain ⟨T369, h369, X369, e369, W369, st369⟩ := stJ X364 hx hZ e364 Ar368 (j := (3 : Int32)) hin369 (g := (mkF m 407 (LS_JsJsJsJsJsIJsRRRIRIRu q0 q1 q2 q3 q4 p5 (36028797018963967 : Int64) o1 b2 b25 (((p5.toUInt32 >>> ((7 : Int32) &&& 31).toUInt32).toInt32) &&& (3 : Int32)) vv (1 : Int32) b89) [(.long v2), (.int (3 : Int32)), (.ref b89)])) rfl rfl (hb hby at_407)
                    have N369 := Fr.snoc X369 N364 g_b89
                    have V369 : Arv Z h369 b89 k89 .long (10 : Int32) [(.long (1 : Int64)), (.long v0), (.long v1), (.long v2), (.long (1 : Int64)), (.long (1 : Int64)), (.long (1 : Int64)), (.long (1 : Int64)), (.long (1 : Int64)), (.long (1 : Int64))] (.long (0 : Int64)) := Arv.set Ar368 qa368 Sa368 Na368 Ha368 Ga368 rfl W369 3 rfl (Nat.le_of_ble_eq_true rfl)
                    refine own_go (B := T369.setTop (mkF m 408 (LS_JsJsJsJsJsIJsRRRIRIRu q0 q1 q2 q3 q4 p5 (36028797018963967 : Int64) o1 b2 b25 (((p5.toUInt32 >>> ((7 : Int32) &&& 31).toUInt32).toInt32) &&& (3 : Int32)) vv (1 : Int32) b89) [])) (fun t k => st369 _ k) ?_
                    have Vv88_v371 := Vv88_v366.other W369 ne337
                    obtain ⟨cl370, Ar370, qa370, Sa370, Na370, Ha370, Ga370⟩ := id Vv88_v371
                    have hin372 : ¬ ((3 : Int32) < 0 ∨ cl370.slots.size ≤ ((3 : Int32)).toNatClampNeg) := inb_of Sa370 ⟨by decide, by decide⟩
                    have hat372 : cl370.slots[((3 : Int32)).toNatClampNeg]? = some (.long v3) := Has.at Ha370 hin372 rfl
                    refine own_go (B := T369.setTop (mkF m 418 (LS_JsJsJsJsJsIJsRRRIRIRu q0 q1 q2 q3 q4 p5 (36028797018963967 : Int64) o1 b2 b25 (((p5.toUInt32 >>> ((7 : Int32) &&& 31).toUInt32).toInt32) &&& (3 : Int32)) vv (1 : Int32) b89) [(.long v3), (.int (4 : Int32)), (.ref b89)])) (fun t k => ?_) ?_
                    · show Steps p.tables e below (T369.setTop (mkF m 408 (LS_JsJsJsJsJsIJsRRRIRIRu q0 q1 q2 q3 q4 p5 (36028797018963967 : Int64) o1 b2 b25 (((p5.toUInt32 >>> ((7 : Int32) &&& 31).toUInt32).toInt32) &&& (3 : Int32)) vv (1 : Int32) b89) [])) _
                      refine XS.aload X369.here hx rfl (hb hby at_408) rfl rfl ?_
                      show Steps p.tables e below (T369.setTop (mkF m 410 (LS_JsJsJsJsJsIJsRRRIRIRu q0 q1 q2 q3 q4 p5 (36028797018963967 : Int64) o1 b2 b25 (((p5.toUInt32 >>> ((7 : Int32) &&& 31).toUInt32).toInt32) &&& (3 : Int32)) vv (1 : Int32) b89) [(.ref b89)])) _
                      refine XS.iload X369.here hx rfl (hb hby at_410) rfl ?_
                      show Steps p.tables e below (T369.setTop (mkF m 412 (LS_JsJsJsJsJsIJsRRRIRIRu q0 q1 q2 q3 q4 p5 (36028797018963967 : Int64) o1 b2 b25 (((p5.toUInt32 >>> ((7 : Int32) &&& 31).toUInt32).toInt32) &&& (3 : Int32)) vv (1 : Int32) b89) [(.int (1 : Int32)), (.ref b89)])) _
                      refine XS.iconst X369.here hx rfl (hb hby at_412) ?_
                      show Steps p.tables e below (T369.setTop (mkF m 413 (LS_JsJsJsJsJsIJsRRRIRIRu q0 q1 q2 q3 q4 p5 (36028797018963967 : Int64) o1 b2 b25 (((p5.toUInt32 >>> ((7 : Int32) &&& 31).toUInt32).toInt32) &&& (3 : Int32)) vv (1 : Int32) b89) [(.int (3 : Int32)), (.int (1 : Int32)), (.ref b89)])) _
                      refine XS.iadd X369.here hx rfl (hb hby at_413) rfl ?_
                      rw [show ((1 : Int32) + (3 : Int32)) = (4 : Int32) from by decide]
                      show Steps p.tables e below (T369.setTop (mkF m 414 (LS_JsJsJsJsJsIJsRRRIRIRu q0 q1 q2 q3 q4 p5 (36028797018963967 : Int64) o1 b2 b25 (((p5.toUInt32 >>> ((7 : Int32) &&& 31).toUInt32).toInt32) &&& (3 : Int32)) vv (1 : Int32) b89) [(.int (4 : Int32)), (.ref b89)])) _
                      refine XS.aload X369.here hx rfl (hb hby at_414) rfl rfl ?_
                      show Steps p.tables e below (T369.setTop (mkF m 416 (LS_JsJsJsJsJsIJsRRRIRIRu q0 q1 q2 q3 q4 p5 (36028797018963967 : Int64) o1 b2 b25 (((p5.toUInt32 >>> ((7 : Int32) &&& 31).toUInt32).toInt32) &&& (3 : Int32)) vv (1 : Int32) b89) [(.ref vv), (.int (4 : Int32)), (.ref b89)])) _
                      refine XS.iconst X369.here hx rfl (hb hby at_416) ?_
                      show Steps p.tables e below (T369.setTop (mkF m 417 (LS_JsJsJsJsJsIJsRRRIRIRu q0 q1 q2 q3 q4 p5 (36028797018963967 : Int64) o1 b2 b25 (((p5.toUInt32 >>> ((7 : Int32) &&& 31).toUInt32).toInt32) &&& (3 : Int32)) vv (1 : Int32) b89) [(.int (3 : Int32)), (.ref vv), (.int (4 : Int32)), (.ref b89)])) _
                      refine X369.laload hx (j := (3 : Int32)) (v := (.long v3)) (by rw [e369]; exact Ar370.1) (State.isArrayOf_alike hZ.alike Ar370.2.1) Ar370.2.2 hin372 hat372 (g := (mkF m 417 (LS_JsJsJsJsJsIJsRRRIRIRu q0 q1 q2 q3 q4 p5 (36028797018963967 : Int64) o1 b2 b25 (((p5.toUInt32 >>> ((7 : Int32) &&& 31).toUInt32).toInt32) &&& (3 : Int32)) vv (1 : Int32) b89) [(.int (3 : Int32)), (.ref vv), (.int (4 : Int32)), (.ref b89)])) rfl rfl (hb hby at_417) _ ?_
                      exact k
                    obtain ⟨cl373, Ar373, qa373, Sa373, Na373, Ha373, Ga373⟩ := id V369
                    have hin374 : ¬ ((4 : Int32) < 0 ∨ cl373.slots.size ≤ ((4 : Int32)).toNatClampNeg) := inb_of Sa373 ⟨by decide, by decide⟩
                    obtain ⟨T374, h374, X374, e374, W374, st374⟩ := stJ X369 hx hZ e369 Ar373 (j := (4 : Int32)) hin374 (g := (mkF m 418 (LS_JsJsJsJsJsIJsRRRIRIRu q0 q1 q2 q3 q4 p5 (36028797018963967 : Int64) o1 b2 b25 (((p5.toUInt32 >>> ((7 : Int32) &&& 31).toUInt32).toInt32) &&& (3 : Int32)) vv (1 : Int32) b89) [(.long v3), (.int (4 : Int32)), (.ref b89)])) rfl rfl (hb hby at_418)
                    have N374 := Fr.snoc X374 N369 g_b89
                    have V374 : Arv Z h374 b89 k89 .long (10 : Int32) [(.long (1 : Int64)), (.long v0), (.long v1), (.long v2), (.long v3), (.long (1 : Int64)), (.long (1 : Int64)), (.long (1 : Int64)), (.long (1 : Int64)), (.long (1 : Int64))] (.long (0 : Int64)) := Arv.set Ar373 qa373 Sa373 Na373 Ha373 Ga373 rfl W374 4 rfl (Nat.le_of_ble_eq_true rfl)
                    refine own_go (B := T374.setTop (mkF m 419 (LS_JsJsJsJsJsIJsRRRIRIRu q0 q1 q2 q3 q4 p5 (36028797018963967 : Int64) o1 b2 b25 (((p5.toUInt32 >>> ((7 : Int32) &&& 31).toUInt32).toInt32) &&& (3 : Int32)) vv (1 : Int32) b89) [])) (fun t k => st374 _ k) ?_
                    have Vv88_v376 := Vv88_v371.other W374 ne337
                    obtain ⟨cl375, Ar375, qa375, Sa375, Na375, Ha375, Ga375⟩ := id Vv88_v376
                    have hin377 : ¬ ((4 : Int32) < 0 ∨ cl375.slots.size ≤ ((4 : Int32)).toNatClampNeg) := inb_of Sa375 ⟨by decide, by decide⟩
                    have hat377 : cl375.slots[((4 : Int32)).toNatClampNeg]? = some (.long v4) := Has.at Ha375 hin377 rfl
                    refine own_go (B := T374.setTop (mkF m 429 (LS_JsJsJsJsJsIJsRRRIRIRu q0 q1 q2 q3 q4 p5 (36028797018963967 : Int64) o1 b2 b25 (((p5.toUInt32 >>> ((7 : Int32) &&& 31).toUInt32).toInt32) &&& (3 : Int32)) vv (1 : Int32) b89) [(.long v4), (.int (5 : Int32)), (.ref b89)])) (fun t k => ?_) ?_
                    · show Steps p.tables e below (T374.setTop (mkF m 419 (LS_JsJsJsJsJsIJsRRRIRIRu q0 q1 q2 q3 q4 p5 (36028797018963967 : Int64) o1 b2 b25 (((p5.toUInt32 >>> ((7 : Int32) &&& 31).toUInt32).toInt32) &&& (3 : Int32)) vv (1 : Int32) b89) [])) _
                      refine XS.aload X374.here hx rfl (hb hby at_419) rfl rfl ?_
                      show Steps p.tables e below (T374.setTop (mkF m 421 (LS_JsJsJsJsJsIJsRRRIRIRu q0 q1 q2 q3 q4 p5 (36028797018963967 : Int64) o1 b2 b25 (((p5.toUInt32 >>> ((7 : Int32) &&& 31).toUInt32).toInt32) &&& (3 : Int32)) vv (1 : Int32) b89) [(.ref b89)])) _
                      refine XS.iload X374.here hx rfl (hb hby at_421) rfl ?_
                      show Steps p.tables e below (T374.setTop (mkF m 423 (LS_JsJsJsJsJsIJsRRRIRIRu q0 q1 q2 q3 q4 p5 (36028797018963967 : Int64) o1 b2 b25 (((p5.toUInt32 >>> ((7 : Int32) &&& 31).toUInt32).toInt32) &&& (3 : Int32)) vv (1 : Int32) b89) [(.int (1 : Int32)), (.ref b89)])) _
                      refine XS.iconst X374.here hx rfl (hb hby at_423) ?_
                      show Steps p.tables e below (T374.setTop (mkF m 424 (LS_JsJsJsJsJsIJsRRRIRIRu q0 q1 q2 q3 q4 p5 (36028797018963967 : Int64) o1 b2 b25 (((p5.toUInt32 >>> ((7 : Int32) &&& 31).toUInt32).toInt32) &&& (3 : Int32)) vv (1 : Int32) b89) [(.int (4 : Int32)), (.int (1 : Int32)), (.ref b89)])) _
                      refine XS.iadd X374.here hx rfl (hb hby at_424) rfl ?_
                      rw [show ((1 : Int32) + (4 : Int32)) = (5 : Int32) from by decide]
                      show Steps p.tables e below (T374.setTop (mkF m 425 (LS_JsJsJsJsJsIJsRRRIRIRu q0 q1 q2 q3 q4 p5 (36028797018963967 : Int64) o1 b2 b25 (((p5.toUInt32 >>> ((7 : Int32) &&& 31).toUInt32).toInt32) &&& (3 : Int32)) vv (1 : Int32) b89) [(.int (5 : Int32)), (.ref b89)])) _
                      refine XS.aload X374.here hx rfl (hb hby at_425) rfl rfl ?_
                      show Steps p.tables e below (T374.setTop (mkF m 427 (LS_JsJsJsJsJsIJsRRRIRIRu q0 q1 q2 q3 q4 p5 (36028797018963967 : Int64) o1 b2 b25 (((p5.toUInt32 >>> ((7 : Int32) &&& 31).toUInt32).toInt32) &&& (3 : Int32)) vv (1 : Int32) b89) [(.ref vv), (.int (5 : Int32)), (.ref b89)])) _
                      refine XS.iconst X374.here hx rfl (hb hby at_427) ?_
                      show Steps p.tables e below (T374.setTop (mkF m 428 (LS_JsJsJsJsJsIJsRRRIRIRu q0 q1 q2 q3 q4 p5 (36028797018963967 : Int64) o1 b2 b25 (((p5.toUInt32 >>> ((7 : Int32) &&& 31).toUInt32).toInt32) &&& (3 : Int32)) vv (1 : Int32) b89) [(.int (4 : Int32)), (.ref vv), (.int (5 : Int32)), (.ref b89)])) _
                      refine X374.laload hx (j := (4 : Int32)) (v := (.long v4)) (by rw [e374]; exact Ar375.1) (State.isArrayOf_alike hZ.alike Ar375.2.1) Ar375.2.2 hin377 hat377 (g := (mkF m 428 (LS_JsJsJsJsJsIJsRRRIRIRu q0 q1 q2 q3 q4 p5 (36028797018963967 : Int64) o1 b2 b25 (((p5.toUInt32 >>> ((7 : Int32) &&& 31).toUInt32).toInt32) &&& (3 : Int32)) vv (1 : Int32) b89) [(.int (4 : Int32)), (.ref vv), (.int (5 : Int32)), (.ref b89)])) rfl rfl (hb hby at_428) _ ?_
                      exact k
                    obtain ⟨cl378, Ar378, qa378, Sa378, Na378, Ha378, Ga378⟩ := id V374
                    have hin379 : ¬ ((5 : Int32) < 0 ∨ cl378.slots.size ≤ ((5 : Int32)).toNatClampNeg) := inb_of Sa378 ⟨by decide, by decide⟩
                    obtain ⟨T379, h379, X379, e379, W379, st379⟩ := stJ X374 hx hZ e374 Ar378 (j := (5 : Int32)) hin379 (g := (mkF m 429 (LS_JsJsJsJsJsIJsRRRIRIRu q0 q1 q2 q3 q4 p5 (36028797018963967 : Int64) o1 b2 b25 (((p5.toUInt32 >>> ((7 : Int32) &&& 31).toUInt32).toInt32) &&& (3 : Int32)) vv (1 : Int32) b89) [(.long v4), (.int (5 : Int32)), (.ref b89)])) rfl rfl (hb hby at_429)
                    have N379 := Fr.snoc X379 N374 g_b89
                    have V379 : Arv Z h379 b89 k89 .long (10 : Int32) [(.long (1 : Int64)), (.long v0), (.long v1), (.long v2), (.long v3), (.long v4), (.long (1 : Int64)), (.long (1 : Int64)), (.long (1 : Int64)), (.long (1 : Int64))] (.long (0 : Int64)) := Arv.set Ar378 qa378 Sa378 Na378 Ha378 Ga378 rfl W379 5 rfl (Nat.le_of_ble_eq_true rfl)
                    refine own_go (B := T379.setTop (mkF m 430 (LS_JsJsJsJsJsIJsRRRIRIRu q0 q1 q2 q3 q4 p5 (36028797018963967 : Int64) o1 b2 b25 (((p5.toUInt32 >>> ((7 : Int32) &&& 31).toUInt32).toInt32) &&& (3 : Int32)) vv (1 : Int32) b89) [])) (fun t k => st379 _ k) ?_
                    have Vv88_v381 := Vv88_v376.other W379 ne337
                    obtain ⟨cl380, Ar380, qa380, Sa380, Na380, Ha380, Ga380⟩ := id Vv88_v381
                    have hin382 : ¬ ((5 : Int32) < 0 ∨ cl380.slots.size ≤ ((5 : Int32)).toNatClampNeg) := inb_of Sa380 ⟨by decide, by decide⟩
                    have hat382 : cl380.slots[((5 : Int32)).toNatClampNeg]? = some (.long v5) := Has.at Ha380 hin382 rfl
                    refine own_go (B := T379.setTop (mkF m 440 (LS_JsJsJsJsJsIJsRRRIRIRu q0 q1 q2 q3 q4 p5 (36028797018963967 : Int64) o1 b2 b25 (((p5.toUInt32 >>> ((7 : Int32) &&& 31).toUInt32).toInt32) &&& (3 : Int32)) vv (1 : Int32) b89) [(.long v5), (.int (6 : Int32)), (.ref b89)])) (fun t k => ?_) ?_
                    · show Steps p.tables e below (T379.setTop (mkF m 430 (LS_JsJsJsJsJsIJsRRRIRIRu q0 q1 q2 q3 q4 p5 (36028797018963967 : Int64) o1 b2 b25 (((p5.toUInt32 >>> ((7 : Int32) &&& 31).toUInt32).toInt32) &&& (3 : Int32)) vv (1 : Int32) b89) [])) _
                      refine XS.aload X379.here hx rfl (hb hby at_430) rfl rfl ?_
                      show Steps p.tables e below (T379.setTop (mkF m 432 (LS_JsJsJsJsJsIJsRRRIRIRu q0 q1 q2 q3 q4 p5 (36028797018963967 : Int64) o1 b2 b25 (((p5.toUInt32 >>> ((7 : Int32) &&& 31).toUInt32).toInt32) &&& (3 : Int32)) vv (1 : Int32) b89) [(.ref b89)])) _
                      refine XS.iload X379.here hx rfl (hb hby at_432) rfl ?_
                      show Steps p.tables e below (T379.setTop (mkF m 434 (LS_JsJsJsJsJsIJsRRRIRIRu q0 q1 q2 q3 q4 p5 (36028797018963967 : Int64) o1 b2 b25 (((p5.toUInt32 >>> ((7 : Int32) &&& 31).toUInt32).toInt32) &&& (3 : Int32)) vv (1 : Int32) b89) [(.int (1 : Int32)), (.ref b89)])) _
                      refine XS.iconst X379.here hx rfl (hb hby at_434) ?_
                      show Steps p.tables e below (T379.setTop (mkF m 435 (LS_JsJsJsJsJsIJsRRRIRIRu q0 q1 q2 q3 q4 p5 (36028797018963967 : Int64) o1 b2 b25 (((p5.toUInt32 >>> ((7 : Int32) &&& 31).toUInt32).toInt32) &&& (3 : Int32)) vv (1 : Int32) b89) [(.int (5 : Int32)), (.int (1 : Int32)), (.ref b89)])) _
                      refine XS.iadd X379.here hx rfl (hb hby at_435) rfl ?_
                      rw [show ((1 : Int32) + (5 : Int32)) = (6 : Int32) from by decide]
                      show Steps p.tables e below (T379.setTop (mkF m 436 (LS_JsJsJsJsJsIJsRRRIRIRu q0 q1 q2 q3 q4 p5 (36028797018963967 : Int64) o1 b2 b25 (((p5.toUInt32 >>> ((7 : Int32) &&& 31).toUInt32).toInt32) &&& (3 : Int32)) vv (1 : Int32) b89) [(.int (6 : Int32)), (.ref b89)])) _
                      refine XS.aload X379.here hx rfl (hb hby at_436) rfl rfl ?_
                      show Steps p.tables e below (T379.setTop (mkF m 438 (LS_JsJsJsJsJsIJsRRRIRIRu q0 q1 q2 q3 q4 p5 (36028797018963967 : Int64) o1 b2 b25 (((p5.toUInt32 >>> ((7 : Int32) &&& 31).toUInt32).toInt32) &&& (3 : Int32)) vv (1 : Int32) b89) [(.ref vv), (.int (6 : Int32)), (.ref b89)])) _
                      refine XS.iconst X379.here hx rfl (hb hby at_438) ?_
                      show Steps p.tables e below (T379.setTop (mkF m 439 (LS_JsJsJsJsJsIJsRRRIRIRu q0 q1 q2 q3 q4 p5 (36028797018963967 : Int64) o1 b2 b25 (((p5.toUInt32 >>> ((7 : Int32) &&& 31).toUInt32).toInt32) &&& (3 : Int32)) vv (1 : Int32) b89) [(.int (5 : Int32)), (.ref vv), (.int (6 : Int32)), (.ref b89)])) _
                      refine X379.laload hx (j := (5 : Int32)) (v := (.long v5)) (by rw [e379]; exact Ar380.1) (State.isArrayOf_alike hZ.alike Ar380.2.1) Ar380.2.2 hin382 hat382 (g := (mkF m 439 (LS_JsJsJsJsJsIJsRRRIRIRu q0 q1 q2 q3 q4 p5 (36028797018963967 : Int64) o1 b2 b25 (((p5.toUInt32 >>> ((7 : Int32) &&& 31).toUInt32).toInt32) &&& (3 : Int32)) vv (1 : Int32) b89) [(.int (5 : Int32)), (.ref vv), (.int (6 : Int32)), (.ref b89)])) rfl rfl (hb hby at_439) _ ?_
                      exact k
                    obtain ⟨cl383, Ar383, qa383, Sa383, Na383, Ha383, Ga383⟩ := id V379
                    have hin384 : ¬ ((6 : Int32) < 0 ∨ cl383.slots.size ≤ ((6 : Int32)).toNatClampNeg) := inb_of Sa383 ⟨by decide, by decide⟩
                    obtain ⟨T384, h384, X384, e384, W384, st384⟩ := stJ X379 hx hZ e379 Ar383 (j := (6 : Int32)) hin384 (g := (mkF m 440 (LS_JsJsJsJsJsIJsRRRIRIRu q0 q1 q2 q3 q4 p5 (36028797018963967 : Int64) o1 b2 b25 (((p5.toUInt32 >>> ((7 : Int32) &&& 31).toUInt32).toInt32) &&& (3 : Int32)) vv (1 : Int32) b89) [(.long v5), (.int (6 : Int32)), (.ref b89)])) rfl rfl (hb hby at_440)
                    have N384 := Fr.snoc X384 N379 g_b89
                    have V384 : Arv Z h384 b89 k89 .long (10 : Int32) [(.long (1 : Int64)), (.long v0), (.long v1), (.long v2), (.long v3), (.long v4), (.long v5), (.long (1 : Int64)), (.long (1 : Int64)), (.long (1 : Int64))] (.long (0 : Int64)) := Arv.set Ar383 qa383 Sa383 Na383 Ha383 Ga383 rfl W384 6 rfl (Nat.le_of_ble_eq_true rfl)
                    refine own_go (B := T384.setTop (mkF m 441 (LS_JsJsJsJsJsIJsRRRIRIRu q0 q1 q2 q3 q4 p5 (36028797018963967 : Int64) o1 b2 b25 (((p5.toUInt32 >>> ((7 : Int32) &&& 31).toUInt32).toInt32) &&& (3 : Int32)) vv (1 : Int32) b89) [])) (fun t k => st384 _ k) ?_
                    have Vv88_v386 := Vv88_v381.other W384 ne337
                    obtain ⟨cl385, Ar385, qa385, Sa385, Na385, Ha385, Ga385⟩ := id Vv88_v386
                    have hin387 : ¬ ((6 : Int32) < 0 ∨ cl385.slots.size ≤ ((6 : Int32)).toNatClampNeg) := inb_of Sa385 ⟨by decide, by decide⟩
                    have hat387 : cl385.slots[((6 : Int32)).toNatClampNeg]? = some (.long v6) := Has.at Ha385 hin387 rfl
                    refine own_go (B := T384.setTop (mkF m 453 (LS_JsJsJsJsJsIJsRRRIRIRu q0 q1 q2 q3 q4 p5 (36028797018963967 : Int64) o1 b2 b25 (((p5.toUInt32 >>> ((7 : Int32) &&& 31).toUInt32).toInt32) &&& (3 : Int32)) vv (1 : Int32) b89) [(.long v6), (.int (7 : Int32)), (.ref b89)])) (fun t k => ?_) ?_
                    · show Steps p.tables e below (T384.setTop (mkF m 441 (LS_JsJsJsJsJsIJsRRRIRIRu q0 q1 q2 q3 q4 p5 (36028797018963967 : Int64) o1 b2 b25 (((p5.toUInt32 >>> ((7 : Int32) &&& 31).toUInt32).toInt32) &&& (3 : Int32)) vv (1 : Int32) b89) [])) _
                      refine XS.aload X384.here hx rfl (hb hby at_441) rfl rfl ?_
                      show Steps p.tables e below (T384.setTop (mkF m 443 (LS_JsJsJsJsJsIJsRRRIRIRu q0 q1 q2 q3 q4 p5 (36028797018963967 : Int64) o1 b2 b25 (((p5.toUInt32 >>> ((7 : Int32) &&& 31).toUInt32).toInt32) &&& (3 : Int32)) vv (1 : Int32) b89) [(.ref b89)])) _
                      refine XS.iload X384.here hx rfl (hb hby at_443) rfl ?_
                      show Steps p.tables e below (T384.setTop (mkF m 445 (LS_JsJsJsJsJsIJsRRRIRIRu q0 q1 q2 q3 q4 p5 (36028797018963967 : Int64) o1 b2 b25 (((p5.toUInt32 >>> ((7 : Int32) &&& 31).toUInt32).toInt32) &&& (3 : Int32)) vv (1 : Int32) b89) [(.int (1 : Int32)), (.ref b89)])) _
                      refine XS.bipush X384.here hx rfl (hb hby at_445) ?_
                      show Steps p.tables e below (T384.setTop (mkF m 447 (LS_JsJsJsJsJsIJsRRRIRIRu q0 q1 q2 q3 q4 p5 (36028797018963967 : Int64) o1 b2 b25 (((p5.toUInt32 >>> ((7 : Int32) &&& 31).toUInt32).toInt32) &&& (3 : Int32)) vv (1 : Int32) b89) [(.int (6 : Int32)), (.int (1 : Int32)), (.ref b89)])) _
                      refine XS.iadd X384.here hx rfl (hb hby at_447) rfl ?_
                      rw [show ((1 : Int32) + (6 : Int32)) = (7 : Int32) from by decide]
                      show Steps p.tables e below (T384.setTop (mkF m 448 (LS_JsJsJsJsJsIJsRRRIRIRu q0 q1 q2 q3 q4 p5 (36028797018963967 : Int64) o1 b2 b25 (((p5.toUInt32 >>> ((7 : Int32) &&& 31).toUInt32).toInt32) &&& (3 : Int32)) vv (1 : Int32) b89) [(.int (7 : Int32)), (.ref b89)])) _
                      refine XS.aload X384.here hx rfl (hb hby at_448) rfl rfl ?_
                      show Steps p.tables e below (T384.setTop (mkF m 450 (LS_JsJsJsJsJsIJsRRRIRIRu q0 q1 q2 q3 q4 p5 (36028797018963967 : Int64) o1 b2 b25 (((p5.toUInt32 >>> ((7 : Int32) &&& 31).toUInt32).toInt32) &&& (3 : Int32)) vv (1 : Int32) b89) [(.ref vv), (.int (7 : Int32)), (.ref b89)])) _
                      refine XS.bipush X384.here hx rfl (hb hby at_450) ?_
                      show Steps p.tables e below (T384.setTop (mkF m 452 (LS_JsJsJsJsJsIJsRRRIRIRu q0 q1 q2 q3 q4 p5 (36028797018963967 : Int64) o1 b2 b25 (((p5.toUInt32 >>> ((7 : Int32) &&& 31).toUInt32).toInt32) &&& (3 : Int32)) vv (1 : Int32) b89) [(.int (6 : Int32)), (.ref vv), (.int (7 : Int32)), (.ref b89)])) _
                      refine X384.laload hx (j := (6 : Int32)) (v := (.long v6)) (by rw [e384]; exact Ar385.1) (State.isArrayOf_alike hZ.alike Ar385.2.1) Ar385.2.2 hin387 hat387 (g := (mkF m 452 (LS_JsJsJsJsJsIJsRRRIRIRu q0 q1 q2 q3 q4 p5 (36028797018963967 : Int64) o1 b2 b25 (((p5.toUInt32 >>> ((7 : Int32) &&& 31).toUInt32).toInt32) &&& (3 : Int32)) vv (1 : Int32) b89) [(.int (6 : Int32)), (.ref vv), (.int (7 : Int32)), (.ref b89)])) rfl rfl (hb hby at_452) _ ?_
                      exact k
                    obtain ⟨cl388, Ar388, qa388, Sa388, Na388, Ha388, Ga388⟩ := id V384
                    have hin389 : ¬ ((7 : Int32) < 0 ∨ cl388.slots.size ≤ ((7 : Int32)).toNatClampNeg) := inb_of Sa388 ⟨by decide, by decide⟩
                    obtain ⟨T389, h389, X389, e389, W389, st389⟩ := stJ X384 hx hZ e384 Ar388 (j := (7 : Int32)) hin389 (g := (mkF m 453 (LS_JsJsJsJsJsIJsRRRIRIRu q0 q1 q2 q3 q4 p5 (36028797018963967 : Int64) o1 b2 b25 (((p5.toUInt32 >>> ((7 : Int32) &&& 31).toUInt32).toInt32) &&& (3 : Int32)) vv (1 : Int32) b89) [(.long v6), (.int (7 : Int32)), (.ref b89)])) rfl rfl (hb hby at_453)
                    have N389 := Fr.snoc X389 N384 g_b89
                    have V389 : Arv Z h389 b89 k89 .long (10 : Int32) [(.long (1 : Int64)), (.long v0), (.long v1), (.long v2), (.long v3), (.long v4), (.long v5), (.long v6), (.long (1 : Int64)), (.long (1 : Int64))] (.long (0 : Int64)) := Arv.set Ar388 qa388 Sa388 Na388 Ha388 Ga388 rfl W389 7 rfl (Nat.le_of_ble_eq_true rfl)
                    refine own_go (B := T389.setTop (mkF m 454 (LS_JsJsJsJsJsIJsRRRIRIRu q0 q1 q2 q3 q4 p5 (36028797018963967 : Int64) o1 b2 b25 (((p5.toUInt32 >>> ((7 : Int32) &&& 31).toUInt32).toInt32) &&& (3 : Int32)) vv (1 : Int32) b89) [])) (fun t k => st389 _ k) ?_
                    refine own_go (B := T389.setTop (mkF m 458 (LS_JsJsJsJsJsIJsRRRIRIRu q0 q1 q2 q3 q4 p5 (36028797018963967 : Int64) o1 b2 b25 (((p5.toUInt32 >>> ((7 : Int32) &&& 31).toUInt32).toInt32) &&& (3 : Int32)) vv (1 : Int32) b89) [(.ref o1), (.ref vv)])) (fun t k => ?_) ?_
                    · show Steps p.tables e below (T389.setTop (mkF m 454 (LS_JsJsJsJsJsIJsRRRIRIRu q0 q1 q2 q3 q4 p5 (36028797018963967 : Int64) o1 b2 b25 (((p5.toUInt32 >>> ((7 : Int32) &&& 31).toUInt32).toInt32) &&& (3 : Int32)) vv (1 : Int32) b89) [])) _
                      refine XS.aload X389.here hx rfl (hb hby at_454) rfl rfl ?_
                      show Steps p.tables e below (T389.setTop (mkF m 456 (LS_JsJsJsJsJsIJsRRRIRIRu q0 q1 q2 q3 q4 p5 (36028797018963967 : Int64) o1 b2 b25 (((p5.toUInt32 >>> ((7 : Int32) &&& 31).toUInt32).toInt32) &&& (3 : Int32)) vv (1 : Int32) b89) [(.ref vv)])) _
                      refine XS.aload X389.here hx rfl (hb hby at_456) rfl rfl ?_
                      exact k
                    have Zj88_v390 := Nat.le_trans Zj88 E89.1
                    have Zj88_v391 := Nat.le_trans Zj88_v390 (Nat.le_of_eq W91.size.symm)
                    have Zj88_v392 := Nat.le_trans Zj88_v391 (Nat.le_of_eq W93.size.symm)
                    have Zj88_v393 := Nat.le_trans Zj88_v392 (Nat.le_of_eq W95.size.symm)
                    have Zj88_v394 := Nat.le_trans Zj88_v393 (Nat.le_of_eq W97.size.symm)
                    have Zj88_v395 := Nat.le_trans Zj88_v394 (Nat.le_of_eq W99.size.symm)
                    have Zj88_v396 := Nat.le_trans Zj88_v395 (Nat.le_of_eq W101.size.symm)
                    have Zj88_v397 := Nat.le_trans Zj88_v396 (Nat.le_of_eq W103.size.symm)
                    have Zj88_v398 := Nat.le_trans Zj88_v397 (Nat.le_of_eq W105.size.symm)
                    have Zj88_v399 := Nat.le_trans Zj88_v398 (Nat.le_of_eq W107.size.symm)
                    have Zj88_v400 := Nat.le_trans Zj88_v399 (Nat.le_of_eq W109.size.symm)
                    have Zj88_v401 := Nat.le_trans Zj88_v400 (Nat.le_of_eq W349.size.symm)
                    have Zj88_v402 := Nat.le_trans Zj88_v401 (Nat.le_of_eq W364.size.symm)
                    have Zj88_v403 := Nat.le_trans Zj88_v402 (Nat.le_of_eq W369.size.symm)
                    have Zj88_v404 := Nat.le_trans Zj88_v403 (Nat.le_of_eq W374.size.symm)
                    have Zj88_v405 := Nat.le_trans Zj88_v404 (Nat.le_of_eq W379.size.symm)
                    have Zj88_v406 := Nat.le_trans Zj88_v405 (Nat.le_of_eq W384.size.symm)
                    have Zj88_v407 := Nat.le_trans Zj88_v406 (Nat.le_of_eq W389.size.symm)
                    have Vv88_v408 := Vv88_v386.other W389 ne337
                    have Vp88_v409 := Vp88.ext E89
                    have ne411 : o1 ≠ b89 := Nat.ne_of_lt (Nat.lt_of_lt_of_le Vp88.lt (Nat.le_of_eq g89.symm))
                    have Vp88_v410 := Vp88_v409.other W91 ne411
                    have Vp88_v412 := Vp88_v410.other W93 ne411
                    have Vp88_v413 := Vp88_v412.other W95 ne411
                    have Vp88_v414 := Vp88_v413.other W97 ne411
                    have Vp88_v415 := Vp88_v414.other W99 ne411
                    have Vp88_v416 := Vp88_v415.other W101 ne411
                    have Vp88_v417 := Vp88_v416.other W103 ne411
                    have Vp88_v418 := Vp88_v417.other W105 ne411
                    have Vp88_v419 := Vp88_v418.other W107 ne411
                    have Vp88_v420 := Vp88_v419.other W109 ne411
                    have Vp88_v421 := Vp88_v420.other W349 ne411
                    have Vp88_v422 := Vp88_v421.other W364 ne411
                    have Vp88_v423 := Vp88_v422.other W369 ne411
                    have Vp88_v424 := Vp88_v423.other W374 ne411
                    have Vp88_v425 := Vp88_v424.other W379 ne411
                    have Vp88_v426 := Vp88_v425.other W384 ne411
                    have Vp88_v427 := Vp88_v426.other W389 ne411
                    obtain ⟨_, _, ⟨T428, L428, k428, n428⟩, -, X428, ⟨Lc428, hQ428, l428, y428, z428⟩, st428⟩ := Jvm.LawKit.callS X389 hx (y := (⟨"com/example/barred_rows/barredrows/crypto/FpIsZeroPinLaw", "zeroModP", "([J[J)Z"⟩ : MethodName)) hown (mvT hZ (hw _ (List.mem_of_getElem? (i := 12) rfl))) (mvT hZ (hw _ (List.mem_of_getElem? (i := 13) rfl))) (mvT hZ (hw _ (List.mem_of_getElem? (i := 3) rfl))) (mvT hZ (hw _ (List.mem_of_getElem? (i := 14) rfl))) (by decide) (backOf (W := 0) (rm2 l Z a0 hw [] vv o1 kv ko1 v0 v1 v2 v3 v4 v5 v6 h389 n0 Zj88_v407 Vv88_v408 Vp88_v427) hZ (hw _ (List.mem_of_getElem? (i := 14) rfl)) (hw _ (List.mem_of_getElem? (i := 3) rfl)) (by decide) (by decide)) (g := (mkF m 458 (LS_JsJsJsJsJsIJsRRRIRIRu q0 q1 q2 q3 q4 p5 (36028797018963967 : Int64) o1 b2 b25 (((p5.toUInt32 >>> ((7 : Int32) &&& 31).toUInt32).toInt32) &&& (3 : Int32)) vv (1 : Int32) b89) [(.ref o1), (.ref vv)])) rfl (by rw [hml]; rfl) (argsL := [(.ref vv), (.ref o1)]) (rest := []) (lenOf pd___J_J_Z rfl) rfl (by show 2 * 0 + _ ≤ _; exact Nat.le_of_eq rfl) (hb hby at_458) (fun _ _ => ⟨rfl, e389, (by decide : 7 + 0 ≤ _), (by decide : 52 + 0 ≤ _)⟩)
                    dsimp only [Pt.U, Pt.locs, Pt.cells, Pt.slots] at X428 l428 y428 z428 st428 hQ428
                    subst l428 y428 z428
                    obtain ⟨rfl, N428q, e428⟩ := hQ428
                    have N428 := Fr.app N389 N428q
                    refine own_go (B := T428.setTop (mkF m 461 (LS_JsJsJsJsJsIJsRRRIRIRu q0 q1 q2 q3 q4 p5 (36028797018963967 : Int64) o1 b2 b25 (((p5.toUInt32 >>> ((7 : Int32) &&& 31).toUInt32).toInt32) &&& (3 : Int32)) vv (1 : Int32) b89) [(.int (if ((((((v0 ||| v1) ||| v2) ||| v3) ||| v4) ||| v5) ||| v6) = (0 : Int64) ∨ (((((((v0 ^^^ (35747322042231467 : Int64)) ||| (v1 ^^^ (36025922209447795 : Int64))) ||| (v2 ^^^ (1084959616957103 : Int64))) ||| (v3 ^^^ (7925923977987733 : Int64))) ||| (v4 ^^^ (16551456537884751 : Int64))) ||| (v5 ^^^ (23443114579904617 : Int64))) ||| (v6 ^^^ (1829881462546425 : Int64))) = (0 : Int64) then (1 : Int32) else (0 : Int32)))])) (fun t k => st428 _ k) ?_
                    refine own_go (B := T428.setTop (mkF m 467 (LS_JsJsJsJsJsIJsRRRIRIRI q0 q1 q2 q3 q4 p5 (36028797018963967 : Int64) o1 b2 b25 (((p5.toUInt32 >>> ((7 : Int32) &&& 31).toUInt32).toInt32) &&& (3 : Int32)) vv (1 : Int32) b89 (if ((((((v0 ||| v1) ||| v2) ||| v3) ||| v4) ||| v5) ||| v6) = (0 : Int64) ∨ (((((((v0 ^^^ (35747322042231467 : Int64)) ||| (v1 ^^^ (36025922209447795 : Int64))) ||| (v2 ^^^ (1084959616957103 : Int64))) ||| (v3 ^^^ (7925923977987733 : Int64))) ||| (v4 ^^^ (16551456537884751 : Int64))) ||| (v5 ^^^ (23443114579904617 : Int64))) ||| (v6 ^^^ (1829881462546425 : Int64))) = (0 : Int64) then (1 : Int32) else (0 : Int32))) [(.int (1 : Int32)), (.ref b89)])) (fun t k => ?_) ?_
                    · show Steps p.tables e below (T428.setTop (mkF m 461 (LS_JsJsJsJsJsIJsRRRIRIRu q0 q1 q2 q3 q4 p5 (36028797018963967 : Int64) o1 b2 b25 (((p5.toUInt32 >>> ((7 : Int32) &&& 31).toUInt32).toInt32) &&& (3 : Int32)) vv (1 : Int32) b89) [(.int (if ((((((v0 ||| v1) ||| v2) ||| v3) ||| v4) ||| v5) ||| v6) = (0 : Int64) ∨ (((((((v0 ^^^ (35747322042231467 : Int64)) ||| (v1 ^^^ (36025922209447795 : Int64))) ||| (v2 ^^^ (1084959616957103 : Int64))) ||| (v3 ^^^ (7925923977987733 : Int64))) ||| (v4 ^^^ (16551456537884751 : Int64))) ||| (v5 ^^^ (23443114579904617 : Int64))) ||| (v6 ^^^ (1829881462546425 : Int64))) = (0 : Int64) then (1 : Int32) else (0 : Int32)))])) _
                      refine XS.istore X428.here hx rfl (hb hby at_461) rfl (l' := (LS_JsJsJsJsJsIJsRRRIRIRI q0 q1 q2 q3 q4 p5 (36028797018963967 : Int64) o1 b2 b25 (((p5.toUInt32 >>> ((7 : Int32) &&& 31).toUInt32).toInt32) &&& (3 : Int32)) vv (1 : Int32) b89 (if ((((((v0 ||| v1) ||| v2) ||| v3) ||| v4) ||| v5) ||| v6) = (0 : Int64) ∨ (((((((v0 ^^^ (35747322042231467 : Int64)) ||| (v1 ^^^ (36025922209447795 : Int64))) ||| (v2 ^^^ (1084959616957103 : Int64))) ||| (v3 ^^^ (7925923977987733 : Int64))) ||| (v4 ^^^ (16551456537884751 : Int64))) ||| (v5 ^^^ (23443114579904617 : Int64))) ||| (v6 ^^^ (1829881462546425 : Int64))) = (0 : Int64) then (1 : Int32) else (0 : Int32)))) rfl ?_
                      show Steps p.tables e below (T428.setTop (mkF m 463 (LS_JsJsJsJsJsIJsRRRIRIRI q0 q1 q2 q3 q4 p5 (36028797018963967 : Int64) o1 b2 b25 (((p5.toUInt32 >>> ((7 : Int32) &&& 31).toUInt32).toInt32) &&& (3 : Int32)) vv (1 : Int32) b89 (if ((((((v0 ||| v1) ||| v2) ||| v3) ||| v4) ||| v5) ||| v6) = (0 : Int64) ∨ (((((((v0 ^^^ (35747322042231467 : Int64)) ||| (v1 ^^^ (36025922209447795 : Int64))) ||| (v2 ^^^ (1084959616957103 : Int64))) ||| (v3 ^^^ (7925923977987733 : Int64))) ||| (v4 ^^^ (16551456537884751 : Int64))) ||| (v5 ^^^ (23443114579904617 : Int64))) ||| (v6 ^^^ (1829881462546425 : Int64))) = (0 : Int64) then (1 : Int32) else (0 : Int32))) [])) _
                      refine XS.aload X428.here hx rfl (hb hby at_463) rfl rfl ?_
                      show Steps p.tables e below (T428.setTop (mkF m 465 (LS_JsJsJsJsJsIJsRRRIRIRI q0 q1 q2 q3 q4 p5 (36028797018963967 : Int64) o1 b2 b25 (((p5.toUInt32 >>> ((7 : Int32) &&& 31).toUInt32).toInt32) &&& (3 : Int32)) vv (1 : Int32) b89 (if ((((((v0 ||| v1) ||| v2) ||| v3) ||| v4) ||| v5) ||| v6) = (0 : Int64) ∨ (((((((v0 ^^^ (35747322042231467 : Int64)) ||| (v1 ^^^ (36025922209447795 : Int64))) ||| (v2 ^^^ (1084959616957103 : Int64))) ||| (v3 ^^^ (7925923977987733 : Int64))) ||| (v4 ^^^ (16551456537884751 : Int64))) ||| (v5 ^^^ (23443114579904617 : Int64))) ||| (v6 ^^^ (1829881462546425 : Int64))) = (0 : Int64) then (1 : Int32) else (0 : Int32))) [(.ref b89)])) _
                      refine XS.iload X428.here hx rfl (hb hby at_465) rfl ?_
                      exact k
                    obtain ⟨cl429, Ar429, qa429, Sa429, Na429, Ha429, Ga429⟩ := id V389
                    have hi429_0 : ¬ ((1 : Int32) < 0 ∨ cl429.slots.size ≤ ((1 : Int32)).toNatClampNeg) := inb_of Sa429 ⟨by decide, by decide⟩
                    have ht429_0 : cl429.slots[((1 : Int32)).toNatClampNeg]? = some (.long v0) := Has.at Ha429 hi429_0 rfl
                    have hi429_1 : ¬ (((1 : Int32) + (1 : Int32)) < 0 ∨ cl429.slots.size ≤ (((1 : Int32) + (1 : Int32))).toNatClampNeg) := inb_of Sa429 ⟨by decide, by decide⟩
                    have ht429_1 : cl429.slots[(((1 : Int32) + (1 : Int32))).toNatClampNeg]? = some (.long v1) := Has.at Ha429 hi429_1 rfl
                    have hi429_2 : ¬ (((1 : Int32) + (2 : Int32)) < 0 ∨ cl429.slots.size ≤ (((1 : Int32) + (2 : Int32))).toNatClampNeg) := inb_of Sa429 ⟨by decide, by decide⟩
                    have ht429_2 : cl429.slots[(((1 : Int32) + (2 : Int32))).toNatClampNeg]? = some (.long v2) := Has.at Ha429 hi429_2 rfl
                    have hi429_3 : ¬ (((1 : Int32) + (3 : Int32)) < 0 ∨ cl429.slots.size ≤ (((1 : Int32) + (3 : Int32))).toNatClampNeg) := inb_of Sa429 ⟨by decide, by decide⟩
                    have ht429_3 : cl429.slots[(((1 : Int32) + (3 : Int32))).toNatClampNeg]? = some (.long v3) := Has.at Ha429 hi429_3 rfl
                    have hi429_4 : ¬ (((1 : Int32) + (4 : Int32)) < 0 ∨ cl429.slots.size ≤ (((1 : Int32) + (4 : Int32))).toNatClampNeg) := inb_of Sa429 ⟨by decide, by decide⟩
                    have ht429_4 : cl429.slots[(((1 : Int32) + (4 : Int32))).toNatClampNeg]? = some (.long v4) := Has.at Ha429 hi429_4 rfl
                    have hi429_5 : ¬ (((1 : Int32) + (5 : Int32)) < 0 ∨ cl429.slots.size ≤ (((1 : Int32) + (5 : Int32))).toNatClampNeg) := inb_of Sa429 ⟨by decide, by decide⟩
                    have ht429_5 : cl429.slots[(((1 : Int32) + (5 : Int32))).toNatClampNeg]? = some (.long v5) := Has.at Ha429 hi429_5 rfl
                    have hi429_6 : ¬ (((1 : Int32) + (6 : Int32)) < 0 ∨ cl429.slots.size ≤ (((1 : Int32) + (6 : Int32))).toNatClampNeg) := inb_of Sa429 ⟨by decide, by decide⟩
                    have ht429_6 : cl429.slots[(((1 : Int32) + (6 : Int32))).toNatClampNeg]? = some (.long v6) := Has.at Ha429 hi429_6 rfl
                    have Sj0_v430 := Sj0.ext E89
                    have Sj0_v431 := Sj0_v430.wr W91
                    have Sj0_v432 := Sj0_v431.wr W93
                    have Sj0_v433 := Sj0_v432.wr W95
                    have Sj0_v434 := Sj0_v433.wr W97
                    have Sj0_v435 := Sj0_v434.wr W99
                    have Sj0_v436 := Sj0_v435.wr W101
                    have Sj0_v437 := Sj0_v436.wr W103
                    have Sj0_v438 := Sj0_v437.wr W105
                    have Sj0_v439 := Sj0_v438.wr W107
                    have Sj0_v440 := Sj0_v439.wr W109
                    have Sj0_v441 := Sj0_v440.wr W349
                    have Sj0_v442 := Sj0_v441.wr W364
                    have Sj0_v443 := Sj0_v442.wr W369
                    have Sj0_v444 := Sj0_v443.wr W374
                    have Sj0_v445 := Sj0_v444.wr W379
                    have Sj0_v446 := Sj0_v445.wr W384
                    have Sj0_v447 := Sj0_v446.wr W389
                    have Sj1_v448 := Sj1.ext E89
                    have Sj1_v449 := Sj1_v448.wr W91
                    have Sj1_v450 := Sj1_v449.wr W93
                    have Sj1_v451 := Sj1_v450.wr W95
                    have Sj1_v452 := Sj1_v451.wr W97
                    have Sj1_v453 := Sj1_v452.wr W99
                    have Sj1_v454 := Sj1_v453.wr W101
                    have Sj1_v455 := Sj1_v454.wr W103
                    have Sj1_v456 := Sj1_v455.wr W105
                    have Sj1_v457 := Sj1_v456.wr W107
                    have Sj1_v458 := Sj1_v457.wr W109
                    have Sj1_v459 := Sj1_v458.wr W349
                    have Sj1_v460 := Sj1_v459.wr W364
                    have Sj1_v461 := Sj1_v460.wr W369
                    have Sj1_v462 := Sj1_v461.wr W374
                    have Sj1_v463 := Sj1_v462.wr W379
                    have Sj1_v464 := Sj1_v463.wr W384
                    have Sj1_v465 := Sj1_v464.wr W389
                    have Sj2_v466 := Sj2.ext E89
                    have Sj2_v467 := Sj2_v466.wr W91
                    have Sj2_v468 := Sj2_v467.wr W93
                    have Sj2_v469 := Sj2_v468.wr W95
                    have Sj2_v470 := Sj2_v469.wr W97
                    have Sj2_v471 := Sj2_v470.wr W99
                    have Sj2_v472 := Sj2_v471.wr W101
                    have Sj2_v473 := Sj2_v472.wr W103
                    have Sj2_v474 := Sj2_v473.wr W105
                    have Sj2_v475 := Sj2_v474.wr W107
                    have Sj2_v476 := Sj2_v475.wr W109
                    have Sj2_v477 := Sj2_v476.wr W349
                    have Sj2_v478 := Sj2_v477.wr W364
                    have Sj2_v479 := Sj2_v478.wr W369
                    have Sj2_v480 := Sj2_v479.wr W374
                    have Sj2_v481 := Sj2_v480.wr W379
                    have Sj2_v482 := Sj2_v481.wr W384
                    have Sj2_v483 := Sj2_v482.wr W389
                    have Sj3_v484 := Sj3.ext E89
                    have Sj3_v485 := Sj3_v484.wr W91
                    have Sj3_v486 := Sj3_v485.wr W93
                    have Sj3_v487 := Sj3_v486.wr W95
                    have Sj3_v488 := Sj3_v487.wr W97
                    have Sj3_v489 := Sj3_v488.wr W99
                    have Sj3_v490 := Sj3_v489.wr W101
                    have Sj3_v491 := Sj3_v490.wr W103
                    have Sj3_v492 := Sj3_v491.wr W105
                    have Sj3_v493 := Sj3_v492.wr W107
                    have Sj3_v494 := Sj3_v493.wr W109
                    have Sj3_v495 := Sj3_v494.wr W349
                    have Sj3_v496 := Sj3_v495.wr W364
                    have Sj3_v497 := Sj3_v496.wr W369
                    have Sj3_v498 := Sj3_v497.wr W374
                    have Sj3_v499 := Sj3_v498.wr W379
                    have Sj3_v500 := Sj3_v499.wr W384
                    have Sj3_v501 := Sj3_v500.wr W389
                    have Sj4_v502 := Sj4.ext E89
                    have Sj4_v503 := Sj4_v502.wr W91
                    have Sj4_v504 := Sj4_v503.wr W93
                    have Sj4_v505 := Sj4_v504.wr W95
                    have Sj4_v506 := Sj4_v505.wr W97
                    have Sj4_v507 := Sj4_v506.wr W99
                    have Sj4_v508 := Sj4_v507.wr W101
                    have Sj4_v509 := Sj4_v508.wr W103
                    have Sj4_v510 := Sj4_v509.wr W105
                    have Sj4_v511 := Sj4_v510.wr W107
                    have Sj4_v512 := Sj4_v511.wr W109
                    have Sj4_v513 := Sj4_v512.wr W349
                    have Sj4_v514 := Sj4_v513.wr W364
                    have Sj4_v515 := Sj4_v514.wr W369
                    have Sj4_v516 := Sj4_v515.wr W374
                    have Sj4_v517 := Sj4_v516.wr W379
                    have Sj4_v518 := Sj4_v517.wr W384
                    have Sj4_v519 := Sj4_v518.wr W389
                    have Sj5_v520 := Sj5.ext E89
                    have Sj5_v521 := Sj5_v520.wr W91
                    have Sj5_v522 := Sj5_v521.wr W93
                    have Sj5_v523 := Sj5_v522.wr W95
                    have Sj5_v524 := Sj5_v523.wr W97
                    have Sj5_v525 := Sj5_v524.wr W99
                    have Sj5_v526 := Sj5_v525.wr W101
                    have Sj5_v527 := Sj5_v526.wr W103
                    have Sj5_v528 := Sj5_v527.wr W105
                    have Sj5_v529 := Sj5_v528.wr W107
                    have Sj5_v530 := Sj5_v529.wr W109
                    have Sj5_v531 := Sj5_v530.wr W349
                    have Sj5_v532 := Sj5_v531.wr W364
                    have Sj5_v533 := Sj5_v532.wr W369
                    have Sj5_v534 := Sj5_v533.wr W374
                    have Sj5_v535 := Sj5_v534.wr W379
                    have Sj5_v536 := Sj5_v535.wr W384
                    have Sj5_v537 := Sj5_v536.wr W389
                    have Sj6_v538 := Sj6.ext E89
                    have Sj6_v539 := Sj6_v538.wr W91
                    have Sj6_v540 := Sj6_v539.wr W93
                    have Sj6_v541 := Sj6_v540.wr W95
                    have Sj6_v542 := Sj6_v541.wr W97
                    have Sj6_v543 := Sj6_v542.wr W99
                    have Sj6_v544 := Sj6_v543.wr W101
                    have Sj6_v545 := Sj6_v544.wr W103
                    have Sj6_v546 := Sj6_v545.wr W105
                    have Sj6_v547 := Sj6_v546.wr W107
                    have Sj6_v548 := Sj6_v547.wr W109
                    have Sj6_v549 := Sj6_v548.wr W349
                    have Sj6_v550 := Sj6_v549.wr W364
                    have Sj6_v551 := Sj6_v550.wr W369
                    have Sj6_v552 := Sj6_v551.wr W374
                    have Sj6_v553 := Sj6_v552.wr W379
                    have Sj6_v554 := Sj6_v553.wr W384
                    have Sj6_v555 := Sj6_v554.wr W389
                    obtain ⟨_, _, ⟨T556, L556, k556, n556⟩, -, X556, ⟨Lc556, hQ556, l556, y556, z556⟩, st556⟩ := Jvm.LawKit.callS X428 hx (y := (⟨"com/example/barred_rows/barredrows/crypto/Fp", "isZero", "([JI)Z"⟩ : MethodName)) hown (mvT hZ (hw _ (List.mem_of_getElem? (i := 15) rfl))) (mvT hZ (hw _ (List.mem_of_getElem? (i := 16) rfl))) (mvT hZ (hw _ (List.mem_of_getElem? (i := 17) rfl))) (mvT hZ (hw _ (List.mem_of_getElem? (i := 18) rfl))) (by decide) (backOf (W := 0) (rm3 l Z a0 hw [] b89 (1 : Int32) cl429 v0 v1 v2 v3 v4 v5 v6 h389 n0 Zj88_v407 Ar429 hi429_0 hi429_1 hi429_2 hi429_3 hi429_4 hi429_5 hi429_6 ht429_0 ht429_1 ht429_2 ht429_3 ht429_4 ht429_5 ht429_6 Sj0_v447 Sj1_v465 Sj2_v483 Sj3_v501 Sj4_v519 Sj5_v537 Sj6_v555) hZ (hw _ (List.mem_of_getElem? (i := 18) rfl)) (hw _ (List.mem_of_getElem? (i := 17) rfl)) (by decide) (by decide)) (g := (mkF m 467 (LS_JsJsJsJsJsIJsRRRIRIRI q0 q1 q2 q3 q4 p5 (36028797018963967 : Int64) o1 b2 b25 (((p5.toUInt32 >>> ((7 : Int32) &&& 31).toUInt32).toInt32) &&& (3 : Int32)) vv (1 : Int32) b89 (if ((((((v0 ||| v1) ||| v2) ||| v3) ||| v4) ||| v5) ||| v6) = (0 : Int64) ∨ (((((((v0 ^^^ (35747322042231467 : Int64)) ||| (v1 ^^^ (36025922209447795 : Int64))) ||| (v2 ^^^ (1084959616957103 : Int64))) ||| (v3 ^^^ (7925923977987733 : Int64))) ||| (v4 ^^^ (16551456537884751 : Int64))) ||| (v5 ^^^ (23443114579904617 : Int64))) ||| (v6 ^^^ (1829881462546425 : Int64))) = (0 : Int64) then (1 : Int32) else (0 : Int32))) [(.int (1 : Int32)), (.ref b89)])) rfl (by rw [hml]; rfl) (argsL := [(.ref b89), (.int (1 : Int32))]) (rest := []) (lenOf pd___JI_Z rfl) rfl (by show 2 * 0 + _ ≤ _; exact Nat.le_of_eq rfl) (hb hby at_467) (fun _ _ => ⟨rfl, e428, (by decide : 7 + 1 ≤ _), (by decide : 52 + 7 ≤ _)⟩)
                    dsimp only [Pt.U, Pt.locs, Pt.cells, Pt.slots] at X556 l556 y556 z556 st556 hQ556
                    subst l556 y556 z556
                    obtain ⟨rfl, N556q⟩ := hQ556
                    have N556 := Fr.app N428 N556q
                    refine own_go (B := T556.setTop (mkF m 470 (LS_JsJsJsJsJsIJsRRRIRIRI q0 q1 q2 q3 q4 p5 (36028797018963967 : Int64) o1 b2 b25 (((p5.toUInt32 >>> ((7 : Int32) &&& 31).toUInt32).toInt32) &&& (3 : Int32)) vv (1 : Int32) b89 (if ((((((v0 ||| v1) ||| v2) ||| v3) ||| v4) ||| v5) ||| v6) = (0 : Int64) ∨ (((((((v0 ^^^ (35747322042231467 : Int64)) ||| (v1 ^^^ (36025922209447795 : Int64))) ||| (v2 ^^^ (1084959616957103 : Int64))) ||| (v3 ^^^ (7925923977987733 : Int64))) ||| (v4 ^^^ (16551456537884751 : Int64))) ||| (v5 ^^^ (23443114579904617 : Int64))) ||| (v6 ^^^ (1829881462546425 : Int64))) = (0 : Int64) then (1 : Int32) else (0 : Int32))) [(.int (if (((((((own_c0 v0 v1 v2 v3 v4 v5 v6) ||| (own_c1 v0 v1 v2 v3 v4 v5 v6)) ||| (own_c2 v0 v1 v2 v3 v4 v5 v6)) ||| (own_c3 v0 v1 v2 v3 v4 v5 v6)) ||| (own_c4 v0 v1 v2 v3 v4 v5 v6)) ||| (own_c5 v0 v1 v2 v3 v4 v5 v6)) ||| (own_c6 v0 v1 v2 v3 v4 v5 v6)) = (0 : Int64) then (1 : Int32) else (0 : Int32)))])) (fun t k => st556 _ k) ?_
                    refine own_go (B := T556.setTop (mkF m 480 (LS_JsJsJsJsJsIJsRRRIRIRI q0 q1 q2 q3 q4 p5 (36028797018963967 : Int64) o1 b2 b25 (((p5.toUInt32 >>> ((7 : Int32) &&& 31).toUInt32).toInt32) &&& (3 : Int32)) vv (1 : Int32) b89 (if ((((((v0 ||| v1) ||| v2) ||| v3) ||| v4) ||| v5) ||| v6) = (0 : Int64) ∨ (((((((v0 ^^^ (35747322042231467 : Int64)) ||| (v1 ^^^ (36025922209447795 : Int64))) ||| (v2 ^^^ (1084959616957103 : Int64))) ||| (v3 ^^^ (7925923977987733 : Int64))) ||| (v4 ^^^ (16551456537884751 : Int64))) ||| (v5 ^^^ (23443114579904617 : Int64))) ||| (v6 ^^^ (1829881462546425 : Int64))) = (0 : Int64) then (1 : Int32) else (0 : Int32))) [(.int (1 : Int32))])) (fun t k => ?_) ?_
                    · show Steps p.tables e below (T556.setTop (mkF m 470 (LS_JsJsJsJsJsIJsRRRIRIRI q0 q1 q2 q3 q4 p5 (36028797018963967 : Int64) o1 b2 b25 (((p5.toUInt32 >>> ((7 : Int32) &&& 31).toUInt32).toInt32) &&& (3 : Int32)) vv (1 : Int32) b89 (if ((((((v0 ||| v1) ||| v2) ||| v3) ||| v4) ||| v5) ||| v6) = (0 : Int64) ∨ (((((((v0 ^^^ (35747322042231467 : Int64)) ||| (v1 ^^^ (36025922209447795 : Int64))) ||| (v2 ^^^ (1084959616957103 : Int64))) ||| (v3 ^^^ (7925923977987733 : Int64))) ||| (v4 ^^^ (16551456537884751 : Int64))) ||| (v5 ^^^ (23443114579904617 : Int64))) ||| (v6 ^^^ (1829881462546425 : Int64))) = (0 : Int64) then (1 : Int32) else (0 : Int32))) [(.int (if (((((((own_c0 v0 v1 v2 v3 v4 v5 v6) ||| (own_c1 v0 v1 v2 v3 v4 v5 v6)) ||| (own_c2 v0 v1 v2 v3 v4 v5 v6)) ||| (own_c3 v0 v1 v2 v3 v4 v5 v6)) ||| (own_c4 v0 v1 v2 v3 v4 v5 v6)) ||| (own_c5 v0 v1 v2 v3 v4 v5 v6)) ||| (own_c6 v0 v1 v2 v3 v4 v5 v6)) = (0 : Int64) then (1 : Int32) else (0 : Int32)))])) _
                      refine XS.iload X556.here hx rfl (hb hby at_470) rfl ?_
                      show Steps p.tables e below (T556.setTop (mkF m 472 (LS_JsJsJsJsJsIJsRRRIRIRI q0 q1 q2 q3 q4 p5 (36028797018963967 : Int64) o1 b2 b25 (((p5.toUInt32 >>> ((7 : Int32) &&& 31).toUInt32).toInt32) &&& (3 : Int32)) vv (1 : Int32) b89 (if ((((((v0 ||| v1) ||| v2) ||| v3) ||| v4) ||| v5) ||| v6) = (0 : Int64) ∨ (((((((v0 ^^^ (35747322042231467 : Int64)) ||| (v1 ^^^ (36025922209447795 : Int64))) ||| (v2 ^^^ (1084959616957103 : Int64))) ||| (v3 ^^^ (7925923977987733 : Int64))) ||| (v4 ^^^ (16551456537884751 : Int64))) ||| (v5 ^^^ (23443114579904617 : Int64))) ||| (v6 ^^^ (1829881462546425 : Int64))) = (0 : Int64) then (1 : Int32) else (0 : Int32))) [(.int (if ((((((v0 ||| v1) ||| v2) ||| v3) ||| v4) ||| v5) ||| v6) = (0 : Int64) ∨ (((((((v0 ^^^ (35747322042231467 : Int64)) ||| (v1 ^^^ (36025922209447795 : Int64))) ||| (v2 ^^^ (1084959616957103 : Int64))) ||| (v3 ^^^ (7925923977987733 : Int64))) ||| (v4 ^^^ (16551456537884751 : Int64))) ||| (v5 ^^^ (23443114579904617 : Int64))) ||| (v6 ^^^ (1829881462546425 : Int64))) = (0 : Int64) then (1 : Int32) else (0 : Int32))), (.int (if (((((((own_c0 v0 v1 v2 v3 v4 v5 v6) ||| (own_c1 v0 v1 v2 v3 v4 v5 v6)) ||| (own_c2 v0 v1 v2 v3 v4 v5 v6)) ||| (own_c3 v0 v1 v2 v3 v4 v5 v6)) ||| (own_c4 v0 v1 v2 v3 v4 v5 v6)) ||| (own_c5 v0 v1 v2 v3 v4 v5 v6)) ||| (own_c6 v0 v1 v2 v3 v4 v5 v6)) = (0 : Int64) then (1 : Int32) else (0 : Int32)))])) _
                      refine XS.icmpNo X556.here hx rfl (hb hby at_472) rfl (teq (own_ite ((own_zero bv0 bv1 bv2 bv3 bv4 bv5 bv6)))).2 ?_
                      show Steps p.tables e below (T556.setTop (mkF m 475 (LS_JsJsJsJsJsIJsRRRIRIRI q0 q1 q2 q3 q4 p5 (36028797018963967 : Int64) o1 b2 b25 (((p5.toUInt32 >>> ((7 : Int32) &&& 31).toUInt32).toInt32) &&& (3 : Int32)) vv (1 : Int32) b89 (if ((((((v0 ||| v1) ||| v2) ||| v3) ||| v4) ||| v5) ||| v6) = (0 : Int64) ∨ (((((((v0 ^^^ (35747322042231467 : Int64)) ||| (v1 ^^^ (36025922209447795 : Int64))) ||| (v2 ^^^ (1084959616957103 : Int64))) ||| (v3 ^^^ (7925923977987733 : Int64))) ||| (v4 ^^^ (16551456537884751 : Int64))) ||| (v5 ^^^ (23443114579904617 : Int64))) ||| (v6 ^^^ (1829881462546425 : Int64))) = (0 : Int64) then (1 : Int32) else (0 : Int32))) [])) _
                      refine XS.iconst X556.here hx rfl (hb hby at_475) ?_
                      show Steps p.tables e below (T556.setTop (mkF m 476 (LS_JsJsJsJsJsIJsRRRIRIRI q0 q1 q2 q3 q4 p5 (36028797018963967 : Int64) o1 b2 b25 (((p5.toUInt32 >>> ((7 : Int32) &&& 31).toUInt32).toInt32) &&& (3 : Int32)) vv (1 : Int32) b89 (if ((((((v0 ||| v1) ||| v2) ||| v3) ||| v4) ||| v5) ||| v6) = (0 : Int64) ∨ (((((((v0 ^^^ (35747322042231467 : Int64)) ||| (v1 ^^^ (36025922209447795 : Int64))) ||| (v2 ^^^ (1084959616957103 : Int64))) ||| (v3 ^^^ (7925923977987733 : Int64))) ||| (v4 ^^^ (16551456537884751 : Int64))) ||| (v5 ^^^ (23443114579904617 : Int64))) ||| (v6 ^^^ (1829881462546425 : Int64))) = (0 : Int64) then (1 : Int32) else (0 : Int32))) [(.int (1 : Int32))])) _
                      refine XS.goto X556.here hx rfl (pc0 := 476) (pc' := 480) rfl (hb hby at_476) (by decide) (by decide) ?_
                      exact k
                    obtain ⟨fs, hr, hrun, hended, hW, hsame⟩ := X556.leave (v := some (.int (1 : Int32))) (fun h => by rw [Bd.returns] at h; cases h)
                    refine ⟨_, _, ?_, hrun, hended, _, _, rfl, ?_, ⟨_, rfl⟩, hW, hsame.mono (by decide) (by decide)⟩
                    · show Steps p.tables e below (T556.setTop (mkF m 480 (LS_JsJsJsJsJsIJsRRRIRIRI q0 q1 q2 q3 q4 p5 (36028797018963967 : Int64) o1 b2 b25 (((p5.toUInt32 >>> ((7 : Int32) &&& 31).toUInt32).toInt32) &&& (3 : Int32)) vv (1 : Int32) b89 (if ((((((v0 ||| v1) ||| v2) ||| v3) ||| v4) ||| v5) ||| v6) = (0 : Int64) ∨ (((((((v0 ^^^ (35747322042231467 : Int64)) ||| (v1 ^^^ (36025922209447795 : Int64))) ||| (v2 ^^^ (1084959616957103 : Int64))) ||| (v3 ^^^ (7925923977987733 : Int64))) ||| (v4 ^^^ (16551456537884751 : Int64))) ||| (v5 ^^^ (23443114579904617 : Int64))) ||| (v6 ^^^ (1829881462546425 : Int64))) = (0 : Int64) then (1 : Int32) else (0 : Int32))) [(.int (1 : Int32))])) _
                      exact retN X556 hx (t := .boolean) Bd.returns (by simp) (hb hby at_480) hr
                    · show Q0 Z q0 q1 q2 q3 q4 p5 h0 n0 _ T556.heap _
                      exact ⟨rfl, N556⟩
                  · rw [hk110]
                    have Vv88_v558 := Vv88.ext E89
                    have ne560 : vv ≠ b89 := Nat.ne_of_lt (Nat.lt_of_lt_of_le Vv88.lt (Nat.le_of_eq g89.symm))
                    have Vv88_v559 := Vv88_v558.other W91 ne560
                    have Vv88_v561 := Vv88_v559.other W93 ne560
                    have Vv88_v562 := Vv88_v561.other W95 ne560
                    have Vv88_v563 := Vv88_v562.other W97 ne560
                    have Vv88_v564 := Vv88_v563.other W99 ne560
                    have Vv88_v565 := Vv88_v564.other W101 ne560
                    have Vv88_v566 := Vv88_v565.other W103 ne560
                    have Vv88_v567 := Vv88_v566.other W105 ne560
                    have Vv88_v568 := Vv88_v567.other W107 ne560
                    have Vv88_v569 := Vv88_v568.other W109 ne560
                    obtain ⟨cl557, Ar557, qa557, Sa557, Na557, Ha557, Ga557⟩ := id Vv88_v569
                    have hin570 : ¬ ((0 : Int32) < 0 ∨ cl557.slots.size ≤ ((0 : Int32)).toNatClampNeg) := inb_of Sa557 ⟨by decide, by decide⟩
                    have hat570 : cl557.slots[((0 : Int32)).toNatClampNeg]? = some (.long v0) := Has.at Ha557 hin570 rfl
                    refine own_go (B := T109.setTop (mkF m 385 (LS_JsJsJsJsJsIJsRRRIRIRu q0 q1 q2 q3 q4 p5 (36028797018963967 : Int64) o1 b2 b25 (((p5.toUInt32 >>> ((7 : Int32) &&& 31).toUInt32).toInt32) &&& (3 : Int32)) vv (2 : Int32) b89) [(.long v0), (.int (2 : Int32)), (.ref b89)])) (fun t k => ?_) ?_
                    · show Steps p.tables e below (T109.setTop (mkF m 377 (LS_JsJsJsJsJsIJsRRRIRIRu q0 q1 q2 q3 q4 p5 (36028797018963967 : Int64) o1 b2 b25 (((p5.toUInt32 >>> ((7 : Int32) &&& 31).toUInt32).toInt32) &&& (3 : Int32)) vv (2 : Int32) b89) [])) _
                      refine XS.aload X109.here hx rfl (hb hby at_377) rfl rfl ?_
                      show Steps p.tables e below (T109.setTop (mkF m 379 (LS_JsJsJsJsJsIJsRRRIRIRu q0 q1 q2 q3 q4 p5 (36028797018963967 : Int64) o1 b2 b25 (((p5.toUInt32 >>> ((7 : Int32) &&& 31).toUInt32).toInt32) &&& (3 : Int32)) vv (2 : Int32) b89) [(.ref b89)])) _
                      refine XS.iload X109.here hx rfl (hb hby at_379) rfl ?_
                      show Steps p.tables e below (T109.setTop (mkF m 381 (LS_JsJsJsJsJsIJsRRRIRIRu q0 q1 q2 q3 q4 p5 (36028797018963967 : Int64) o1 b2 b25 (((p5.toUInt32 >>> ((7 : Int32) &&& 31).toUInt32).toInt32) &&& (3 : Int32)) vv (2 : Int32) b89) [(.int (2 : Int32)), (.ref b89)])) _
                      refine XS.aload X109.here hx rfl (hb hby at_381) rfl rfl ?_
                      show Steps p.tables e below (T109.setTop (mkF m 383 (LS_JsJsJsJsJsIJsRRRIRIRu q0 q1 q2 q3 q4 p5 (36028797018963967 : Int64) o1 b2 b25 (((p5.toUInt32 >>> ((7 : Int32) &&& 31).toUInt32).toInt32) &&& (3 : Int32)) vv (2 : Int32) b89) [(.ref vv), (.int (2 : Int32)), (.ref b89)])) _
                      refine XS.iconst X109.here hx rfl (hb hby at_383) ?_
                      show Steps p.tables e below (T109.setTop (mkF m 384 (LS_JsJsJsJsJsIJsRRRIRIRu q0 q1 q2 q3 q4 p5 (36028797018963967 : Int64) o1 b2 b25 (((p5.toUInt32 >>> ((7 : Int32) &&& 31).toUInt32).toInt32) &&& (3 : Int32)) vv (2 : Int32) b89) [(.int (0 : Int32)), (.ref vv), (.int (2 : Int32)), (.ref b89)])) _
                      refine X109.laload hx (j := (0 : Int32)) (v := (.long v0)) (by rw [e109]; exact Ar557.1) (State.isArrayOf_alike hZ.alike Ar557.2.1) Ar557.2.2 hin570 hat570 (g := (mkF m 384 (LS_JsJsJsJsJsIJsRRRIRIRu q0 q1 q2 q3 q4 p5 (36028797018963967 : Int64) o1 b2 b25 (((p5.toUInt32 >>> ((7 : Int32) &&& 31).toUInt32).toInt32) &&& (3 : Int32)) vv (2 : Int32) b89) [(.int (0 : Int32)), (.ref vv), (.int (2 : Int32)), (.ref b89)])) rfl rfl (hb hby at_384) _ ?_
                      exact k
                    obtain ⟨cl571, Ar571, qa571, Sa571, Na571, Ha571, Ga571⟩ := id V109
                    have hin572 : ¬ ((2 : Int32) < 0 ∨ cl571.slots.size ≤ ((2 : Int32)).toNatClampNeg) := inb_of Sa571 ⟨by decide, by decide⟩
                    obtain ⟨T572, h572, X572, e572, W572, st572⟩ := stJ X109 hx hZ e109 Ar571 (j := (2 : Int32)) hin572 (g := (mkF m 385 (LS_JsJsJsJsJsIJsRRRIRIRu q0 q1 q2 q3 q4 p5 (36028797018963967 : Int64) o1 b2 b25 (((p5.toUInt32 >>> ((7 : Int32) &&& 31).toUInt32).toInt32) &&& (3 : Int32)) vv (2 : Int32) b89) [(.long v0), (.int (2 : Int32)), (.ref b89)])) rfl rfl (hb hby at_385)
                    have N572 := Fr.snoc X572 N109 g_b89
                    have V572 : Arv Z h572 b89 k89 .long (10 : Int32) [(.long (1 : Int64)), (.long (1 : Int64)), (.long v0), (.long (1 : Int64)), (.long (1 : Int64)), (.long (1 : Int64)), (.long (1 : Int64)), (.long (1 : Int64)), (.long (1 : Int64)), (.long (1 : Int64))] (.long (0 : Int64)) := Arv.set Ar571 qa571 Sa571 Na571 Ha571 Ga571 rfl W572 2 rfl (Nat.le_of_ble_eq_true rfl)
                    refine own_go (B := T572.setTop (mkF m 386 (LS_JsJsJsJsJsIJsRRRIRIRu q0 q1 q2 q3 q4 p5 (36028797018963967 : Int64) o1 b2 b25 (((p5.toUInt32 >>> ((7 : Int32) &&& 31).toUInt32).toInt32) &&& (3 : Int32)) vv (2 : Int32) b89) [])) (fun t k => st572 _ k) ?_
                    have Vv88_v574 := Vv88_v558.other W91 ne560
                    have Vv88_v575 := Vv88_v574.other W93 ne560
                    have Vv88_v576 := Vv88_v575.other W95 ne560
                    have Vv88_v577 := Vv88_v576.other W97 ne560
                    have Vv88_v578 := Vv88_v577.other W99 ne560
                    have Vv88_v579 := Vv88_v578.other W101 ne560
                    have Vv88_v580 := Vv88_v579.other W103 ne560
                    have Vv88_v581 := Vv88_v580.other W105 ne560
                    have Vv88_v582 := Vv88_v581.other W107 ne560
                    have Vv88_v583 := Vv88_v582.other W109 ne560
                    have Vv88_v584 := Vv88_v583.other W572 ne560
                    obtain ⟨cl573, Ar573, qa573, Sa573, Na573, Ha573, Ga573⟩ := id Vv88_v584
                    have hin585 : ¬ ((1 : Int32) < 0 ∨ cl573.slots.size ≤ ((1 : Int32)).toNatClampNeg) := inb_of Sa573 ⟨by decide, by decide⟩
                    have hat585 : cl573.slots[((1 : Int32)).toNatClampNeg]? = some (.long v1) := Has.at Ha573 hin585 rfl
                    refine own_go (B := T572.setTop (mkF m 396 (LS_JsJsJsJsJsIJsRRRIRIRu q0 q1 q2 q3 q4 p5 (36028797018963967 : Int64) o1 b2 b25 (((p5.toUInt32 >>> ((7 : Int32) &&& 31).toUInt32).toInt32) &&& (3 : Int32)) vv (2 : Int32) b89) [(.long v1), (.int (3 : Int32)), (.ref b89)])) (fun t k => ?_) ?_
                    · show Steps p.tables e below (T572.setTop (mkF m 386 (LS_JsJsJsJsJsIJsRRRIRIRu q0 q1 q2 q3 q4 p5 (36028797018963967 : Int64) o1 b2 b25 (((p5.toUInt32 >>> ((7 : Int32) &&& 31).toUInt32).toInt32) &&& (3 : Int32)) vv (2 : Int32) b89) [])) _
                      refine XS.aload X572.here hx rfl (hb hby at_386) rfl rfl ?_
                      show Steps p.tables e below (T572.setTop (mkF m 388 (LS_JsJsJsJsJsIJsRRRIRIRu q0 q1 q2 q3 q4 p5 (36028797018963967 : Int64) o1 b2 b25 (((p5.toUInt32 >>> ((7 : Int32) &&& 31).toUInt32).toInt32) &&& (3 : Int32)) vv (2 : Int32) b89) [(.ref b89)])) _
                      refine XS.iload X572.here hx rfl (hb hby at_388) rfl ?_
                      show Steps p.tables e below (T572.setTop (mkF m 390 (LS_JsJsJsJsJsIJsRRRIRIRu q0 q1 q2 q3 q4 p5 (36028797018963967 : Int64) o1 b2 b25 (((p5.toUInt32 >>> ((7 : Int32) &&& 31).toUInt32).toInt32) &&& (3 : Int32)) vv (2 : Int32) b89) [(.int (2 : Int32)), (.ref b89)])) _
                      refine XS.iconst X572.here hx rfl (hb hby at_390) ?_
                      show Steps p.tables e below (T572.setTop (mkF m 391 (LS_JsJsJsJsJsIJsRRRIRIRu q0 q1 q2 q3 q4 p5 (36028797018963967 : Int64) o1 b2 b25 (((p5.toUInt32 >>> ((7 : Int32) &&& 31).toUInt32).toInt32) &&& (3 : Int32)) vv (2 : Int32) b89) [(.int (1 : Int32)), (.int (2 : Int32)), (.ref b89)])) _
                      refine XS.iadd X572.here hx rfl (hb hby at_391) rfl ?_
                      rw [show ((2 : Int32) + (1 : Int32)) = (3 : Int32) from by decide]
                      show Steps p.tables e below (T572.setTop (mkF m 392 (LS_JsJsJsJsJsIJsRRRIRIRu q0 q1 q2 q3 q4 p5 (36028797018963967 : Int64) o1 b2 b25 (((p5.toUInt32 >>> ((7 : Int32) &&& 31).toUInt32).toInt32) &&& (3 : Int32)) vv (2 : Int32) b89) [(.int (3 : Int32)), (.ref b89)])) _
                      refine XS.aload X572.here hx rfl (hb hby at_392) rfl rfl ?_
                      show Steps p.tables e below (T572.setTop (mkF m 394 (LS_JsJsJsJsJsIJsRRRIRIRu q0 q1 q2 q3 q4 p5 (36028797018963967 : Int64) o1 b2 b25 (((p5.toUInt32 >>> ((7 : Int32) &&& 31).toUInt32).toInt32) &&& (3 : Int32)) vv (2 : Int32) b89) [(.ref vv), (.int (3 : Int32)), (.ref b89)])) _
                      refine XS.iconst X572.here hx rfl (hb hby at_394) ?_
                      show Steps p.tables e below (T572.setTop (mkF m 395 (LS_JsJsJsJsJsIJsRRRIRIRu q0 q1 q2 q3 q4 p5 (36028797018963967 : Int64) o1 b2 b25 (((p5.toUInt32 >>> ((7 : Int32) &&& 31).toUInt32).toInt32) &&& (3 : Int32)) vv (2 : Int32) b89) [(.int (1 : Int32)), (.ref vv), (.int (3 : Int32)), (.ref b89)])) _
                      refine X572.laload hx (j := (1 : Int32)) (v := (.long v1)) (by rw [e572]; exact Ar573.1) (State.isArrayOf_alike hZ.alike Ar573.2.1) Ar573.2.2 hin585 hat585 (g := (mkF m 395 (LS_JsJsJsJsJsIJsRRRIRIRu q0 q1 q2 q3 q4 p5 (36028797018963967 : Int64) o1 b2 b25 (((p5.toUInt32 >>> ((7 : Int32) &&& 31).toUInt32).toInt32) &&& (3 : Int32)) vv (2 : Int32) b89) [(.int (1 : Int32)), (.ref vv), (.int (3 : Int32)), (.ref b89)])) rfl rfl (hb hby at_395) _ ?_
                      exact k
                    obtain ⟨cl586, Ar586, qa586, Sa586, Na586, Ha586, Ga586⟩ := id V572
                    have hin587 : ¬ ((3 : Int32) < 0 ∨ cl586.slots.size ≤ ((3 : Int32)).toNatClampNeg) := inb_of Sa586 ⟨by decide, by decide⟩
                    obtain ⟨T587, h587, X587, e587, W587, st587⟩ := stJ X572 hx hZ e572 Ar586 (j := (3 : Int32)) hin587 (g := (mkF m 396 (LS_JsJsJsJsJsIJsRRRIRIRu q0 q1 q2 q3 q4 p5 (36028797018963967 : Int64) o1 b2 b25 (((p5.toUInt32 >>> ((7 : Int32) &&& 31).toUInt32).toInt32) &&& (3 : Int32)) vv (2 : Int32) b89) [(.long v1), (.int (3 : Int32)), (.ref b89)])) rfl rfl (hb hby at_396)
                    have N587 := Fr.snoc X587 N572 g_b89
                    have V587 : Arv Z h587 b89 k89 .long (10 : Int32) [(.long (1 : Int64)), (.long (1 : Int64)), (.long v0), (.long v1), (.long (1 : Int64)), (.long (1 : Int64)), (.long (1 : Int64)), (.long (1 : Int64)), (.long (1 : Int64)), (.long (1 : Int64))] (.long (0 : Int64)) := Arv.set Ar586 qa586 Sa586 Na586 Ha586 Ga586 rfl W587 3 rfl (Nat.le_of_ble_eq_true rfl)
                    refine own_go (B := T587.setTop (mkF m 397 (LS_JsJsJsJsJsIJsRRRIRIRu q0 q1 q2 q3 q4 p5 (36028797018963967 : Int64) o1 b2 b25 (((p5.toUInt32 >>> ((7 : Int32) &&& 31).toUInt32).toInt32) &&& (3 : Int32)) vv (2 : Int32) b89) [])) (fun t k => st587 _ k) ?_
                    have Vv88_v589 := Vv88_v584.other W587 ne560
                    obtain ⟨cl588, Ar588, qa588, Sa588, Na588, Ha588, Ga588⟩ := id Vv88_v589
                    have hin590 : ¬ ((2 : Int32) < 0 ∨ cl588.slots.size ≤ ((2 : Int32)).toNatClampNeg) := inb_of Sa588 ⟨by decide, by decide⟩
                    have hat590 : cl588.slots[((2 : Int32)).toNatClampNeg]? = some (.long v2) := Has.at Ha588 hin590 rfl
                    refine own_go (B := T587.setTop (mkF m 407 (LS_JsJsJsJsJsIJsRRRIRIRu q0 q1 q2 q3 q4 p5 (36028797018963967 : Int64) o1 b2 b25 (((p5.toUInt32 >>> ((7 : Int32) &&& 31).toUInt32).toInt32) &&& (3 : Int32)) vv (2 : Int32) b89) [(.long v2), (.int (4 : Int32)), (.ref b89)])) (fun t k => ?_) ?_
                    · show Steps p.tables e below (T587.setTop (mkF m 397 (LS_JsJsJsJsJsIJsRRRIRIRu q0 q1 q2 q3 q4 p5 (36028797018963967 : Int64) o1 b2 b25 (((p5.toUInt32 >>> ((7 : Int32) &&& 31).toUInt32).toInt32) &&& (3 : Int32)) vv (2 : Int32) b89) [])) _
                      refine XS.aload X587.here hx rfl (hb hby at_397) rfl rfl ?_
                      show Steps p.tables e below (T587.setTop (mkF m 399 (LS_JsJsJsJsJsIJsRRRIRIRu q0 q1 q2 q3 q4 p5 (36028797018963967 : Int64) o1 b2 b25 (((p5.toUInt32 >>> ((7 : Int32) &&& 31).toUInt32).toInt32) &&& (3 : Int32)) vv (2 : Int32) b89) [(.ref b89)])) _
                      refine XS.iload X587.here hx rfl (hb hby at_399) rfl ?_
                      show Steps p.tables e below (T587.setTop (mkF m 401 (LS_JsJsJsJsJsIJsRRRIRIRu q0 q1 q2 q3 q4 p5 (36028797018963967 : Int64) o1 b2 b25 (((p5.toUInt32 >>> ((7 : Int32) &&& 31).toUInt32).toInt32) &&& (3 : Int32)) vv (2 : Int32) b89) [(.int (2 : Int32)), (.ref b89)])) _
                      refine XS.iconst X587.here hx rfl (hb hby at_401) ?_
                      show Steps p.tables e below (T587.setTop (mkF m 402 (LS_JsJsJsJsJsIJsRRRIRIRu q0 q1 q2 q3 q4 p5 (36028797018963967 : Int64) o1 b2 b25 (((p5.toUInt32 >>> ((7 : Int32) &&& 31).toUInt32).toInt32) &&& (3 : Int32)) vv (2 : Int32) b89) [(.int (2 : Int32)), (.int (2 : Int32)), (.ref b89)])) _
                      refine XS.iadd X587.here hx rfl (hb hby at_402) rfl ?_
                      rw [show ((2 : Int32) + (2 : Int32)) = (4 : Int32) from by decide]
                      show Steps p.tables e below (T587.setTop (mkF m 403 (LS_JsJsJsJsJsIJsRRRIRIRu q0 q1 q2 q3 q4 p5 (36028797018963967 : Int64) o1 b2 b25 (((p5.toUInt32 >>> ((7 : Int32) &&& 31).toUInt32).toInt32) &&& (3 : Int32)) vv (2 : Int32) b89) [(.int (4 : Int32)), (.ref b89)])) _
                      refine XS.aload X587.here hx rfl (hb hby at_403) rfl rfl ?_
                      show Steps p.tables e below (T587.setTop (mkF m 405 (LS_JsJsJsJsJsIJsRRRIRIRu q0 q1 q2 q3 q4 p5 (36028797018963967 : Int64) o1 b2 b25 (((p5.toUInt32 >>> ((7 : Int32) &&& 31).toUInt32).toInt32) &&& (3 : Int32)) vv (2 : Int32) b89) [(.ref vv), (.int (4 : Int32)), (.ref b89)])) _
                      refine XS.iconst X587.here hx rfl (hb hby at_405) ?_
                      show Steps p.tables e below (T587.setTop (mkF m 406 (LS_JsJsJsJsJsIJsRRRIRIRu q0 q1 q2 q3 q4 p5 (36028797018963967 : Int64) o1 b2 b25 (((p5.toUInt32 >>> ((7 : Int32) &&& 31).toUInt32).toInt32) &&& (3 : Int32)) vv (2 : Int32) b89) [(.int (2 : Int32)), (.ref vv), (.int (4 : Int32)), (.ref b89)])) _
                      refine X587.laload hx (j := (2 : Int32)) (v := (.long v2)) (by rw [e587]; exact Ar588.1) (State.isArrayOf_alike hZ.alike Ar588.2.1) Ar588.2.2 hin590 hat590 (g := (mkF m 406 (LS_JsJsJsJsJsIJsRRRIRIRu q0 q1 q2 q3 q4 p5 (36028797018963967 : Int64) o1 b2 b25 (((p5.toUInt32 >>> ((7 : Int32) &&& 31).toUInt32).toInt32) &&& (3 : Int32)) vv (2 : Int32) b89) [(.int (2 : Int32)), (.ref vv), (.int (4 : Int32)), (.ref b89)])) rfl rfl (hb hby at_406) _ ?_
                      exact k
                    obtain ⟨cl591, Ar591, qa591, Sa591, Na591, Ha591, Ga591⟩ := id V587
                    have hin592 : ¬ ((4 : Int32) < 0 ∨ cl591.slots.size ≤ ((4 : Int32)).toNatClampNeg) := inb_of Sa591 ⟨by decide, by decide⟩
                    obtain ⟨T592, h592, X592, e592, W592, st592⟩ := stJ X587 hx hZ e587 Ar591 (j := (4 : Int32)) hin592 (g := (mkF m 407 (LS_JsJsJsJsJsIJsRRRIRIRu q0 q1 q2 q3 q4 p5 (36028797018963967 : Int64) o1 b2 b25 (((p5.toUInt32 >>> ((7 : Int32) &&& 31).toUInt32).toInt32) &&& (3 : Int32)) vv (2 : Int32) b89) [(.long v2), (.int (4 : Int32)), (.ref b89)])) rfl rfl (hb hby at_407)
                    have N592 := Fr.snoc X592 N587 g_b89
                    have V592 : Arv Z h592 b89 k89 .long (10 : Int32) [(.long (1 : Int64)), (.long (1 : Int64)), (.long v0), (.long v1), (.long v2), (.long (1 : Int64)), (.long (1 : Int64)), (.long (1 : Int64)), (.long (1 : Int64)), (.long (1 : Int64))] (.long (0 : Int64)) := Arv.set Ar591 qa591 Sa591 Na591 Ha591 Ga591 rfl W592 4 rfl (Nat.le_of_ble_eq_true rfl)
                    refine own_go (B := T592.setTop (mkF m 408 (LS_JsJsJsJsJsIJsRRRIRIRu q0 q1 q2 q3 q4 p5 (36028797018963967 : Int64) o1 b2 b25 (((p5.toUInt32 >>> ((7 : Int32) &&& 31).toUInt32).toInt32) &&& (3 : Int32)) vv (2 : Int32) b89) [])) (fun t k => st592 _ k) ?_
                    have Vv88_v594 := Vv88_v589.other W592 ne560
                    obtain ⟨cl593, Ar593, qa593, Sa593, Na593, Ha593, Ga593⟩ := id Vv88_v594
                    have hin595 : ¬ ((3 : Int32) < 0 ∨ cl593.slots.size ≤ ((3 : Int32)).toNatClampNeg) := inb_of Sa593 ⟨by decide, by decide⟩
                    have hat595 : cl593.slots[((3 : Int32)).toNatClampNeg]? = some (.long v3) := Has.at Ha593 hin595 rfl
                    refine own_go (B := T592.setTop (mkF m 418 (LS_JsJsJsJsJsIJsRRRIRIRu q0 q1 q2 q3 q4 p5 (36028797018963967 : Int64) o1 b2 b25 (((p5.toUInt32 >>> ((7 : Int32) &&& 31).toUInt32).toInt32) &&& (3 : Int32)) vv (2 : Int32) b89) [(.long v3), (.int (5 : Int32)), (.ref b89)])) (fun t k => ?_) ?_
                    · show Steps p.tables e below (T592.setTop (mkF m 408 (LS_JsJsJsJsJsIJsRRRIRIRu q0 q1 q2 q3 q4 p5 (36028797018963967 : Int64) o1 b2 b25 (((p5.toUInt32 >>> ((7 : Int32) &&& 31).toUInt32).toInt32) &&& (3 : Int32)) vv (2 : Int32) b89) [])) _
                      refine XS.aload X592.here hx rfl (hb hby at_408) rfl rfl ?_
                      show Steps p.tables e below (T592.setTop (mkF m 410 (LS_JsJsJsJsJsIJsRRRIRIRu q0 q1 q2 q3 q4 p5 (36028797018963967 : Int64) o1 b2 b25 (((p5.toUInt32 >>> ((7 : Int32) &&& 31).toUInt32).toInt32) &&& (3 : Int32)) vv (2 : Int32) b89) [(.ref b89)])) _
                      refine XS.iload X592.here hx rfl (hb hby at_410) rfl ?_
                      show Steps p.tables e below (T592.setTop (mkF m 412 (LS_JsJsJsJsJsIJsRRRIRIRu q0 q1 q2 q3 q4 p5 (36028797018963967 : Int64) o1 b2 b25 (((p5.toUInt32 >>> ((7 : Int32) &&& 31).toUInt32).toInt32) &&& (3 : Int32)) vv (2 : Int32) b89) [(.int (2 : Int32)), (.ref b89)])) _
                      refine XS.iconst X592.here hx rfl (hb hby at_412) ?_
                      show Steps p.tables e below (T592.setTop (mkF m 413 (LS_JsJsJsJsJsIJsRRRIRIRu q0 q1 q2 q3 q4 p5 (36028797018963967 : Int64) o1 b2 b25 (((p5.toUInt32 >>> ((7 : Int32) &&& 31).toUInt32).toInt32) &&& (3 : Int32)) vv (2 : Int32) b89) [(.int (3 : Int32)), (.int (2 : Int32)), (.ref b89)])) _
                      refine XS.iadd X592.here hx rfl (hb hby at_413) rfl ?_
                      rw [show ((2 : Int32) + (3 : Int32)) = (5 : Int32) from by decide]
                      show Steps p.tables e below (T592.setTop (mkF m 414 (LS_JsJsJsJsJsIJsRRRIRIRu q0 q1 q2 q3 q4 p5 (36028797018963967 : Int64) o1 b2 b25 (((p5.toUInt32 >>> ((7 : Int32) &&& 31).toUInt32).toInt32) &&& (3 : Int32)) vv (2 : Int32) b89) [(.int (5 : Int32)), (.ref b89)])) _
                      refine XS.aload X592.here hx rfl (hb hby at_414) rfl rfl ?_
                      show Steps p.tables e below (T592.setTop (mkF m 416 (LS_JsJsJsJsJsIJsRRRIRIRu q0 q1 q2 q3 q4 p5 (36028797018963967 : Int64) o1 b2 b25 (((p5.toUInt32 >>> ((7 : Int32) &&& 31).toUInt32).toInt32) &&& (3 : Int32)) vv (2 : Int32) b89) [(.ref vv), (.int (5 : Int32)), (.ref b89)])) _
                      refine XS.iconst X592.here hx rfl (hb hby at_416) ?_
                      show Steps p.tables e below (T592.setTop (mkF m 417 (LS_JsJsJsJsJsIJsRRRIRIRu q0 q1 q2 q3 q4 p5 (36028797018963967 : Int64) o1 b2 b25 (((p5.toUInt32 >>> ((7 : Int32) &&& 31).toUInt32).toInt32) &&& (3 : Int32)) vv (2 : Int32) b89) [(.int (3 : Int32)), (.ref vv), (.int (5 : Int32)), (.ref b89)])) _
                      refine X592.laload hx (j := (3 : Int32)) (v := (.long v3)) (by rw [e592]; exact Ar593.1) (State.isArrayOf_alike hZ.alike Ar593.2.1) Ar593.2.2 hin595 hat595 (g := (mkF m 417 (LS_JsJsJsJsJsIJsRRRIRIRu q0 q1 q2 q3 q4 p5 (36028797018963967 : Int64) o1 b2 b25 (((p5.toUInt32 >>> ((7 : Int32) &&& 31).toUInt32).toInt32) &&& (3 : Int32)) vv (2 : Int32) b89) [(.int (3 : Int32)), (.ref vv), (.int (5 : Int32)), (.ref b89)])) rfl rfl (hb hby at_417) _ ?_
                      exact k
                    obtain ⟨cl596, Ar596, qa596, Sa596, Na596, Ha596, Ga596⟩ := id V592
                    have hin597 : ¬ ((5 : Int32) < 0 ∨ cl596.slots.size ≤ ((5 : Int32)).toNatClampNeg) := inb_of Sa596 ⟨by decide, by decide⟩
                    obtain ⟨T597, h597, X597, e597, W597, st597⟩ := stJ X592 hx hZ e592 Ar596 (j := (5 : Int32)) hin597 (g := (mkF m 418 (LS_JsJsJsJsJsIJsRRRIRIRu q0 q1 q2 q3 q4 p5 (36028797018963967 : Int64) o1 b2 b25 (((p5.toUInt32 >>> ((7 : Int32) &&& 31).toUInt32).toInt32) &&& (3 : Int32)) vv (2 : Int32) b89) [(.long v3), (.int (5 : Int32)), (.ref b89)])) rfl rfl (hb hby at_418)
                    have N597 := Fr.snoc X597 N592 g_b89
                    have V597 : Arv Z h597 b89 k89 .long (10 : Int32) [(.long (1 : Int64)), (.long (1 : Int64)), (.long v0), (.long v1), (.long v2), (.long v3), (.long (1 : Int64)), (.long (1 : Int64)), (.long (1 : Int64)), (.long (1 : Int64))] (.long (0 : Int64)) := Arv.set Ar596 qa596 Sa596 Na596 Ha596 Ga596 rfl W597 5 rfl (Nat.le_of_ble_eq_true rfl)
                    refine own_go (B := T597.setTop (mkF m 419 (LS_JsJsJsJsJsIJsRRRIRIRu q0 q1 q2 q3 q4 p5 (36028797018963967 : Int64) o1 b2 b25 (((p5.toUInt32 >>> ((7 : Int32) &&& 31).toUInt32).toInt32) &&& (3 : Int32)) vv (2 : Int32) b89) [])) (fun t k => st597 _ k) ?_
                    have Vv88_v599 := Vv88_v594.other W597 ne560
                    obtain ⟨cl598, Ar598, qa598, Sa598, Na598, Ha598, Ga598⟩ := id Vv88_v599
                    have hin600 : ¬ ((4 : Int32) < 0 ∨ cl598.slots.size ≤ ((4 : Int32)).toNatClampNeg) := inb_of Sa598 ⟨by decide, by decide⟩
                    have hat600 : cl598.slots[((4 : Int32)).toNatClampNeg]? = some (.long v4) := Has.at Ha598 hin600 rfl
                    refine own_go (B := T597.setTop (mkF m 429 (LS_JsJsJsJsJsIJsRRRIRIRu q0 q1 q2 q3 q4 p5 (36028797018963967 : Int64) o1 b2 b25 (((p5.toUInt32 >>> ((7 : Int32) &&& 31).toUInt32).toInt32) &&& (3 : Int32)) vv (2 : Int32) b89) [(.long v4), (.int (6 : Int32)), (.ref b89)])) (fun t k => ?_) ?_
                    · show Steps p.tables e below (T597.setTop (mkF m 419 (LS_JsJsJsJsJsIJsRRRIRIRu q0 q1 q2 q3 q4 p5 (36028797018963967 : Int64) o1 b2 b25 (((p5.toUInt32 >>> ((7 : Int32) &&& 31).toUInt32).toInt32) &&& (3 : Int32)) vv (2 : Int32) b89) [])) _
                      refine XS.aload X597.here hx rfl (hb hby at_419) rfl rfl ?_
                      show Steps p.tables e below (T597.setTop (mkF m 421 (LS_JsJsJsJsJsIJsRRRIRIRu q0 q1 q2 q3 q4 p5 (36028797018963967 : Int64) o1 b2 b25 (((p5.toUInt32 >>> ((7 : Int32) &&& 31).toUInt32).toInt32) &&& (3 : Int32)) vv (2 : Int32) b89) [(.ref b89)])) _
                      refine XS.iload X597.here hx rfl (hb hby at_421) rfl ?_
                      show Steps p.tables e below (T597.setTop (mkF m 423 (LS_JsJsJsJsJsIJsRRRIRIRu q0 q1 q2 q3 q4 p5 (36028797018963967 : Int64) o1 b2 b25 (((p5.toUInt32 >>> ((7 : Int32) &&& 31).toUInt32).toInt32) &&& (3 : Int32)) vv (2 : Int32) b89) [(.int (2 : Int32)), (.ref b89)])) _
                      refine XS.iconst X597.here hx rfl (hb hby at_423) ?_
                      show Steps p.tables e below (T597.setTop (mkF m 424 (LS_JsJsJsJsJsIJsRRRIRIRu q0 q1 q2 q3 q4 p5 (36028797018963967 : Int64) o1 b2 b25 (((p5.toUInt32 >>> ((7 : Int32) &&& 31).toUInt32).toInt32) &&& (3 : Int32)) vv (2 : Int32) b89) [(.int (4 : Int32)), (.int (2 : Int32)), (.ref b89)])) _
                      refine XS.iadd X597.here hx rfl (hb hby at_424) rfl ?_
                      rw [show ((2 : Int32) + (4 : Int32)) = (6 : Int32) from by decide]
                      show Steps p.tables e below (T597.setTop (mkF m 425 (LS_JsJsJsJsJsIJsRRRIRIRu q0 q1 q2 q3 q4 p5 (36028797018963967 : Int64) o1 b2 b25 (((p5.toUInt32 >>> ((7 : Int32) &&& 31).toUInt32).toInt32) &&& (3 : Int32)) vv (2 : Int32) b89) [(.int (6 : Int32)), (.ref b89)])) _
                      refine XS.aload X597.here hx rfl (hb hby at_425) rfl rfl ?_
                      show Steps p.tables e below (T597.setTop (mkF m 427 (LS_JsJsJsJsJsIJsRRRIRIRu q0 q1 q2 q3 q4 p5 (36028797018963967 : Int64) o1 b2 b25 (((p5.toUInt32 >>> ((7 : Int32) &&& 31).toUInt32).toInt32) &&& (3 : Int32)) vv (2 : Int32) b89) [(.ref vv), (.int (6 : Int32)), (.ref b89)])) _
                      refine XS.iconst X597.here hx rfl (hb hby at_427) ?_
                      show Steps p.tables e below (T597.setTop (mkF m 428 (LS_JsJsJsJsJsIJsRRRIRIRu q0 q1 q2 q3 q4 p5 (36028797018963967 : Int64) o1 b2 b25 (((p5.toUInt32 >>> ((7 : Int32) &&& 31).toUInt32).toInt32) &&& (3 : Int32)) vv (2 : Int32) b89) [(.int (4 : Int32)), (.ref vv), (.int (6 : Int32)), (.ref b89)])) _
                      refine X597.laload hx (j := (4 : Int32)) (v := (.long v4)) (by rw [e597]; exact Ar598.1) (State.isArrayOf_alike hZ.alike Ar598.2.1) Ar598.2.2 hin600 hat600 (g := (mkF m 428 (LS_JsJsJsJsJsIJsRRRIRIRu q0 q1 q2 q3 q4 p5 (36028797018963967 : Int64) o1 b2 b25 (((p5.toUInt32 >>> ((7 : Int32) &&& 31).toUInt32).toInt32) &&& (3 : Int32)) vv (2 : Int32) b89) [(.int (4 : Int32)), (.ref vv), (.int (6 : Int32)), (.ref b89)])) rfl rfl (hb hby at_428) _ ?_
                      exact k
                    obtain ⟨cl601, Ar601, qa601, Sa601, Na601, Ha601, Ga601⟩ := id V597
                    have hin602 : ¬ ((6 : Int32) < 0 ∨ cl601.slots.size ≤ ((6 : Int32)).toNatClampNeg) := inb_of Sa601 ⟨by decide, by decide⟩
                    obtain ⟨T602, h602, X602, e602, W602, st602⟩ := stJ X597 hx hZ e597 Ar601 (j := (6 : Int32)) hin602 (g := (mkF m 429 (LS_JsJsJsJsJsIJsRRRIRIRu q0 q1 q2 q3 q4 p5 (36028797018963967 : Int64) o1 b2 b25 (((p5.toUInt32 >>> ((7 : Int32) &&& 31).toUInt32).toInt32) &&& (3 : Int32)) vv (2 : Int32) b89) [(.long v4), (.int (6 : Int32)), (.ref b89)])) rfl rfl (hb hby at_429)
                    have N602 := Fr.snoc X602 N597 g_b89
                    have V602 : Arv Z h602 b89 k89 .long (10 : Int32) [(.long (1 : Int64)), (.long (1 : Int64)), (.long v0), (.long v1), (.long v2), (.long v3), (.long v4), (.long (1 : Int64)), (.long (1 : Int64)), (.long (1 : Int64))] (.long (0 : Int64)) := Arv.set Ar601 qa601 Sa601 Na601 Ha601 Ga601 rfl W602 6 rfl (Nat.le_of_ble_eq_true rfl)
                    refine own_go (B := T602.setTop (mkF m 430 (LS_JsJsJsJsJsIJsRRRIRIRu q0 q1 q2 q3 q4 p5 (36028797018963967 : Int64) o1 b2 b25 (((p5.toUInt32 >>> ((7 : Int32) &&& 31).toUInt32).toInt32) &&& (3 : Int32)) vv (2 : Int32) b89) [])) (fun t k => st602 _ k) ?_
                    have Vv88_v604 := Vv88_v599.other W602 ne560
                    obtain ⟨cl603, Ar603, qa603, Sa603, Na603, Ha603, Ga603⟩ := id Vv88_v604
                    have hin605 : ¬ ((5 : Int32) < 0 ∨ cl603.slots.size ≤ ((5 : Int32)).toNatClampNeg) := inb_of Sa603 ⟨by decide, by decide⟩
                    have hat605 : cl603.slots[((5 : Int32)).toNatClampNeg]? = some (.long v5) := Has.at Ha603 hin605 rfl
                    refine own_go (B := T602.setTop (mkF m 440 (LS_JsJsJsJsJsIJsRRRIRIRu q0 q1 q2 q3 q4 p5 (36028797018963967 : Int64) o1 b2 b25 (((p5.toUInt32 >>> ((7 : Int32) &&& 31).toUInt32).toInt32) &&& (3 : Int32)) vv (2 : Int32) b89) [(.long v5), (.int (7 : Int32)), (.ref b89)])) (fun t k => ?_) ?_
                    · show Steps p.tables e below (T602.setTop (mkF m 430 (LS_JsJsJsJsJsIJsRRRIRIRu q0 q1 q2 q3 q4 p5 (36028797018963967 : Int64) o1 b2 b25 (((p5.toUInt32 >>> ((7 : Int32) &&& 31).toUInt32).toInt32) &&& (3 : Int32)) vv (2 : Int32) b89) [])) _
                      refine XS.aload X602.here hx rfl (hb hby at_430) rfl rfl ?_
                      show Steps p.tables e below (T602.setTop (mkF m 432 (LS_JsJsJsJsJsIJsRRRIRIRu q0 q1 q2 q3 q4 p5 (36028797018963967 : Int64) o1 b2 b25 (((p5.toUInt32 >>> ((7 : Int32) &&& 31).toUInt32).toInt32) &&& (3 : Int32)) vv (2 : Int32) b89) [(.ref b89)])) _
                      refine XS.iload X602.here hx rfl (hb hby at_432) rfl ?_
                      show Steps p.tables e below (T602.setTop (mkF m 434 (LS_JsJsJsJsJsIJsRRRIRIRu q0 q1 q2 q3 q4 p5 (36028797018963967 : Int64) o1 b2 b25 (((p5.toUInt32 >>> ((7 : Int32) &&& 31).toUInt32).toInt32) &&& (3 : Int32)) vv (2 : Int32) b89) [(.int (2 : Int32)), (.ref b89)])) _
                      refine XS.iconst X602.here hx rfl (hb hby at_434) ?_
                      show Steps p.tables e below (T602.setTop (mkF m 435 (LS_JsJsJsJsJsIJsRRRIRIRu q0 q1 q2 q3 q4 p5 (36028797018963967 : Int64) o1 b2 b25 (((p5.toUInt32 >>> ((7 : Int32) &&& 31).toUInt32).toInt32) &&& (3 : Int32)) vv (2 : Int32) b89) [(.int (5 : Int32)), (.int (2 : Int32)), (.ref b89)])) _
                      refine XS.iadd X602.here hx rfl (hb hby at_435) rfl ?_
                      rw [show ((2 : Int32) + (5 : Int32)) = (7 : Int32) from by decide]
                      show Steps p.tables e below (T602.setTop (mkF m 436 (LS_JsJsJsJsJsIJsRRRIRIRu q0 q1 q2 q3 q4 p5 (36028797018963967 : Int64) o1 b2 b25 (((p5.toUInt32 >>> ((7 : Int32) &&& 31).toUInt32).toInt32) &&& (3 : Int32)) vv (2 : Int32) b89) [(.int (7 : Int32)), (.ref b89)])) _
                      refine XS.aload X602.here hx rfl (hb hby at_436) rfl rfl ?_
                      show Steps p.tables e below (T602.setTop (mkF m 438 (LS_JsJsJsJsJsIJsRRRIRIRu q0 q1 q2 q3 q4 p5 (36028797018963967 : Int64) o1 b2 b25 (((p5.toUInt32 >>> ((7 : Int32) &&& 31).toUInt32).toInt32) &&& (3 : Int32)) vv (2 : Int32) b89) [(.ref vv), (.int (7 : Int32)), (.ref b89)])) _
                      refine XS.iconst X602.here hx rfl (hb hby at_438) ?_
                      show Steps p.tables e below (T602.setTop (mkF m 439 (LS_JsJsJsJsJsIJsRRRIRIRu q0 q1 q2 q3 q4 p5 (36028797018963967 : Int64) o1 b2 b25 (((p5.toUInt32 >>> ((7 : Int32) &&& 31).toUInt32).toInt32) &&& (3 : Int32)) vv (2 : Int32) b89) [(.int (5 : Int32)), (.ref vv), (.int (7 : Int32)), (.ref b89)])) _
                      refine X602.laload hx (j := (5 : Int32)) (v := (.long v5)) (by rw [e602]; exact Ar603.1) (State.isArrayOf_alike hZ.alike Ar603.2.1) Ar603.2.2 hin605 hat605 (g := (mkF m 439 (LS_JsJsJsJsJsIJsRRRIRIRu q0 q1 q2 q3 q4 p5 (36028797018963967 : Int64) o1 b2 b25 (((p5.toUInt32 >>> ((7 : Int32) &&& 31).toUInt32).toInt32) &&& (3 : Int32)) vv (2 : Int32) b89) [(.int (5 : Int32)), (.ref vv), (.int (7 : Int32)), (.ref b89)])) rfl rfl (hb hby at_439) _ ?_
                      exact k
                    obtain ⟨cl606, Ar606, qa606, Sa606, Na606, Ha606, Ga606⟩ := id V602
                    have hin607 : ¬ ((7 : Int32) < 0 ∨ cl606.slots.size ≤ ((7 : Int32)).toNatClampNeg) := inb_of Sa606 ⟨by decide, by decide⟩
                    obtain ⟨T607, h607, X607, e607, W607, st607⟩ := stJ X602 hx hZ e602 Ar606 (j := (7 : Int32)) hin607 (g := (mkF m 440 (LS_JsJsJsJsJsIJsRRRIRIRu q0 q1 q2 q3 q4 p5 (36028797018963967 : Int64) o1 b2 b25 (((p5.toUInt32 >>> ((7 : Int32) &&& 31).toUInt32).toInt32) &&& (3 : Int32)) vv (2 : Int32) b89) [(.long v5), (.int (7 : Int32)), (.ref b89)])) rfl rfl (hb hby at_440)
                    have N607 := Fr.snoc X607 N602 g_b89
                    have V607 : Arv Z h607 b89 k89 .long (10 : Int32) [(.long (1 : Int64)), (.long (1 : Int64)), (.long v0), (.long v1), (.long v2), (.long v3), (.long v4), (.long v5), (.long (1 : Int64)), (.long (1 : Int64))] (.long (0 : Int64)) := Arv.set Ar606 qa606 Sa606 Na606 Ha606 Ga606 rfl W607 7 rfl (Nat.le_of_ble_eq_true rfl)
                    refine own_go (B := T607.setTop (mkF m 441 (LS_JsJsJsJsJsIJsRRRIRIRu q0 q1 q2 q3 q4 p5 (36028797018963967 : Int64) o1 b2 b25 (((p5.toUInt32 >>> ((7 : Int32) &&& 31).toUInt32).toInt32) &&& (3 : Int32)) vv (2 : Int32) b89) [])) (fun t k => st607 _ k) ?_
                    have Vv88_v609 := Vv88_v604.other W607 ne560
                    obtain ⟨cl608, Ar608, qa608, Sa608, Na608, Ha608, Ga608⟩ := id Vv88_v609
                    have hin610 : ¬ ((6 : Int32) < 0 ∨ cl608.slots.size ≤ ((6 : Int32)).toNatClampNeg) := inb_of Sa608 ⟨by decide, by decide⟩
                    have hat610 : cl608.slots[((6 : Int32)).toNatClampNeg]? = some (.long v6) := Has.at Ha608 hin610 rfl
                    refine own_go (B := T607.setTop (mkF m 453 (LS_JsJsJsJsJsIJsRRRIRIRu q0 q1 q2 q3 q4 p5 (36028797018963967 : Int64) o1 b2 b25 (((p5.toUInt32 >>> ((7 : Int32) &&& 31).toUInt32).toInt32) &&& (3 : Int32)) vv (2 : Int32) b89) [(.long v6), (.int (8 : Int32)), (.ref b89)])) (fun t k => ?_) ?_
                    · show Steps p.tables e below (T607.setTop (mkF m 441 (LS_JsJsJsJsJsIJsRRRIRIRu q0 q1 q2 q3 q4 p5 (36028797018963967 : Int64) o1 b2 b25 (((p5.toUInt32 >>> ((7 : Int32) &&& 31).toUInt32).toInt32) &&& (3 : Int32)) vv (2 : Int32) b89) [])) _
                      refine XS.aload X607.here hx rfl (hb hby at_441) rfl rfl ?_
                      show Steps p.tables e below (T607.setTop (mkF m 443 (LS_JsJsJsJsJsIJsRRRIRIRu q0 q1 q2 q3 q4 p5 (36028797018963967 : Int64) o1 b2 b25 (((p5.toUInt32 >>> ((7 : Int32) &&& 31).toUInt32).toInt32) &&& (3 : Int32)) vv (2 : Int32) b89) [(.ref b89)])) _
                      refine XS.iload X607.here hx rfl (hb hby at_443) rfl ?_
                      show Steps p.tables e below (T607.setTop (mkF m 445 (LS_JsJsJsJsJsIJsRRRIRIRu q0 q1 q2 q3 q4 p5 (36028797018963967 : Int64) o1 b2 b25 (((p5.toUInt32 >>> ((7 : Int32) &&& 31).toUInt32).toInt32) &&& (3 : Int32)) vv (2 : Int32) b89) [(.int (2 : Int32)), (.ref b89)])) _
                      refine XS.bipush X607.here hx rfl (hb hby at_445) ?_
                      show Steps p.tables e below (T607.setTop (mkF m 447 (LS_JsJsJsJsJsIJsRRRIRIRu q0 q1 q2 q3 q4 p5 (36028797018963967 : Int64) o1 b2 b25 (((p5.toUInt32 >>> ((7 : Int32) &&& 31).toUInt32).toInt32) &&& (3 : Int32)) vv (2 : Int32) b89) [(.int (6 : Int32)), (.int (2 : Int32)), (.ref b89)])) _
                      refine XS.iadd X607.here hx rfl (hb hby at_447) rfl ?_
                      rw [show ((2 : Int32) + (6 : Int32)) = (8 : Int32) from by decide]
                      show Steps p.tables e below (T607.setTop (mkF m 448 (LS_JsJsJsJsJsIJsRRRIRIRu q0 q1 q2 q3 q4 p5 (36028797018963967 : Int64) o1 b2 b25 (((p5.toUInt32 >>> ((7 : Int32) &&& 31).toUInt32).toInt32) &&& (3 : Int32)) vv (2 : Int32) b89) [(.int (8 : Int32)), (.ref b89)])) _
                      refine XS.aload X607.here hx rfl (hb hby at_448) rfl rfl ?_
                      show Steps p.tables e below (T607.setTop (mkF m 450 (LS_JsJsJsJsJsIJsRRRIRIRu q0 q1 q2 q3 q4 p5 (36028797018963967 : Int64) o1 b2 b25 (((p5.toUInt32 >>> ((7 : Int32) &&& 31).toUInt32).toInt32) &&& (3 : Int32)) vv (2 : Int32) b89) [(.ref vv), (.int (8 : Int32)), (.ref b89)])) _
                      refine XS.bipush X607.here hx rfl (hb hby at_450) ?_
                      show Steps p.tables e below (T607.setTop (mkF m 452 (LS_JsJsJsJsJsIJsRRRIRIRu q0 q1 q2 q3 q4 p5 (36028797018963967 : Int64) o1 b2 b25 (((p5.toUInt32 >>> ((7 : Int32) &&& 31).toUInt32).toInt32) &&& (3 : Int32)) vv (2 : Int32) b89) [(.int (6 : Int32)), (.ref vv), (.int (8 : Int32)), (.ref b89)])) _
                      refine X607.laload hx (j := (6 : Int32)) (v := (.long v6)) (by rw [e607]; exact Ar608.1) (State.isArrayOf_alike hZ.alike Ar608.2.1) Ar608.2.2 hin610 hat610 (g := (mkF m 452 (LS_JsJsJsJsJsIJsRRRIRIRu q0 q1 q2 q3 q4 p5 (36028797018963967 : Int64) o1 b2 b25 (((p5.toUInt32 >>> ((7 : Int32) &&& 31).toUInt32).toInt32) &&& (3 : Int32)) vv (2 : Int32) b89) [(.int (6 : Int32)), (.ref vv), (.int (8 : Int32)), (.ref b89)])) rfl rfl (hb hby at_452) _ ?_
                      exact k
                    obtain ⟨cl611, Ar611, qa611, Sa611, Na611, Ha611, Ga611⟩ := id V607
                    have hin612 : ¬ ((8 : Int32) < 0 ∨ cl611.slots.size ≤ ((8 : Int32)).toNatClampNeg) := inb_of Sa611 ⟨by decide, by decide⟩
                    obtain ⟨T612, h612, X612, e612, W612, st612⟩ := stJ X607 hx hZ e607 Ar611 (j := (8 : Int32)) hin612 (g := (mkF m 453 (LS_JsJsJsJsJsIJsRRRIRIRu q0 q1 q2 q3 q4 p5 (36028797018963967 : Int64) o1 b2 b25 (((p5.toUInt32 >>> ((7 : Int32) &&& 31).toUInt32).toInt32) &&& (3 : Int32)) vv (2 : Int32) b89) [(.long v6), (.int (8 : Int32)), (.ref b89)])) rfl rfl (hb hby at_453)
                    have N612 := Fr.snoc X612 N607 g_b89
                    have V612 : Arv Z h612 b89 k89 .long (10 : Int32) [(.long (1 : Int64)), (.long (1 : Int64)), (.long v0), (.long v1), (.long v2), (.long v3), (.long v4), (.long v5), (.long v6), (.long (1 : Int64))] (.long (0 : Int64)) := Arv.set Ar611 qa611 Sa611 Na611 Ha611 Ga611 rfl W612 8 rfl (Nat.le_of_ble_eq_true rfl)
                    refine own_go (B := T612.setTop (mkF m 454 (LS_JsJsJsJsJsIJsRRRIRIRu q0 q1 q2 q3 q4 p5 (36028797018963967 : Int64) o1 b2 b25 (((p5.toUInt32 >>> ((7 : Int32) &&& 31).toUInt32).toInt32) &&& (3 : Int32)) vv (2 : Int32) b89) [])) (fun t k => st612 _ k) ?_
                    refine own_go (B := T612.setTop (mkF m 458 (LS_JsJsJsJsJsIJsRRRIRIRu q0 q1 q2 q3 q4 p5 (36028797018963967 : Int64) o1 b2 b25 (((p5.toUInt32 >>> ((7 : Int32) &&& 31).toUInt32).toInt32) &&& (3 : Int32)) vv (2 : Int32) b89) [(.ref o1), (.ref vv)])) (fun t k => ?_) ?_
                    · show Steps p.tables e below (T612.setTop (mkF m 454 (LS_JsJsJsJsJsIJsRRRIRIRu q0 q1 q2 q3 q4 p5 (36028797018963967 : Int64) o1 b2 b25 (((p5.toUInt32 >>> ((7 : Int32) &&& 31).toUInt32).toInt32) &&& (3 : Int32)) vv (2 : Int32) b89) [])) _
                      refine XS.aload X612.here hx rfl (hb hby at_454) rfl rfl ?_
                      show Steps p.tables e below (T612.setTop (mkF m 456 (LS_JsJsJsJsJsIJsRRRIRIRu q0 q1 q2 q3 q4 p5 (36028797018963967 : Int64) o1 b2 b25 (((p5.toUInt32 >>> ((7 : Int32) &&& 31).toUInt32).toInt32) &&& (3 : Int32)) vv (2 : Int32) b89) [(.ref vv)])) _
                      refine XS.aload X612.here hx rfl (hb hby at_456) rfl rfl ?_
                      exact k
                    have Zj88_v613 := Nat.le_trans Zj88 E89.1
                    have Zj88_v614 := Nat.le_trans Zj88_v613 (Nat.le_of_eq W91.size.symm)
                    have Zj88_v615 := Nat.le_trans Zj88_v614 (Nat.le_of_eq W93.size.symm)
                    have Zj88_v616 := Nat.le_trans Zj88_v615 (Nat.le_of_eq W95.size.symm)
                    have Zj88_v617 := Nat.le_trans Zj88_v616 (Nat.le_of_eq W97.size.symm)
                    have Zj88_v618 := Nat.le_trans Zj88_v617 (Nat.le_of_eq W99.size.symm)
                    have Zj88_v619 := Nat.le_trans Zj88_v618 (Nat.le_of_eq W101.size.symm)
                    have Zj88_v620 := Nat.le_trans Zj88_v619 (Nat.le_of_eq W103.size.symm)
                    have Zj88_v621 := Nat.le_trans Zj88_v620 (Nat.le_of_eq W105.size.symm)
                    have Zj88_v622 := Nat.le_trans Zj88_v621 (Nat.le_of_eq W107.size.symm)
                    have Zj88_v623 := Nat.le_trans Zj88_v622 (Nat.le_of_eq W109.size.symm)
                    have Zj88_v624 := Nat.le_trans Zj88_v623 (Nat.le_of_eq W572.size.symm)
                    have Zj88_v625 := Nat.le_trans Zj88_v624 (Nat.le_of_eq W587.size.symm)
                    have Zj88_v626 := Nat.le_trans Zj88_v625 (Nat.le_of_eq W592.size.symm)
                    have Zj88_v627 := Nat.le_trans Zj88_v626 (Nat.le_of_eq W597.size.symm)
                    have Zj88_v628 := Nat.le_trans Zj88_v627 (Nat.le_of_eq W602.size.symm)
                    have Zj88_v629 := Nat.le_trans Zj88_v628 (Nat.le_of_eq W607.size.symm)
                    have Zj88_v630 := Nat.le_trans Zj88_v629 (Nat.le_of_eq W612.size.symm)
                    have Vv88_v631 := Vv88_v609.other W612 ne560
                    have Vp88_v632 := Vp88.ext E89
                    have ne634 : o1 ≠ b89 := Nat.ne_of_lt (Nat.lt_of_lt_of_le Vp88.lt (Nat.le_of_eq g89.symm))
                    have Vp88_v633 := Vp88_v632.other W91 ne634
                    have Vp88_v635 := Vp88_v633.other W93 ne634
                    have Vp88_v636 := Vp88_v635.other W95 ne634
                    have Vp88_v637 := Vp88_v636.other W97 ne634
                    have Vp88_v638 := Vp88_v637.other W99 ne634
                    have Vp88_v639 := Vp88_v638.other W101 ne634
                    have Vp88_v640 := Vp88_v639.other W103 ne634
                    have Vp88_v641 := Vp88_v640.other W105 ne634
                    have Vp88_v642 := Vp88_v641.other W107 ne634
                    have Vp88_v643 := Vp88_v642.other W109 ne634
                    have Vp88_v644 := Vp88_v643.other W572 ne634
                    have Vp88_v645 := Vp88_v644.other W587 ne634
                    have Vp88_v646 := Vp88_v645.other W592 ne634
                    have Vp88_v647 := Vp88_v646.other W597 ne634
                    have Vp88_v648 := Vp88_v647.other W602 ne634
                    have Vp88_v649 := Vp88_v648.other W607 ne634
                    have Vp88_v650 := Vp88_v649.other W612 ne634
                    obtain ⟨_, _, ⟨T651, L651, k651, n651⟩, -, X651, ⟨Lc651, hQ651, l651, y651, z651⟩, st651⟩ := Jvm.LawKit.callS X612 hx (y := (⟨"com/example/barred_rows/barredrows/crypto/FpIsZeroPinLaw", "zeroModP", "([J[J)Z"⟩ : MethodName)) hown (mvT hZ (hw _ (List.mem_of_getElem? (i := 12) rfl))) (mvT hZ (hw _ (List.mem_of_getElem? (i := 13) rfl))) (mvT hZ (hw _ (List.mem_of_getElem? (i := 3) rfl))) (mvT hZ (hw _ (List.mem_of_getElem? (i := 14) rfl))) (by decide) (backOf (W := 0) (rm2 l Z a0 hw [] vv o1 kv ko1 v0 v1 v2 v3 v4 v5 v6 h612 n0 Zj88_v630 Vv88_v631 Vp88_v650) hZ (hw _ (List.mem_of_getElem? (i := 14) rfl)) (hw _ (List.mem_of_getElem? (i := 3) rfl)) (by decide) (by decide)) (g := (mkF m 458 (LS_JsJsJsJsJsIJsRRRIRIRu q0 q1 q2 q3 q4 p5 (36028797018963967 : Int64) o1 b2 b25 (((p5.toUInt32 >>> ((7 : Int32) &&& 31).toUInt32).toInt32) &&& (3 : Int32)) vv (2 : Int32) b89) [(.ref o1), (.ref vv)])) rfl (by rw [hml]; rfl) (argsL := [(.ref vv), (.ref o1)]) (rest := []) (lenOf pd___J_J_Z rfl) rfl (by show 2 * 0 + _ ≤ _; exact Nat.le_of_eq rfl) (hb hby at_458) (fun _ _ => ⟨rfl, e612, (by decide : 7 + 0 ≤ _), (by decide : 52 + 0 ≤ _)⟩)
                    dsimp only [Pt.U, Pt.locs, Pt.cells, Pt.slots] at X651 l651 y651 z651 st651 hQ651
                    subst l651 y651 z651
                    obtain ⟨rfl, N651q, e651⟩ := hQ651
                    have N651 := Fr.app N612 N651q
                    refine own_go (B := T651.setTop (mkF m 461 (LS_JsJsJsJsJsIJsRRRIRIRu q0 q1 q2 q3 q4 p5 (36028797018963967 : Int64) o1 b2 b25 (((p5.toUInt32 >>> ((7 : Int32) &&& 31).toUInt32).toInt32) &&& (3 : Int32)) vv (2 : Int32) b89) [(.int (if ((((((v0 ||| v1) ||| v2) ||| v3) ||| v4) ||| v5) ||| v6) = (0 : Int64) ∨ (((((((v0 ^^^ (35747322042231467 : Int64)) ||| (v1 ^^^ (36025922209447795 : Int64))) ||| (v2 ^^^ (1084959616957103 : Int64))) ||| (v3 ^^^ (7925923977987733 : Int64))) ||| (v4 ^^^ (16551456537884751 : Int64))) ||| (v5 ^^^ (23443114579904617 : Int64))) ||| (v6 ^^^ (1829881462546425 : Int64))) = (0 : Int64) then (1 : Int32) else (0 : Int32)))])) (fun t k => st651 _ k) ?_
                    refine own_go (B := T651.setTop (mkF m 467 (LS_JsJsJsJsJsIJsRRRIRIRI q0 q1 q2 q3 q4 p5 (36028797018963967 : Int64) o1 b2 b25 (((p5.toUInt32 >>> ((7 : Int32) &&& 31).toUInt32).toInt32) &&& (3 : Int32)) vv (2 : Int32) b89 (if ((((((v0 ||| v1) ||| v2) ||| v3) ||| v4) ||| v5) ||| v6) = (0 : Int64) ∨ (((((((v0 ^^^ (35747322042231467 : Int64)) ||| (v1 ^^^ (36025922209447795 : Int64))) ||| (v2 ^^^ (1084959616957103 : Int64))) ||| (v3 ^^^ (7925923977987733 : Int64))) ||| (v4 ^^^ (16551456537884751 : Int64))) ||| (v5 ^^^ (23443114579904617 : Int64))) ||| (v6 ^^^ (1829881462546425 : Int64))) = (0 : Int64) then (1 : Int32) else (0 : Int32))) [(.int (2 : Int32)), (.ref b89)])) (fun t k => ?_) ?_
                    · show Steps p.tables e below (T651.setTop (mkF m 461 (LS_JsJsJsJsJsIJsRRRIRIRu q0 q1 q2 q3 q4 p5 (36028797018963967 : Int64) o1 b2 b25 (((p5.toUInt32 >>> ((7 : Int32) &&& 31).toUInt32).toInt32) &&& (3 : Int32)) vv (2 : Int32) b89) [(.int (if ((((((v0 ||| v1) ||| v2) ||| v3) ||| v4) ||| v5) ||| v6) = (0 : Int64) ∨ (((((((v0 ^^^ (35747322042231467 : Int64)) ||| (v1 ^^^ (36025922209447795 : Int64))) ||| (v2 ^^^ (1084959616957103 : Int64))) ||| (v3 ^^^ (7925923977987733 : Int64))) ||| (v4 ^^^ (16551456537884751 : Int64))) ||| (v5 ^^^ (23443114579904617 : Int64))) ||| (v6 ^^^ (1829881462546425 : Int64))) = (0 : Int64) then (1 : Int32) else (0 : Int32)))])) _
                      refine XS.istore X651.here hx rfl (hb hby at_461) rfl (l' := (LS_JsJsJsJsJsIJsRRRIRIRI q0 q1 q2 q3 q4 p5 (36028797018963967 : Int64) o1 b2 b25 (((p5.toUInt32 >>> ((7 : Int32) &&& 31).toUInt32).toInt32) &&& (3 : Int32)) vv (2 : Int32) b89 (if ((((((v0 ||| v1) ||| v2) ||| v3) ||| v4) ||| v5) ||| v6) = (0 : Int64) ∨ (((((((v0 ^^^ (35747322042231467 : Int64)) ||| (v1 ^^^ (36025922209447795 : Int64))) ||| (v2 ^^^ (1084959616957103 : Int64))) ||| (v3 ^^^ (7925923977987733 : Int64))) ||| (v4 ^^^ (16551456537884751 : Int64))) ||| (v5 ^^^ (23443114579904617 : Int64))) ||| (v6 ^^^ (1829881462546425 : Int64))) = (0 : Int64) then (1 : Int32) else (0 : Int32)))) rfl ?_
                      show Steps p.tables e below (T651.setTop (mkF m 463 (LS_JsJsJsJsJsIJsRRRIRIRI q0 q1 q2 q3 q4 p5 (36028797018963967 : Int64) o1 b2 b25 (((p5.toUInt32 >>> ((7 : Int32) &&& 31).toUInt32).toInt32) &&& (3 : Int32)) vv (2 : Int32) b89 (if ((((((v0 ||| v1) ||| v2) ||| v3) ||| v4) ||| v5) ||| v6) = (0 : Int64) ∨ (((((((v0 ^^^ (35747322042231467 : Int64)) ||| (v1 ^^^ (36025922209447795 : Int64))) ||| (v2 ^^^ (1084959616957103 : Int64))) ||| (v3 ^^^ (7925923977987733 : Int64))) ||| (v4 ^^^ (16551456537884751 : Int64))) ||| (v5 ^^^ (23443114579904617 : Int64))) ||| (v6 ^^^ (1829881462546425 : Int64))) = (0 : Int64) then (1 : Int32) else (0 : Int32))) [])) _
                      refine XS.aload X651.here hx rfl (hb hby at_463) rfl rfl ?_
                      show Steps p.tables e below (T651.setTop (mkF m 465 (LS_JsJsJsJsJsIJsRRRIRIRI q0 q1 q2 q3 q4 p5 (36028797018963967 : Int64) o1 b2 b25 (((p5.toUInt32 >>> ((7 : Int32) &&& 31).toUInt32).toInt32) &&& (3 : Int32)) vv (2 : Int32) b89 (if ((((((v0 ||| v1) ||| v2) ||| v3) ||| v4) ||| v5) ||| v6) = (0 : Int64) ∨ (((((((v0 ^^^ (35747322042231467 : Int64)) ||| (v1 ^^^ (36025922209447795 : Int64))) ||| (v2 ^^^ (1084959616957103 : Int64))) ||| (v3 ^^^ (7925923977987733 : Int64))) ||| (v4 ^^^ (16551456537884751 : Int64))) ||| (v5 ^^^ (23443114579904617 : Int64))) ||| (v6 ^^^ (1829881462546425 : Int64))) = (0 : Int64) then (1 : Int32) else (0 : Int32))) [(.ref b89)])) _
                      refine XS.iload X651.here hx rfl (hb hby at_465) rfl ?_
                      exact k
                    obtain ⟨cl652, Ar652, qa652, Sa652, Na652, Ha652, Ga652⟩ := id V612
                    have hi652_0 : ¬ ((2 : Int32) < 0 ∨ cl652.slots.size ≤ ((2 : Int32)).toNatClampNeg) := inb_of Sa652 ⟨by decide, by decide⟩
                    have ht652_0 : cl652.slots[((2 : Int32)).toNatClampNeg]? = some (.long v0) := Has.at Ha652 hi652_0 rfl
                    have hi652_1 : ¬ (((2 : Int32) + (1 : Int32)) < 0 ∨ cl652.slots.size ≤ (((2 : Int32) + (1 : Int32))).toNatClampNeg) := inb_of Sa652 ⟨by decide, by decide⟩
                    have ht652_1 : cl652.slots[(((2 : Int32) + (1 : Int32))).toNatClampNeg]? = some (.long v1) := Has.at Ha652 hi652_1 rfl
                    have hi652_2 : ¬ (((2 : Int32) + (2 : Int32)) < 0 ∨ cl652.slots.size ≤ (((2 : Int32) + (2 : Int32))).toNatClampNeg) := inb_of Sa652 ⟨by decide, by decide⟩
                    have ht652_2 : cl652.slots[(((2 : Int32) + (2 : Int32))).toNatClampNeg]? = some (.long v2) := Has.at Ha652 hi652_2 rfl
                    have hi652_3 : ¬ (((2 : Int32) + (3 : Int32)) < 0 ∨ cl652.slots.size ≤ (((2 : Int32) + (3 : Int32))).toNatClampNeg) := inb_of Sa652 ⟨by decide, by decide⟩
                    have ht652_3 : cl652.slots[(((2 : Int32) + (3 : Int32))).toNatClampNeg]? = some (.long v3) := Has.at Ha652 hi652_3 rfl
                    have hi652_4 : ¬ (((2 : Int32) + (4 : Int32)) < 0 ∨ cl652.slots.size ≤ (((2 : Int32) + (4 : Int32))).toNatClampNeg) := inb_of Sa652 ⟨by decide, by decide⟩
                    have ht652_4 : cl652.slots[(((2 : Int32) + (4 : Int32))).toNatClampNeg]? = some (.long v4) := Has.at Ha652 hi652_4 rfl
                    have hi652_5 : ¬ (((2 : Int32) + (5 : Int32)) < 0 ∨ cl652.slots.size ≤ (((2 : Int32) + (5 : Int32))).toNatClampNeg) := inb_of Sa652 ⟨by decide, by decide⟩
                    have ht652_5 : cl652.slots[(((2 : Int32) + (5 : Int32))).toNatClampNeg]? = some (.long v5) := Has.at Ha652 hi652_5 rfl
                    have hi652_6 : ¬ (((2 : Int32) + (6 : Int32)) < 0 ∨ cl652.slots.size ≤ (((2 : Int32) + (6 : Int32))).toNatClampNeg) := inb_of Sa652 ⟨by decide, by decide⟩
                    have ht652_6 : cl652.slots[(((2 : Int32) + (6 : Int32))).toNatClampNeg]? = some (.long v6) := Has.at Ha652 hi652_6 rfl
                    have Sj0_v653 := Sj0.ext E89
                    have Sj0_v654 := Sj0_v653.wr W91
                    have Sj0_v655 := Sj0_v654.wr W93
                    have Sj0_v656 := Sj0_v655.wr W95
                    have Sj0_v657 := Sj0_v656.wr W97
                    have Sj0_v658 := Sj0_v657.wr W99
                    have Sj0_v659 := Sj0_v658.wr W101
                    have Sj0_v660 := Sj0_v659.wr W103
                    have Sj0_v661 := Sj0_v660.wr W105
                    have Sj0_v662 := Sj0_v661.wr W107
                    have Sj0_v663 := Sj0_v662.wr W109
                    have Sj0_v664 := Sj0_v663.wr W572
                    have Sj0_v665 := Sj0_v664.wr W587
                    have Sj0_v666 := Sj0_v665.wr W592
                    have Sj0_v667 := Sj0_v666.wr W597
                    have Sj0_v668 := Sj0_v667.wr W602
                    have Sj0_v669 := Sj0_v668.wr W607
                    have Sj0_v670 := Sj0_v669.wr W612
                    have Sj1_v671 := Sj1.ext E89
                    have Sj1_v672 := Sj1_v671.wr W91
                    have Sj1_v673 := Sj1_v672.wr W93
                    have Sj1_v674 := Sj1_v673.wr W95
                    have Sj1_v675 := Sj1_v674.wr W97
                    have Sj1_v676 := Sj1_v675.wr W99
                    have Sj1_v677 := Sj1_v676.wr W101
                    have Sj1_v678 := Sj1_v677.wr W103
                    have Sj1_v679 := Sj1_v678.wr W105
                    have Sj1_v680 := Sj1_v679.wr W107
                    have Sj1_v681 := Sj1_v680.wr W109
                    have Sj1_v682 := Sj1_v681.wr W572
                    have Sj1_v683 := Sj1_v682.wr W587
                    have Sj1_v684 := Sj1_v683.wr W592
                    have Sj1_v685 := Sj1_v684.wr W597
                    have Sj1_v686 := Sj1_v685.wr W602
                    have Sj1_v687 := Sj1_v686.wr W607
                    have Sj1_v688 := Sj1_v687.wr W612
                    have Sj2_v689 := Sj2.ext E89
                    have Sj2_v690 := Sj2_v689.wr W91
                    have Sj2_v691 := Sj2_v690.wr W93
                    have Sj2_v692 := Sj2_v691.wr W95
                    have Sj2_v693 := Sj2_v692.wr W97
                    have Sj2_v694 := Sj2_v693.wr W99
                    have Sj2_v695 := Sj2_v694.wr W101
                    have Sj2_v696 := Sj2_v695.wr W103
                    have Sj2_v697 := Sj2_v696.wr W105
                    have Sj2_v698 := Sj2_v697.wr W107
                    have Sj2_v699 := Sj2_v698.wr W109
                    have Sj2_v700 := Sj2_v699.wr W572
                    have Sj2_v701 := Sj2_v700.wr W587
                    have Sj2_v702 := Sj2_v701.wr W592
                    have Sj2_v703 := Sj2_v702.wr W597
                    have Sj2_v704 := Sj2_v703.wr W602
                    have Sj2_v705 := Sj2_v704.wr W607
                    have Sj2_v706 := Sj2_v705.wr W612
                    have Sj3_v707 := Sj3.ext E89
                    have Sj3_v708 := Sj3_v707.wr W91
                    have Sj3_v709 := Sj3_v708.wr W93
                    have Sj3_v710 := Sj3_v709.wr W95
                    have Sj3_v711 := Sj3_v710.wr W97
                    have Sj3_v712 := Sj3_v711.wr W99
                    have Sj3_v713 := Sj3_v712.wr W101
                    have Sj3_v714 := Sj3_v713.wr W103
                    have Sj3_v715 := Sj3_v714.wr W105
                    have Sj3_v716 := Sj3_v715.wr W107
                    have Sj3_v717 := Sj3_v716.wr W109
                    have Sj3_v718 := Sj3_v717.wr W572
                    have Sj3_v719 := Sj3_v718.wr W587
                    have Sj3_v720 := Sj3_v719.wr W592
                    have Sj3_v721 := Sj3_v720.wr W597
                    have Sj3_v722 := Sj3_v721.wr W602
                    have Sj3_v723 := Sj3_v722.wr W607
                    have Sj3_v724 := Sj3_v723.wr W612
                    have Sj4_v725 := Sj4.ext E89
                    have Sj4_v726 := Sj4_v725.wr W91
                    have Sj4_v727 := Sj4_v726.wr W93
                    have Sj4_v728 := Sj4_v727.wr W95
                    have Sj4_v729 := Sj4_v728.wr W97
                    have Sj4_v730 := Sj4_v729.wr W99
                    have Sj4_v731 := Sj4_v730.wr W101
                    have Sj4_v732 := Sj4_v731.wr W103
                    have Sj4_v733 := Sj4_v732.wr W105
                    have Sj4_v734 := Sj4_v733.wr W107
                    have Sj4_v735 := Sj4_v734.wr W109
                    have Sj4_v736 := Sj4_v735.wr W572
                    have Sj4_v737 := Sj4_v736.wr W587
                    have Sj4_v738 := Sj4_v737.wr W592
                    have Sj4_v739 := Sj4_v738.wr W597
                    have Sj4_v740 := Sj4_v739.wr W602
                    have Sj4_v741 := Sj4_v740.wr W607
                    have Sj4_v742 := Sj4_v741.wr W612
                    have Sj5_v743 := Sj5.ext E89
                    have Sj5_v744 := Sj5_v743.wr W91
                    have Sj5_v745 := Sj5_v744.wr W93
                    have Sj5_v746 := Sj5_v745.wr W95
                    have Sj5_v747 := Sj5_v746.wr W97
                    have Sj5_v748 := Sj5_v747.wr W99
                    have Sj5_v749 := Sj5_v748.wr W101
                    have Sj5_v750 := Sj5_v749.wr W103
                    have Sj5_v751 := Sj5_v750.wr W105
                    have Sj5_v752 := Sj5_v751.wr W107
                    have Sj5_v753 := Sj5_v752.wr W109
                    have Sj5_v754 := Sj5_v753.wr W572
                    have Sj5_v755 := Sj5_v754.wr W587
                    have Sj5_v756 := Sj5_v755.wr W592
                    have Sj5_v757 := Sj5_v756.wr W597
                    have Sj5_v758 := Sj5_v757.wr W602
                    have Sj5_v759 := Sj5_v758.wr W607
                    have Sj5_v760 := Sj5_v759.wr W612
                    have Sj6_v761 := Sj6.ext E89
                    have Sj6_v762 := Sj6_v761.wr W91
                    have Sj6_v763 := Sj6_v762.wr W93
                    have Sj6_v764 := Sj6_v763.wr W95
                    have Sj6_v765 := Sj6_v764.wr W97
                    have Sj6_v766 := Sj6_v765.wr W99
                    have Sj6_v767 := Sj6_v766.wr W101
                    have Sj6_v768 := Sj6_v767.wr W103
                    have Sj6_v769 := Sj6_v768.wr W105
                    have Sj6_v770 := Sj6_v769.wr W107
                    have Sj6_v771 := Sj6_v770.wr W109
                    have Sj6_v772 := Sj6_v771.wr W572
                    have Sj6_v773 := Sj6_v772.wr W587
                    have Sj6_v774 := Sj6_v773.wr W592
                    have Sj6_v775 := Sj6_v774.wr W597
                    have Sj6_v776 := Sj6_v775.wr W602
                    have Sj6_v777 := Sj6_v776.wr W607
                    have Sj6_v778 := Sj6_v777.wr W612
                    obtain ⟨_, _, ⟨T779, L779, k779, n779⟩, -, X779, ⟨Lc779, hQ779, l779, y779, z779⟩, st779⟩ := Jvm.LawKit.callS X651 hx (y := (⟨"com/example/barred_rows/barredrows/crypto/Fp", "isZero", "([JI)Z"⟩ : MethodName)) hown (mvT hZ (hw _ (List.mem_of_getElem? (i := 15) rfl))) (mvT hZ (hw _ (List.mem_of_getElem? (i := 16) rfl))) (mvT hZ (hw _ (List.mem_of_getElem? (i := 17) rfl))) (mvT hZ (hw _ (List.mem_of_getElem? (i := 18) rfl))) (by decide) (backOf (W := 0) (rm3 l Z a0 hw [] b89 (2 : Int32) cl652 v0 v1 v2 v3 v4 v5 v6 h612 n0 Zj88_v630 Ar652 hi652_0 hi652_1 hi652_2 hi652_3 hi652_4 hi652_5 hi652_6 ht652_0 ht652_1 ht652_2 ht652_3 ht652_4 ht652_5 ht652_6 Sj0_v670 Sj1_v688 Sj2_v706 Sj3_v724 Sj4_v742 Sj5_v760 Sj6_v778) hZ (hw _ (List.mem_of_getElem? (i := 18) rfl)) (hw _ (List.mem_of_getElem? (i := 17) rfl)) (by decide) (by decide)) (g := (mkF m 467 (LS_JsJsJsJsJsIJsRRRIRIRI q0 q1 q2 q3 q4 p5 (36028797018963967 : Int64) o1 b2 b25 (((p5.toUInt32 >>> ((7 : Int32) &&& 31).toUInt32).toInt32) &&& (3 : Int32)) vv (2 : Int32) b89 (if ((((((v0 ||| v1) ||| v2) ||| v3) ||| v4) ||| v5) ||| v6) = (0 : Int64) ∨ (((((((v0 ^^^ (35747322042231467 : Int64)) ||| (v1 ^^^ (36025922209447795 : Int64))) ||| (v2 ^^^ (1084959616957103 : Int64))) ||| (v3 ^^^ (7925923977987733 : Int64))) ||| (v4 ^^^ (16551456537884751 : Int64))) ||| (v5 ^^^ (23443114579904617 : Int64))) ||| (v6 ^^^ (1829881462546425 : Int64))) = (0 : Int64) then (1 : Int32) else (0 : Int32))) [(.int (2 : Int32)), (.ref b89)])) rfl (by rw [hml]; rfl) (argsL := [(.ref b89), (.int (2 : Int32))]) (rest := []) (lenOf pd___JI_Z rfl) rfl (by show 2 * 0 + _ ≤ _; exact Nat.le_of_eq rfl) (hb hby at_467) (fun _ _ => ⟨rfl, e651, (by decide : 7 + 1 ≤ _), (by decide : 52 + 7 ≤ _)⟩)
                    dsimp only [Pt.U, Pt.locs, Pt.cells, Pt.slots] at X779 l779 y779 z779 st779 hQ779
                    subst l779 y779 z779
                    obtain ⟨rfl, N779q⟩ := hQ779
                    have N779 := Fr.app N651 N779q
                    refine own_go (B := T779.setTop (mkF m 470 (LS_JsJsJsJsJsIJsRRRIRIRI q0 q1 q2 q3 q4 p5 (36028797018963967 : Int64) o1 b2 b25 (((p5.toUInt32 >>> ((7 : Int32) &&& 31).toUInt32).toInt32) &&& (3 : Int32)) vv (2 : Int32) b89 (if ((((((v0 ||| v1) ||| v2) ||| v3) ||| v4) ||| v5) ||| v6) = (0 : Int64) ∨ (((((((v0 ^^^ (35747322042231467 : Int64)) ||| (v1 ^^^ (36025922209447795 : Int64))) ||| (v2 ^^^ (1084959616957103 : Int64))) ||| (v3 ^^^ (7925923977987733 : Int64))) ||| (v4 ^^^ (16551456537884751 : Int64))) ||| (v5 ^^^ (23443114579904617 : Int64))) ||| (v6 ^^^ (1829881462546425 : Int64))) = (0 : Int64) then (1 : Int32) else (0 : Int32))) [(.int (if (((((((own_c0 v0 v1 v2 v3 v4 v5 v6) ||| (own_c1 v0 v1 v2 v3 v4 v5 v6)) ||| (own_c2 v0 v1 v2 v3 v4 v5 v6)) ||| (own_c3 v0 v1 v2 v3 v4 v5 v6)) ||| (own_c4 v0 v1 v2 v3 v4 v5 v6)) ||| (own_c5 v0 v1 v2 v3 v4 v5 v6)) ||| (own_c6 v0 v1 v2 v3 v4 v5 v6)) = (0 : Int64) then (1 : Int32) else (0 : Int32)))])) (fun t k => st779 _ k) ?_
                    refine own_go (B := T779.setTop (mkF m 480 (LS_JsJsJsJsJsIJsRRRIRIRI q0 q1 q2 q3 q4 p5 (36028797018963967 : Int64) o1 b2 b25 (((p5.toUInt32 >>> ((7 : Int32) &&& 31).toUInt32).toInt32) &&& (3 : Int32)) vv (2 : Int32) b89 (if ((((((v0 ||| v1) ||| v2) ||| v3) ||| v4) ||| v5) ||| v6) = (0 : Int64) ∨ (((((((v0 ^^^ (35747322042231467 : Int64)) ||| (v1 ^^^ (36025922209447795 : Int64))) ||| (v2 ^^^ (1084959616957103 : Int64))) ||| (v3 ^^^ (7925923977987733 : Int64))) ||| (v4 ^^^ (16551456537884751 : Int64))) ||| (v5 ^^^ (23443114579904617 : Int64))) ||| (v6 ^^^ (1829881462546425 : Int64))) = (0 : Int64) then (1 : Int32) else (0 : Int32))) [(.int (1 : Int32))])) (fun t k => ?_) ?_
                    · show Steps p.tables e below (T779.setTop (mkF m 470 (LS_JsJsJsJsJsIJsRRRIRIRI q0 q1 q2 q3 q4 p5 (36028797018963967 : Int64) o1 b2 b25 (((p5.toUInt32 >>> ((7 : Int32) &&& 31).toUInt32).toInt32) &&& (3 : Int32)) vv (2 : Int32) b89 (if ((((((v0 ||| v1) ||| v2) ||| v3) ||| v4) ||| v5) ||| v6) = (0 : Int64) ∨ (((((((v0 ^^^ (35747322042231467 : Int64)) ||| (v1 ^^^ (36025922209447795 : Int64))) ||| (v2 ^^^ (1084959616957103 : Int64))) ||| (v3 ^^^ (7925923977987733 : Int64))) ||| (v4 ^^^ (16551456537884751 : Int64))) ||| (v5 ^^^ (23443114579904617 : Int64))) ||| (v6 ^^^ (1829881462546425 : Int64))) = (0 : Int64) then (1 : Int32) else (0 : Int32))) [(.int (if (((((((own_c0 v0 v1 v2 v3 v4 v5 v6) ||| (own_c1 v0 v1 v2 v3 v4 v5 v6)) ||| (own_c2 v0 v1 v2 v3 v4 v5 v6)) ||| (own_c3 v0 v1 v2 v3 v4 v5 v6)) ||| (own_c4 v0 v1 v2 v3 v4 v5 v6)) ||| (own_c5 v0 v1 v2 v3 v4 v5 v6)) ||| (own_c6 v0 v1 v2 v3 v4 v5 v6)) = (0 : Int64) then (1 : Int32) else (0 : Int32)))])) _
                      refine XS.iload X779.here hx rfl (hb hby at_470) rfl ?_
                      show Steps p.tables e below (T779.setTop (mkF m 472 (LS_JsJsJsJsJsIJsRRRIRIRI q0 q1 q2 q3 q4 p5 (36028797018963967 : Int64) o1 b2 b25 (((p5.toUInt32 >>> ((7 : Int32) &&& 31).toUInt32).toInt32) &&& (3 : Int32)) vv (2 : Int32) b89 (if ((((((v0 ||| v1) ||| v2) ||| v3) ||| v4) ||| v5) ||| v6) = (0 : Int64) ∨ (((((((v0 ^^^ (35747322042231467 : Int64)) ||| (v1 ^^^ (36025922209447795 : Int64))) ||| (v2 ^^^ (1084959616957103 : Int64))) ||| (v3 ^^^ (7925923977987733 : Int64))) ||| (v4 ^^^ (16551456537884751 : Int64))) ||| (v5 ^^^ (23443114579904617 : Int64))) ||| (v6 ^^^ (1829881462546425 : Int64))) = (0 : Int64) then (1 : Int32) else (0 : Int32))) [(.int (if ((((((v0 ||| v1) ||| v2) ||| v3) ||| v4) ||| v5) ||| v6) = (0 : Int64) ∨ (((((((v0 ^^^ (35747322042231467 : Int64)) ||| (v1 ^^^ (36025922209447795 : Int64))) ||| (v2 ^^^ (1084959616957103 : Int64))) ||| (v3 ^^^ (7925923977987733 : Int64))) ||| (v4 ^^^ (16551456537884751 : Int64))) ||| (v5 ^^^ (23443114579904617 : Int64))) ||| (v6 ^^^ (1829881462546425 : Int64))) = (0 : Int64) then (1 : Int32) else (0 : Int32))), (.int (if (((((((own_c0 v0 v1 v2 v3 v4 v5 v6) ||| (own_c1 v0 v1 v2 v3 v4 v5 v6)) ||| (own_c2 v0 v1 v2 v3 v4 v5 v6)) ||| (own_c3 v0 v1 v2 v3 v4 v5 v6)) ||| (own_c4 v0 v1 v2 v3 v4 v5 v6)) ||| (own_c5 v0 v1 v2 v3 v4 v5 v6)) ||| (own_c6 v0 v1 v2 v3 v4 v5 v6)) = (0 : Int64) then (1 : Int32) else (0 : Int32)))])) _
                      refine XS.icmpNo X779.here hx rfl (hb hby at_472) rfl (teq (own_ite ((own_zero bv0 bv1 bv2 bv3 bv4 bv5 bv6)))).2 ?_
                      show Steps p.tables e below (T779.setTop (mkF m 475 (LS_JsJsJsJsJsIJsRRRIRIRI q0 q1 q2 q3 q4 p5 (36028797018963967 : Int64) o1 b2 b25 (((p5.toUInt32 >>> ((7 : Int32) &&& 31).toUInt32).toInt32) &&& (3 : Int32)) vv (2 : Int32) b89 (if ((((((v0 ||| v1) ||| v2) ||| v3) ||| v4) ||| v5) ||| v6) = (0 : Int64) ∨ (((((((v0 ^^^ (35747322042231467 : Int64)) ||| (v1 ^^^ (36025922209447795 : Int64))) ||| (v2 ^^^ (1084959616957103 : Int64))) ||| (v3 ^^^ (7925923977987733 : Int64))) ||| (v4 ^^^ (16551456537884751 : Int64))) ||| (v5 ^^^ (23443114579904617 : Int64))) ||| (v6 ^^^ (1829881462546425 : Int64))) = (0 : Int64) then (1 : Int32) else (0 : Int32))) [])) _
                      refine XS.iconst X779.here hx rfl (hb hby at_475) ?_
                      show Steps p.tables e below (T779.setTop (mkF m 476 (LS_JsJsJsJsJsIJsRRRIRIRI q0 q1 q2 q3 q4 p5 (36028797018963967 : Int64) o1 b2 b25 (((p5.toUInt32 >>> ((7 : Int32) &&& 31).toUInt32).toInt32) &&& (3 : Int32)) vv (2 : Int32) b89 (if ((((((v0 ||| v1) ||| v2) ||| v3) ||| v4) ||| v5) ||| v6) = (0 : Int64) ∨ (((((((v0 ^^^ (35747322042231467 : Int64)) ||| (v1 ^^^ (36025922209447795 : Int64))) ||| (v2 ^^^ (1084959616957103 : Int64))) ||| (v3 ^^^ (7925923977987733 : Int64))) ||| (v4 ^^^ (16551456537884751 : Int64))) ||| (v5 ^^^ (23443114579904617 : Int64))) ||| (v6 ^^^ (1829881462546425 : Int64))) = (0 : Int64) then (1 : Int32) else (0 : Int32))) [(.int (1 : Int32))])) _
                      refine XS.goto X779.here hx rfl (pc0 := 476) (pc' := 480) rfl (hb hby at_476) (by decide) (by decide) ?_
                      exact k
                    obtain ⟨fs, hr, hrun, hended, hW, hsame⟩ := X779.leave (v := some (.int (1 : Int32))) (fun h => by rw [Bd.returns] at h; cases h)
                    refine ⟨_, _, ?_, hrun, hended, _, _, rfl, ?_, ⟨_, rfl⟩, hW, hsame.mono (by decide) (by decide)⟩
                    · show Steps p.tables e below (T779.setTop (mkF m 480 (LS_JsJsJsJsJsIJsRRRIRIRI q0 q1 q2 q3 q4 p5 (36028797018963967 : Int64) o1 b2 b25 (((p5.toUInt32 >>> ((7 : Int32) &&& 31).toUInt32).toInt32) &&& (3 : Int32)) vv (2 : Int32) b89 (if ((((((v0 ||| v1) ||| v2) ||| v3) ||| v4) ||| v5) ||| v6) = (0 : Int64) ∨ (((((((v0 ^^^ (35747322042231467 : Int64)) ||| (v1 ^^^ (36025922209447795 : Int64))) ||| (v2 ^^^ (1084959616957103 : Int64))) ||| (v3 ^^^ (7925923977987733 : Int64))) ||| (v4 ^^^ (16551456537884751 : Int64))) ||| (v5 ^^^ (23443114579904617 : Int64))) ||| (v6 ^^^ (1829881462546425 : Int64))) = (0 : Int64) then (1 : Int32) else (0 : Int32))) [(.int (1 : Int32))])) _
                      exact retN X779 hx (t := .boolean) Bd.returns (by simp) (hb hby at_480) hr
                    · show Q0 Z q0 q1 q2 q3 q4 p5 h0 n0 _ T779.heap _
                      exact ⟨rfl, N779⟩
                  · rw [hk110]
                    have Vv88_v781 := Vv88.ext E89
                    have ne783 : vv ≠ b89 := Nat.ne_of_lt (Nat.lt_of_lt_of_le Vv88.lt (Nat.le_of_eq g89.symm))
                    have Vv88_v782 := Vv88_v781.other W91 ne783
                    have Vv88_v784 := Vv88_v782.other W93 ne783
                    have Vv88_v785 := Vv88_v784.other W95 ne783
                    have Vv88_v786 := Vv88_v785.other W97 ne783
                    have Vv88_v787 := Vv88_v786.other W99 ne783
                    have Vv88_v788 := Vv88_v787.other W101 ne783
                    have Vv88_v789 := Vv88_v788.other W103 ne783
                    have Vv88_v790 := Vv88_v789.other W105 ne783
                    have Vv88_v791 := Vv88_v790.other W107 ne783
                    have Vv88_v792 := Vv88_v791.other W109 ne783
                    obtain ⟨cl780, Ar780, qa780, Sa780, Na780, Ha780, Ga780⟩ := id Vv88_v792
                    have hin793 : ¬ ((0 : Int32) < 0 ∨ cl780.slots.size ≤ ((0 : Int32)).toNatClampNeg) := inb_of Sa780 ⟨by decide, by decide⟩
                    have hat793 : cl780.slots[((0 : Int32)).toNatClampNeg]? = some (.long v0) := Has.at Ha780 hin793 rfl
                    refine own_go (B := T109.setTop (mkF m 385 (LS_JsJsJsJsJsIJsRRRIRIRu q0 q1 q2 q3 q4 p5 (36028797018963967 : Int64) o1 b2 b25 (((p5.toUInt32 >>> ((7 : Int32) &&& 31).toUInt32).toInt32) &&& (3 : Int32)) vv (3 : Int32) b89) [(.long v0), (.int (3 : Int32)), (.ref b89)])) (fun t k => ?_) ?_
                    · show Steps p.tables e below (T109.setTop (mkF m 377 (LS_JsJsJsJsJsIJsRRRIRIRu q0 q1 q2 q3 q4 p5 (36028797018963967 : Int64) o1 b2 b25 (((p5.toUInt32 >>> ((7 : Int32) &&& 31).toUInt32).toInt32) &&& (3 : Int32)) vv (3 : Int32) b89) [])) _
                      refine XS.aload X109.here hx rfl (hb hby at_377) rfl rfl ?_
                      show Steps p.tables e below (T109.setTop (mkF m 379 (LS_JsJsJsJsJsIJsRRRIRIRu q0 q1 q2 q3 q4 p5 (36028797018963967 : Int64) o1 b2 b25 (((p5.toUInt32 >>> ((7 : Int32) &&& 31).toUInt32).toInt32) &&& (3 : Int32)) vv (3 : Int32) b89) [(.ref b89)])) _
                      refine XS.iload X109.here hx rfl (hb hby at_379) rfl ?_
                      show Steps p.tables e below (T109.setTop (mkF m 381 (LS_JsJsJsJsJsIJsRRRIRIRu q0 q1 q2 q3 q4 p5 (36028797018963967 : Int64) o1 b2 b25 (((p5.toUInt32 >>> ((7 : Int32) &&& 31).toUInt32).toInt32) &&& (3 : Int32)) vv (3 : Int32) b89) [(.int (3 : Int32)), (.ref b89)])) _
                      refine XS.aload X109.here hx rfl (hb hby at_381) rfl rfl ?_
                      show Steps p.tables e below (T109.setTop (mkF m 383 (LS_JsJsJsJsJsIJsRRRIRIRu q0 q1 q2 q3 q4 p5 (36028797018963967 : Int64) o1 b2 b25 (((p5.toUInt32 >>> ((7 : Int32) &&& 31).toUInt32).toInt32) &&& (3 : Int32)) vv (3 : Int32) b89) [(.ref vv), (.int (3 : Int32)), (.ref b89)])) _
                      refine XS.iconst X109.here hx rfl (hb hby at_383) ?_
                      show Steps p.tables e below (T109.setTop (mkF m 384 (LS_JsJsJsJsJsIJsRRRIRIRu q0 q1 q2 q3 q4 p5 (36028797018963967 : Int64) o1 b2 b25 (((p5.toUInt32 >>> ((7 : Int32) &&& 31).toUInt32).toInt32) &&& (3 : Int32)) vv (3 : Int32) b89) [(.int (0 : Int32)), (.ref vv), (.int (3 : Int32)), (.ref b89)])) _
                      refine X109.laload hx (j := (0 : Int32)) (v := (.long v0)) (by rw [e109]; exact Ar780.1) (State.isArrayOf_alike hZ.alike Ar780.2.1) Ar780.2.2 hin793 hat793 (g := (mkF m 384 (LS_JsJsJsJsJsIJsRRRIRIRu q0 q1 q2 q3 q4 p5 (36028797018963967 : Int64) o1 b2 b25 (((p5.toUInt32 >>> ((7 : Int32) &&& 31).toUInt32).toInt32) &&& (3 : Int32)) vv (3 : Int32) b89) [(.int (0 : Int32)), (.ref vv), (.int (3 : Int32)), (.ref b89)])) rfl rfl (hb hby at_384) _ ?_
                      exact k
                    obtain ⟨cl794, Ar794, qa794, Sa794, Na794, Ha794, Ga794⟩ := id V109
                    have hin795 : ¬ ((3 : Int32) < 0 ∨ cl794.slots.size ≤ ((3 : Int32)).toNatClampNeg) := inb_of Sa794 ⟨by decide, by decide⟩
                    obtain ⟨T795, h795, X795, e795, W795, st795⟩ := stJ X109 hx hZ e109 Ar794 (j := (3 : Int32)) hin795 (g := (mkF m 385 (LS_JsJsJsJsJsIJsRRRIRIRu q0 q1 q2 q3 q4 p5 (36028797018963967 : Int64) o1 b2 b25 (((p5.toUInt32 >>> ((7 : Int32) &&& 31).toUInt32).toInt32) &&& (3 : Int32)) vv (3 : Int32) b89) [(.long v0), (.int (3 : Int32)), (.ref b89)])) rfl rfl (hb hby at_385)
                    have N795 := Fr.snoc X795 N109 g_b89
                    have V795 : Arv Z h795 b89 k89 .long (10 : Int32) [(.long (1 : Int64)), (.long (1 : Int64)), (.long (1 : Int64)), (.long v0), (.long (1 : Int64)), (.long (1 : Int64)), (.long (1 : Int64)), (.long (1 : Int64)), (.long (1 : Int64)), (.long (1 : Int64))] (.long (0 : Int64)) := Arv.set Ar794 qa794 Sa794 Na794 Ha794 Ga794 rfl W795 3 rfl (Nat.le_of_ble_eq_true rfl)
                    refine own_go (B := T795.setTop (mkF m 386 (LS_JsJsJsJsJsIJsRRRIRIRu q0 q1 q2 q3 q4 p5 (36028797018963967 : Int64) o1 b2 b25 (((p5.toUInt32 >>> ((7 : Int32) &&& 31).toUInt32).toInt32) &&& (3 : Int32)) vv (3 : Int32) b89) [])) (fun t k => st795 _ k) ?_
                    have Vv88_v797 := Vv88_v781.other W91 ne783
                    have Vv88_v798 := Vv88_v797.other W93 ne783
                    have Vv88_v799 := Vv88_v798.other W95 ne783
                    have Vv88_v800 := Vv88_v799.other W97 ne783
                    have Vv88_v801 := Vv88_v800.other W99 ne783
                    have Vv88_v802 := Vv88_v801.other W101 ne783
                    have Vv88_v803 := Vv88_v802.other W103 ne783
                    have Vv88_v804 := Vv88_v803.other W105 ne783
                    have Vv88_v805 := Vv88_v804.other W107 ne783
                    have Vv88_v806 := Vv88_v805.other W109 ne783
                    have Vv88_v807 := Vv88_v806.other W795 ne783
                    obtain ⟨cl796, Ar796, qa796, Sa796, Na796, Ha796, Ga796⟩ := id Vv88_v807
                    have hin808 : ¬ ((1 : Int32) < 0 ∨ cl796.slots.size ≤ ((1 : Int32)).toNatClampNeg) := inb_of Sa796 ⟨by decide, by decide⟩
                    have hat808 : cl796.slots[((1 : Int32)).toNatClampNeg]? = some (.long v1) := Has.at Ha796 hin808 rfl
                    refine own_go (B := T795.setTop (mkF m 396 (LS_JsJsJsJsJsIJsRRRIRIRu q0 q1 q2 q3 q4 p5 (36028797018963967 : Int64) o1 b2 b25 (((p5.toUInt32 >>> ((7 : Int32) &&& 31).toUInt32).toInt32) &&& (3 : Int32)) vv (3 : Int32) b89) [(.long v1), (.int (4 : Int32)), (.ref b89)])) (fun t k => ?_) ?_
                    · show Steps p.tables e below (T795.setTop (mkF m 386 (LS_JsJsJsJsJsIJsRRRIRIRu q0 q1 q2 q3 q4 p5 (36028797018963967 : Int64) o1 b2 b25 (((p5.toUInt32 >>> ((7 : Int32) &&& 31).toUInt32).toInt32) &&& (3 : Int32)) vv (3 : Int32) b89) [])) _
                      refine XS.aload X795.here hx rfl (hb hby at_386) rfl rfl ?_
                      show Steps p.tables e below (T795.setTop (mkF m 388 (LS_JsJsJsJsJsIJsRRRIRIRu q0 q1 q2 q3 q4 p5 (36028797018963967 : Int64) o1 b2 b25 (((p5.toUInt32 >>> ((7 : Int32) &&& 31).toUInt32).toInt32) &&& (3 : Int32)) vv (3 : Int32) b89) [(.ref b89)])) _
                      refine XS.iload X795.here hx rfl (hb hby at_388) rfl ?_
                      show Steps p.tables e below (T795.setTop (mkF m 390 (LS_JsJsJsJsJsIJsRRRIRIRu q0 q1 q2 q3 q4 p5 (36028797018963967 : Int64) o1 b2 b25 (((p5.toUInt32 >>> ((7 : Int32) &&& 31).toUInt32).toInt32) &&& (3 : Int32)) vv (3 : Int32) b89) [(.int (3 : Int32)), (.ref b89)])) _
                      refine XS.iconst X795.here hx rfl (hb hby at_390) ?_
                      show Steps p.tables e below (T795.setTop (mkF m 391 (LS_JsJsJsJsJsIJsRRRIRIRu q0 q1 q2 q3 q4 p5 (36028797018963967 : Int64) o1 b2 b25 (((p5.toUInt32 >>> ((7 : Int32) &&& 31).toUInt32).toInt32) &&& (3 : Int32)) vv (3 : Int32) b89) [(.int (1 : Int32)), (.int (3 : Int32)), (.ref b89)])) _
                      refine XS.iadd X795.here hx rfl (hb hby at_391) rfl ?_
                      rw [show ((3 : Int32) + (1 : Int32)) = (4 : Int32) from by decide]
                      show Steps p.tables e below (T795.setTop (mkF m 392 (LS_JsJsJsJsJsIJsRRRIRIRu q0 q1 q2 q3 q4 p5 (36028797018963967 : Int64) o1 b2 b25 (((p5.toUInt32 >>> ((7 : Int32) &&& 31).toUInt32).toInt32) &&& (3 : Int32)) vv (3 : Int32) b89) [(.int (4 : Int32)), (.ref b89)])) _
                      refine XS.aload X795.here hx rfl (hb hby at_392) rfl rfl ?_
                      show Steps p.tables e below (T795.setTop (mkF m 394 (LS_JsJsJsJsJsIJsRRRIRIRu q0 q1 q2 q3 q4 p5 (36028797018963967 : Int64) o1 b2 b25 (((p5.toUInt32 >>> ((7 : Int32) &&& 31).toUInt32).toInt32) &&& (3 : Int32)) vv (3 : Int32) b89) [(.ref vv), (.int (4 : Int32)), (.ref b89)])) _
                      refine XS.iconst X795.here hx rfl (hb hby at_394) ?_
                      show Steps p.tables e below (T795.setTop (mkF m 395 (LS_JsJsJsJsJsIJsRRRIRIRu q0 q1 q2 q3 q4 p5 (36028797018963967 : Int64) o1 b2 b25 (((p5.toUInt32 >>> ((7 : Int32) &&& 31).toUInt32).toInt32) &&& (3 : Int32)) vv (3 : Int32) b89) [(.int (1 : Int32)), (.ref vv), (.int (4 : Int32)), (.ref b89)])) _
                      refine X795.laload hx (j := (1 : Int32)) (v := (.long v1)) (by rw [e795]; exact Ar796.1) (State.isArrayOf_alike hZ.alike Ar796.2.1) Ar796.2.2 hin808 hat808 (g := (mkF m 395 (LS_JsJsJsJsJsIJsRRRIRIRu q0 q1 q2 q3 q4 p5 (36028797018963967 : Int64) o1 b2 b25 (((p5.toUInt32 >>> ((7 : Int32) &&& 31).toUInt32).toInt32) &&& (3 : Int32)) vv (3 : Int32) b89) [(.int (1 : Int32)), (.ref vv), (.int (4 : Int32)), (.ref b89)])) rfl rfl (hb hby at_395) _ ?_
                      exact k
                    obtain ⟨cl809, Ar809, qa809, Sa809, Na809, Ha809, Ga809⟩ := id V795
                    have hin810 : ¬ ((4 : Int32) < 0 ∨ cl809.slots.size ≤ ((4 : Int32)).toNatClampNeg) := inb_of Sa809 ⟨by decide, by decide⟩
                    obtain ⟨T810, h810, X810, e810, W810, st810⟩ := stJ X795 hx hZ e795 Ar809 (j := (4 : Int32)) hin810 (g := (mkF m 396 (LS_JsJsJsJsJsIJsRRRIRIRu q0 q1 q2 q3 q4 p5 (36028797018963967 : Int64) o1 b2 b25 (((p5.toUInt32 >>> ((7 : Int32) &&& 31).toUInt32).toInt32) &&& (3 : Int32)) vv (3 : Int32) b89) [(.long v1), (.int (4 : Int32)), (.ref b89)])) rfl rfl (hb hby at_396)
                    have N810 := Fr.snoc X810 N795 g_b89
                    have V810 : Arv Z h810 b89 k89 .long (10 : Int32) [(.long (1 : Int64)), (.long (1 : Int64)), (.long (1 : Int64)), (.long v0), (.long v1), (.long (1 : Int64)), (.long (1 : Int64)), (.long (1 : Int64)), (.long (1 : Int64)), (.long (1 : Int64))] (.long (0 : Int64)) := Arv.set Ar809 qa809 Sa809 Na809 Ha809 Ga809 rfl W810 4 rfl (Nat.le_of_ble_eq_true rfl)
                    refine own_go (B := T810.setTop (mkF m 397 (LS_JsJsJsJsJsIJsRRRIRIRu q0 q1 q2 q3 q4 p5 (36028797018963967 : Int64) o1 b2 b25 (((p5.toUInt32 >>> ((7 : Int32) &&& 31).toUInt32).toInt32) &&& (3 : Int32)) vv (3 : Int32) b89) [])) (fun t k => st810 _ k) ?_
                    have Vv88_v812 := Vv88_v807.other W810 ne783
                    obtain ⟨cl811, Ar811, qa811, Sa811, Na811, Ha811, Ga811⟩ := id Vv88_v812
                    have hin813 : ¬ ((2 : Int32) < 0 ∨ cl811.slots.size ≤ ((2 : Int32)).toNatClampNeg) := inb_of Sa811 ⟨by decide, by decide⟩
                    have hat813 : cl811.slots[((2 : Int32)).toNatClampNeg]? = some (.long v2) := Has.at Ha811 hin813 rfl
                    refine own_go (B := T810.setTop (mkF m 407 (LS_JsJsJsJsJsIJsRRRIRIRu q0 q1 q2 q3 q4 p5 (36028797018963967 : Int64) o1 b2 b25 (((p5.toUInt32 >>> ((7 : Int32) &&& 31).toUInt32).toInt32) &&& (3 : Int32)) vv (3 : Int32) b89) [(.long v2), (.int (5 : Int32)), (.ref b89)])) (fun t k => ?_) ?_
                    · show Steps p.tables e below (T810.setTop (mkF m 397 (LS_JsJsJsJsJsIJsRRRIRIRu q0 q1 q2 q3 q4 p5 (36028797018963967 : Int64) o1 b2 b25 (((p5.toUInt32 >>> ((7 : Int32) &&& 31).toUInt32).toInt32) &&& (3 : Int32)) vv (3 : Int32) b89) [])) _
                      refine XS.aload X810.here hx rfl (hb hby at_397) rfl rfl ?_
                      show Steps p.tables e below (T810.setTop (mkF m 399 (LS_JsJsJsJsJsIJsRRRIRIRu q0 q1 q2 q3 q4 p5 (36028797018963967 : Int64) o1 b2 b25 (((p5.toUInt32 >>> ((7 : Int32) &&& 31).toUInt32).toInt32) &&& (3 : Int32)) vv (3 : Int32) b89) [(.ref b89)])) _
                      refine XS.iload X810.here hx rfl (hb hby at_399) rfl ?_
                      show Steps p.tables e below (T810.setTop (mkF m 401 (LS_JsJsJsJsJsIJsRRRIRIRu q0 q1 q2 q3 q4 p5 (36028797018963967 : Int64) o1 b2 b25 (((p5.toUInt32 >>> ((7 : Int32) &&& 31).toUInt32).toInt32) &&& (3 : Int32)) vv (3 : Int32) b89) [(.int (3 : Int32)), (.ref b89)])) _
                      refine XS.iconst X810.here hx rfl (hb hby at_401) ?_
                      show Steps p.tables e below (T810.setTop (mkF m 402 (LS_JsJsJsJsJsIJsRRRIRIRu q0 q1 q2 q3 q4 p5 (36028797018963967 : Int64) o1 b2 b25 (((p5.toUInt32 >>> ((7 : Int32) &&& 31).toUInt32).toInt32) &&& (3 : Int32)) vv (3 : Int32) b89) [(.int (2 : Int32)), (.int (3 : Int32)), (.ref b89)])) _
                      refine XS.iadd X810.here hx rfl (hb hby at_402) rfl ?_
                      rw [show ((3 : Int32) + (2 : Int32)) = (5 : Int32) from by decide]
                      show Steps p.tables e below (T810.setTop (mkF m 403 (LS_JsJsJsJsJsIJsRRRIRIRu q0 q1 q2 q3 q4 p5 (36028797018963967 : Int64) o1 b2 b25 (((p5.toUInt32 >>> ((7 : Int32) &&& 31).toUInt32).toInt32) &&& (3 : Int32)) vv (3 : Int32) b89) [(.int (5 : Int32)), (.ref b89)])) _
                      refine XS.aload X810.here hx rfl (hb hby at_403) rfl rfl ?_
                      show Steps p.tables e below (T810.setTop (mkF m 405 (LS_JsJsJsJsJsIJsRRRIRIRu q0 q1 q2 q3 q4 p5 (36028797018963967 : Int64) o1 b2 b25 (((p5.toUInt32 >>> ((7 : Int32) &&& 31).toUInt32).toInt32) &&& (3 : Int32)) vv (3 : Int32) b89) [(.ref vv), (.int (5 : Int32)), (.ref b89)])) _
                      refine XS.iconst X810.here hx rfl (hb hby at_405) ?_
                      show Steps p.tables e below (T810.setTop (mkF m 406 (LS_JsJsJsJsJsIJsRRRIRIRu q0 q1 q2 q3 q4 p5 (36028797018963967 : Int64) o1 b2 b25 (((p5.toUInt32 >>> ((7 : Int32) &&& 31).toUInt32).toInt32) &&& (3 : Int32)) vv (3 : Int32) b89) [(.int (2 : Int32)), (.ref vv), (.int (5 : Int32)), (.ref b89)])) _
                      refine X810.laload hx (j := (2 : Int32)) (v := (.long v2)) (by rw [e810]; exact Ar811.1) (State.isArrayOf_alike hZ.alike Ar811.2.1) Ar811.2.2 hin813 hat813 (g := (mkF m 406 (LS_JsJsJsJsJsIJsRRRIRIRu q0 q1 q2 q3 q4 p5 (36028797018963967 : Int64) o1 b2 b25 (((p5.toUInt32 >>> ((7 : Int32) &&& 31).toUInt32).toInt32) &&& (3 : Int32)) vv (3 : Int32) b89) [(.int (2 : Int32)), (.ref vv), (.int (5 : Int32)), (.ref b89)])) rfl rfl (hb hby at_406) _ ?_
                      exact k
                    obtain ⟨cl814, Ar814, qa814, Sa814, Na814, Ha814, Ga814⟩ := id V810
                    have hin815 : ¬ ((5 : Int32) < 0 ∨ cl814.slots.size ≤ ((5 : Int32)).toNatClampNeg) := inb_of Sa814 ⟨by decide, by decide⟩
                    obtain ⟨T815, h815, X815, e815, W815, st815⟩ := stJ X810 hx hZ e810 Ar814 (j := (5 : Int32)) hin815 (g := (mkF m 407 (LS_JsJsJsJsJsIJsRRRIRIRu q0 q1 q2 q3 q4 p5 (36028797018963967 : Int64) o1 b2 b25 (((p5.toUInt32 >>> ((7 : Int32) &&& 31).toUInt32).toInt32) &&& (3 : Int32)) vv (3 : Int32) b89) [(.long v2), (.int (5 : Int32)), (.ref b89)])) rfl rfl (hb hby at_407)
                    have N815 := Fr.snoc X815 N810 g_b89
                    have V815 : Arv Z h815 b89 k89 .long (10 : Int32) [(.long (1 : Int64)), (.long (1 : Int64)), (.long (1 : Int64)), (.long v0), (.long v1), (.long v2), (.long (1 : Int64)), (.long (1 : Int64)), (.long (1 : Int64)), (.long (1 : Int64))] (.long (0 : Int64)) := Arv.set Ar814 qa814 Sa814 Na814 Ha814 Ga814 rfl W815 5 rfl (Nat.le_of_ble_eq_true rfl)
                    refine own_go (B := T815.setTop (mkF m 408 (LS_JsJsJsJsJsIJsRRRIRIRu q0 q1 q2 q3 q4 p5 (36028797018963967 : Int64) o1 b2 b25 (((p5.toUInt32 >>> ((7 : Int32) &&& 31).toUInt32).toInt32) &&& (3 : Int32)) vv (3 : Int32) b89) [])) (fun t k => st815 _ k) ?_
                    have Vv88_v817 := Vv88_v812.other W815 ne783
                    obtain ⟨cl816, Ar816, qa816, Sa816, Na816, Ha816, Ga816⟩ := id Vv88_v817
                    have hin818 : ¬ ((3 : Int32) < 0 ∨ cl816.slots.size ≤ ((3 : Int32)).toNatClampNeg) := inb_of Sa816 ⟨by decide, by decide⟩
                    have hat818 : cl816.slots[((3 : Int32)).toNatClampNeg]? = some (.long v3) := Has.at Ha816 hin818 rfl
                    refine own_go (B := T815.setTop (mkF m 418 (LS_JsJsJsJsJsIJsRRRIRIRu q0 q1 q2 q3 q4 p5 (36028797018963967 : Int64) o1 b2 b25 (((p5.toUInt32 >>> ((7 : Int32) &&& 31).toUInt32).toInt32) &&& (3 : Int32)) vv (3 : Int32) b89) [(.long v3), (.int (6 : Int32)), (.ref b89)])) (fun t k => ?_) ?_
                    · show Steps p.tables e below (T815.setTop (mkF m 408 (LS_JsJsJsJsJsIJsRRRIRIRu q0 q1 q2 q3 q4 p5 (36028797018963967 : Int64) o1 b2 b25 (((p5.toUInt32 >>> ((7 : Int32) &&& 31).toUInt32).toInt32) &&& (3 : Int32)) vv (3 : Int32) b89) [])) _
                      refine XS.aload X815.here hx rfl (hb hby at_408) rfl rfl ?_
                      show Steps p.tables e below (T815.setTop (mkF m 410 (LS_JsJsJsJsJsIJsRRRIRIRu q0 q1 q2 q3 q4 p5 (36028797018963967 : Int64) o1 b2 b25 (((p5.toUInt32 >>> ((7 : Int32) &&& 31).toUInt32).toInt32) &&& (3 : Int32)) vv (3 : Int32) b89) [(.ref b89)])) _
                      refine XS.iload X815.here hx rfl (hb hby at_410) rfl ?_
                      show Steps p.tables e below (T815.setTop (mkF m 412 (LS_JsJsJsJsJsIJsRRRIRIRu q0 q1 q2 q3 q4 p5 (36028797018963967 : Int64) o1 b2 b25 (((p5.toUInt32 >>> ((7 : Int32) &&& 31).toUInt32).toInt32) &&& (3 : Int32)) vv (3 : Int32) b89) [(.int (3 : Int32)), (.ref b89)])) _
                      refine XS.iconst X815.here hx rfl (hb hby at_412) ?_
                      show Steps p.tables e below (T815.setTop (mkF m 413 (LS_JsJsJsJsJsIJsRRRIRIRu q0 q1 q2 q3 q4 p5 (36028797018963967 : Int64) o1 b2 b25 (((p5.toUInt32 >>> ((7 : Int32) &&& 31).toUInt32).toInt32) &&& (3 : Int32)) vv (3 : Int32) b89) [(.int (3 : Int32)), (.int (3 : Int32)), (.ref b89)])) _
                      refine XS.iadd X815.here hx rfl (hb hby at_413) rfl ?_
                      rw [show ((3 : Int32) + (3 : Int32)) = (6 : Int32) from by decide]
                      show Steps p.tables e below (T815.setTop (mkF m 414 (LS_JsJsJsJsJsIJsRRRIRIRu q0 q1 q2 q3 q4 p5 (36028797018963967 : Int64) o1 b2 b25 (((p5.toUInt32 >>> ((7 : Int32) &&& 31).toUInt32).toInt32) &&& (3 : Int32)) vv (3 : Int32) b89) [(.int (6 : Int32)), (.ref b89)])) _
                      refine XS.aload X815.here hx rfl (hb hby at_414) rfl rfl ?_
                      show Steps p.tables e below (T815.setTop (mkF m 416 (LS_JsJsJsJsJsIJsRRRIRIRu q0 q1 q2 q3 q4 p5 (36028797018963967 : Int64) o1 b2 b25 (((p5.toUInt32 >>> ((7 : Int32) &&& 31).toUInt32).toInt32) &&& (3 : Int32)) vv (3 : Int32) b89) [(.ref vv), (.int (6 : Int32)), (.ref b89)])) _
                      refine XS.iconst X815.here hx rfl (hb hby at_416) ?_
                      show Steps p.tables e below (T815.setTop (mkF m 417 (LS_JsJsJsJsJsIJsRRRIRIRu q0 q1 q2 q3 q4 p5 (36028797018963967 : Int64) o1 b2 b25 (((p5.toUInt32 >>> ((7 : Int32) &&& 31).toUInt32).toInt32) &&& (3 : Int32)) vv (3 : Int32) b89) [(.int (3 : Int32)), (.ref vv), (.int (6 : Int32)), (.ref b89)])) _
                      refine X815.laload hx (j := (3 : Int32)) (v := (.long v3)) (by rw [e815]; exact Ar816.1) (State.isArrayOf_alike hZ.alike Ar816.2.1) Ar816.2.2 hin818 hat818 (g := (mkF m 417 (LS_JsJsJsJsJsIJsRRRIRIRu q0 q1 q2 q3 q4 p5 (36028797018963967 : Int64) o1 b2 b25 (((p5.toUInt32 >>> ((7 : Int32) &&& 31).toUInt32).toInt32) &&& (3 : Int32)) vv (3 : Int32) b89) [(.int (3 : Int32)), (.ref vv), (.int (6 : Int32)), (.ref b89)])) rfl rfl (hb hby at_417) _ ?_
                      exact k
                    obtain ⟨cl819, Ar819, qa819, Sa819, Na819, Ha819, Ga819⟩ := id V815
                    have hin820 : ¬ ((6 : Int32) < 0 ∨ cl819.slots.size ≤ ((6 : Int32)).toNatClampNeg) := inb_of Sa819 ⟨by decide, by decide⟩
                    obtain ⟨T820, h820, X820, e820, W820, st820⟩ := stJ X815 hx hZ e815 Ar819 (j := (6 : Int32)) hin820 (g := (mkF m 418 (LS_JsJsJsJsJsIJsRRRIRIRu q0 q1 q2 q3 q4 p5 (36028797018963967 : Int64) o1 b2 b25 (((p5.toUInt32 >>> ((7 : Int32) &&& 31).toUInt32).toInt32) &&& (3 : Int32)) vv (3 : Int32) b89) [(.long v3), (.int (6 : Int32)), (.ref b89)])) rfl rfl (hb hby at_418)
                    have N820 := Fr.snoc X820 N815 g_b89
                    have V820 : Arv Z h820 b89 k89 .long (10 : Int32) [(.long (1 : Int64)), (.long (1 : Int64)), (.long (1 : Int64)), (.long v0), (.long v1), (.long v2), (.long v3), (.long (1 : Int64)), (.long (1 : Int64)), (.long (1 : Int64))] (.long (0 : Int64)) := Arv.set Ar819 qa819 Sa819 Na819 Ha819 Ga819 rfl W820 6 rfl (Nat.le_of_ble_eq_true rfl)
                    refine own_go (B := T820.setTop (mkF m 419 (LS_JsJsJsJsJsIJsRRRIRIRu q0 q1 q2 q3 q4 p5 (36028797018963967 : Int64) o1 b2 b25 (((p5.toUInt32 >>> ((7 : Int32) &&& 31).toUInt32).toInt32) &&& (3 : Int32)) vv (3 : Int32) b89) [])) (fun t k => st820 _ k) ?_
                    have Vv88_v822 := Vv88_v817.other W820 ne783
                    obtain ⟨cl821, Ar821, qa821, Sa821, Na821, Ha821, Ga821⟩ := id Vv88_v822
                    have hin823 : ¬ ((4 : Int32) < 0 ∨ cl821.slots.size ≤ ((4 : Int32)).toNatClampNeg) := inb_of Sa821 ⟨by decide, by decide⟩
                    have hat823 : cl821.slots[((4 : Int32)).toNatClampNeg]? = some (.long v4) := Has.at Ha821 hin823 rfl
                    refine own_go (B := T820.setTop (mkF m 429 (LS_JsJsJsJsJsIJsRRRIRIRu q0 q1 q2 q3 q4 p5 (36028797018963967 : Int64) o1 b2 b25 (((p5.toUInt32 >>> ((7 : Int32) &&& 31).toUInt32).toInt32) &&& (3 : Int32)) vv (3 : Int32) b89) [(.long v4), (.int (7 : Int32)), (.ref b89)])) (fun t k => ?_) ?_
                    · show Steps p.tables e below (T820.setTop (mkF m 419 (LS_JsJsJsJsJsIJsRRRIRIRu q0 q1 q2 q3 q4 p5 (36028797018963967 : Int64) o1 b2 b25 (((p5.toUInt32 >>> ((7 : Int32) &&& 31).toUInt32).toInt32) &&& (3 : Int32)) vv (3 : Int32) b89) [])) _
                      refine XS.aload X820.here hx rfl (hb hby at_419) rfl rfl ?_
                      show Steps p.tables e below (T820.setTop (mkF m 421 (LS_JsJsJsJsJsIJsRRRIRIRu q0 q1 q2 q3 q4 p5 (36028797018963967 : Int64) o1 b2 b25 (((p5.toUInt32 >>> ((7 : Int32) &&& 31).toUInt32).toInt32) &&& (3 : Int32)) vv (3 : Int32) b89) [(.ref b89)])) _
                      refine XS.iload X820.here hx rfl (hb hby at_421) rfl ?_
                      show Steps p.tables e below (T820.setTop (mkF m 423 (LS_JsJsJsJsJsIJsRRRIRIRu q0 q1 q2 q3 q4 p5 (36028797018963967 : Int64) o1 b2 b25 (((p5.toUInt32 >>> ((7 : Int32) &&& 31).toUInt32).toInt32) &&& (3 : Int32)) vv (3 : Int32) b89) [(.int (3 : Int32)), (.ref b89)])) _
                      refine XS.iconst X820.here hx rfl (hb hby at_423) ?_
                      show Steps p.tables e below (T820.setTop (mkF m 424 (LS_JsJsJsJsJsIJsRRRIRIRu q0 q1 q2 q3 q4 p5 (36028797018963967 : Int64) o1 b2 b25 (((p5.toUInt32 >>> ((7 : Int32) &&& 31).toUInt32).toInt32) &&& (3 : Int32)) vv (3 : Int32) b89) [(.int (4 : Int32)), (.int (3 : Int32)), (.ref b89)])) _
                      refine XS.iadd X820.here hx rfl (hb hby at_424) rfl ?_
                      rw [show ((3 : Int32) + (4 : Int32)) = (7 : Int32) from by decide]
                      show Steps p.tables e below (T820.setTop (mkF m 425 (LS_JsJsJsJsJsIJsRRRIRIRu q0 q1 q2 q3 q4 p5 (36028797018963967 : Int64) o1 b2 b25 (((p5.toUInt32 >>> ((7 : Int32) &&& 31).toUInt32).toInt32) &&& (3 : Int32)) vv (3 : Int32) b89) [(.int (7 : Int32)), (.ref b89)])) _
                      refine XS.aload X820.here hx rfl (hb hby at_425) rfl rfl ?_
                      show Steps p.tables e below (T820.setTop (mkF m 427 (LS_JsJsJsJsJsIJsRRRIRIRu q0 q1 q2 q3 q4 p5 (36028797018963967 : Int64) o1 b2 b25 (((p5.toUInt32 >>> ((7 : Int32) &&& 31).toUInt32).toInt32) &&& (3 : Int32)) vv (3 : Int32) b89) [(.ref vv), (.int (7 : Int32)), (.ref b89)])) _
                      refine XS.iconst X820.here hx rfl (hb hby at_427) ?_
                      show Steps p.tables e below (T820.setTop (mkF m 428 (LS_JsJsJsJsJsIJsRRRIRIRu q0 q1 q2 q3 q4 p5 (36028797018963967 : Int64) o1 b2 b25 (((p5.toUInt32 >>> ((7 : Int32) &&& 31).toUInt32).toInt32) &&& (3 : Int32)) vv (3 : Int32) b89) [(.int (4 : Int32)), (.ref vv), (.int (7 : Int32)), (.ref b89)])) _
                      refine X820.laload hx (j := (4 : Int32)) (v := (.long v4)) (by rw [e820]; exact Ar821.1) (State.isArrayOf_alike hZ.alike Ar821.2.1) Ar821.2.2 hin823 hat823 (g := (mkF m 428 (LS_JsJsJsJsJsIJsRRRIRIRu q0 q1 q2 q3 q4 p5 (36028797018963967 : Int64) o1 b2 b25 (((p5.toUInt32 >>> ((7 : Int32) &&& 31).toUInt32).toInt32) &&& (3 : Int32)) vv (3 : Int32) b89) [(.int (4 : Int32)), (.ref vv), (.int (7 : Int32)), (.ref b89)])) rfl rfl (hb hby at_428) _ ?_
                      exact k
                    obtain ⟨cl824, Ar824, qa824, Sa824, Na824, Ha824, Ga824⟩ := id V820
                    have hin825 : ¬ ((7 : Int32) < 0 ∨ cl824.slots.size ≤ ((7 : Int32)).toNatClampNeg) := inb_of Sa824 ⟨by decide, by decide⟩
                    obtain ⟨T825, h825, X825, e825, W825, st825⟩ := stJ X820 hx hZ e820 Ar824 (j := (7 : Int32)) hin825 (g := (mkF m 429 (LS_JsJsJsJsJsIJsRRRIRIRu q0 q1 q2 q3 q4 p5 (36028797018963967 : Int64) o1 b2 b25 (((p5.toUInt32 >>> ((7 : Int32) &&& 31).toUInt32).toInt32) &&& (3 : Int32)) vv (3 : Int32) b89) [(.long v4), (.int (7 : Int32)), (.ref b89)])) rfl rfl (hb hby at_429)
                    have N825 := Fr.snoc X825 N820 g_b89
                    have V825 : Arv Z h825 b89 k89 .long (10 : Int32) [(.long (1 : Int64)), (.long (1 : Int64)), (.long (1 : Int64)), (.long v0), (.long v1), (.long v2), (.long v3), (.long v4), (.long (1 : Int64)), (.long (1 : Int64))] (.long (0 : Int64)) := Arv.set Ar824 qa824 Sa824 Na824 Ha824 Ga824 rfl W825 7 rfl (Nat.le_of_ble_eq_true rfl)
                    refine own_go (B := T825.setTop (mkF m 430 (LS_JsJsJsJsJsIJsRRRIRIRu q0 q1 q2 q3 q4 p5 (36028797018963967 : Int64) o1 b2 b25 (((p5.toUInt32 >>> ((7 : Int32) &&& 31).toUInt32).toInt32) &&& (3 : Int32)) vv (3 : Int32) b89) [])) (fun t k => st825 _ k) ?_
                    have Vv88_v827 := Vv88_v822.other W825 ne783
                    obtain ⟨cl826, Ar826, qa826, Sa826, Na826, Ha826, Ga826⟩ := id Vv88_v827
                    have hin828 : ¬ ((5 : Int32) < 0 ∨ cl826.slots.size ≤ ((5 : Int32)).toNatClampNeg) := inb_of Sa826 ⟨by decide, by decide⟩
                    have hat828 : cl826.slots[((5 : Int32)).toNatClampNeg]? = some (.long v5) := Has.at Ha826 hin828 rfl
                    refine own_go (B := T825.setTop (mkF m 440 (LS_JsJsJsJsJsIJsRRRIRIRu q0 q1 q2 q3 q4 p5 (36028797018963967 : Int64) o1 b2 b25 (((p5.toUInt32 >>> ((7 : Int32) &&& 31).toUInt32).toInt32) &&& (3 : Int32)) vv (3 : Int32) b89) [(.long v5), (.int (8 : Int32)), (.ref b89)])) (fun t k => ?_) ?_
                    · show Steps p.tables e below (T825.setTop (mkF m 430 (LS_JsJsJsJsJsIJsRRRIRIRu q0 q1 q2 q3 q4 p5 (36028797018963967 : Int64) o1 b2 b25 (((p5.toUInt32 >>> ((7 : Int32) &&& 31).toUInt32).toInt32) &&& (3 : Int32)) vv (3 : Int32) b89) [])) _
                      refine XS.aload X825.here hx rfl (hb hby at_430) rfl rfl ?_
                      show Steps p.tables e below (T825.setTop (mkF m 432 (LS_JsJsJsJsJsIJsRRRIRIRu q0 q1 q2 q3 q4 p5 (36028797018963967 : Int64) o1 b2 b25 (((p5.toUInt32 >>> ((7 : Int32) &&& 31).toUInt32).toInt32) &&& (3 : Int32)) vv (3 : Int32) b89) [(.ref b89)])) _
                      refine XS.iload X825.here hx rfl (hb hby at_432) rfl ?_
                      show Steps p.tables e below (T825.setTop (mkF m 434 (LS_JsJsJsJsJsIJsRRRIRIRu q0 q1 q2 q3 q4 p5 (36028797018963967 : Int64) o1 b2 b25 (((p5.toUInt32 >>> ((7 : Int32) &&& 31).toUInt32).toInt32) &&& (3 : Int32)) vv (3 : Int32) b89) [(.int (3 : Int32)), (.ref b89)])) _
                      refine XS.iconst X825.here hx rfl (hb hby at_434) ?_
                      show Steps p.tables e below (T825.setTop (mkF m 435 (LS_JsJsJsJsJsIJsRRRIRIRu q0 q1 q2 q3 q4 p5 (36028797018963967 : Int64) o1 b2 b25 (((p5.toUInt32 >>> ((7 : Int32) &&& 31).toUInt32).toInt32) &&& (3 : Int32)) vv (3 : Int32) b89) [(.int (5 : Int32)), (.int (3 : Int32)), (.ref b89)])) _
                      refine XS.iadd X825.here hx rfl (hb hby at_435) rfl ?_
                      rw [show ((3 : Int32) + (5 : Int32)) = (8 : Int32) from by decide]
                      show Steps p.tables e below (T825.setTop (mkF m 436 (LS_JsJsJsJsJsIJsRRRIRIRu q0 q1 q2 q3 q4 p5 (36028797018963967 : Int64) o1 b2 b25 (((p5.toUInt32 >>> ((7 : Int32) &&& 31).toUInt32).toInt32) &&& (3 : Int32)) vv (3 : Int32) b89) [(.int (8 : Int32)), (.ref b89)])) _
                      refine XS.aload X825.here hx rfl (hb hby at_436) rfl rfl ?_
                      show Steps p.tables e below (T825.setTop (mkF m 438 (LS_JsJsJsJsJsIJsRRRIRIRu q0 q1 q2 q3 q4 p5 (36028797018963967 : Int64) o1 b2 b25 (((p5.toUInt32 >>> ((7 : Int32) &&& 31).toUInt32).toInt32) &&& (3 : Int32)) vv (3 : Int32) b89) [(.ref vv), (.int (8 : Int32)), (.ref b89)])) _
                      refine XS.iconst X825.here hx rfl (hb hby at_438) ?_
                      show Steps p.tables e below (T825.setTop (mkF m 439 (LS_JsJsJsJsJsIJsRRRIRIRu q0 q1 q2 q3 q4 p5 (36028797018963967 : Int64) o1 b2 b25 (((p5.toUInt32 >>> ((7 : Int32) &&& 31).toUInt32).toInt32) &&& (3 : Int32)) vv (3 : Int32) b89) [(.int (5 : Int32)), (.ref vv), (.int (8 : Int32)), (.ref b89)])) _
                      refine X825.laload hx (j := (5 : Int32)) (v := (.long v5)) (by rw [e825]; exact Ar826.1) (State.isArrayOf_alike hZ.alike Ar826.2.1) Ar826.2.2 hin828 hat828 (g := (mkF m 439 (LS_JsJsJsJsJsIJsRRRIRIRu q0 q1 q2 q3 q4 p5 (36028797018963967 : Int64) o1 b2 b25 (((p5.toUInt32 >>> ((7 : Int32) &&& 31).toUInt32).toInt32) &&& (3 : Int32)) vv (3 : Int32) b89) [(.int (5 : Int32)), (.ref vv), (.int (8 : Int32)), (.ref b89)])) rfl rfl (hb hby at_439) _ ?_
                      exact k
                    obtain ⟨cl829, Ar829, qa829, Sa829, Na829, Ha829, Ga829⟩ := id V825
                    have hin830 : ¬ ((8 : Int32) < 0 ∨ cl829.slots.size ≤ ((8 : Int32)).toNatClampNeg) := inb_of Sa829 ⟨by decide, by decide⟩
                    obtain ⟨T830, h830, X830, e830, W830, st830⟩ := stJ X825 hx hZ e825 Ar829 (j := (8 : Int32)) hin830 (g := (mkF m 440 (LS_JsJsJsJsJsIJsRRRIRIRu q0 q1 q2 q3 q4 p5 (36028797018963967 : Int64) o1 b2 b25 (((p5.toUInt32 >>> ((7 : Int32) &&& 31).toUInt32).toInt32) &&& (3 : Int32)) vv (3 : Int32) b89) [(.long v5), (.int (8 : Int32)), (.ref b89)])) rfl rfl (hb hby at_440)
                    have N830 := Fr.snoc X830 N825 g_b89
                    have V830 : Arv Z h830 b89 k89 .long (10 : Int32) [(.long (1 : Int64)), (.long (1 : Int64)), (.long (1 : Int64)), (.long v0), (.long v1), (.long v2), (.long v3), (.long v4), (.long v5), (.long (1 : Int64))] (.long (0 : Int64)) := Arv.set Ar829 qa829 Sa829 Na829 Ha829 Ga829 rfl W830 8 rfl (Nat.le_of_ble_eq_true rfl)
                    refine own_go (B := T830.setTop (mkF m 441 (LS_JsJsJsJsJsIJsRRRIRIRu q0 q1 q2 q3 q4 p5 (36028797018963967 : Int64) o1 b2 b25 (((p5.toUInt32 >>> ((7 : Int32) &&& 31).toUInt32).toInt32) &&& (3 : Int32)) vv (3 : Int32) b89) [])) (fun t k => st830 _ k) ?_
                    have Vv88_v832 := Vv88_v827.other W830 ne783
                    obtain ⟨cl831, Ar831, qa831, Sa831, Na831, Ha831, Ga831⟩ := id Vv88_v832
                    have hin833 : ¬ ((6 : Int32) < 0 ∨ cl831.slots.size ≤ ((6 : Int32)).toNatClampNeg) := inb_of Sa831 ⟨by decide, by decide⟩
                    have hat833 : cl831.slots[((6 : Int32)).toNatClampNeg]? = some (.long v6) := Has.at Ha831 hin833 rfl
                    refine own_go (B := T830.setTop (mkF m 453 (LS_JsJsJsJsJsIJsRRRIRIRu q0 q1 q2 q3 q4 p5 (36028797018963967 : Int64) o1 b2 b25 (((p5.toUInt32 >>> ((7 : Int32) &&& 31).toUInt32).toInt32) &&& (3 : Int32)) vv (3 : Int32) b89) [(.long v6), (.int (9 : Int32)), (.ref b89)])) (fun t k => ?_) ?_
                    · show Steps p.tables e below (T830.setTop (mkF m 441 (LS_JsJsJsJsJsIJsRRRIRIRu q0 q1 q2 q3 q4 p5 (36028797018963967 : Int64) o1 b2 b25 (((p5.toUInt32 >>> ((7 : Int32) &&& 31).toUInt32).toInt32) &&& (3 : Int32)) vv (3 : Int32) b89) [])) _
                      refine XS.aload X830.here hx rfl (hb hby at_441) rfl rfl ?_
                      show Steps p.tables e below (T830.setTop (mkF m 443 (LS_JsJsJsJsJsIJsRRRIRIRu q0 q1 q2 q3 q4 p5 (36028797018963967 : Int64) o1 b2 b25 (((p5.toUInt32 >>> ((7 : Int32) &&& 31).toUInt32).toInt32) &&& (3 : Int32)) vv (3 : Int32) b89) [(.ref b89)])) _
                      refine XS.iload X830.here hx rfl (hb hby at_443) rfl ?_
                      show Steps p.tables e below (T830.setTop (mkF m 445 (LS_JsJsJsJsJsIJsRRRIRIRu q0 q1 q2 q3 q4 p5 (36028797018963967 : Int64) o1 b2 b25 (((p5.toUInt32 >>> ((7 : Int32) &&& 31).toUInt32).toInt32) &&& (3 : Int32)) vv (3 : Int32) b89) [(.int (3 : Int32)), (.ref b89)])) _
                      refine XS.bipush X830.here hx rfl (hb hby at_445) ?_
                      show Steps p.tables e below (T830.setTop (mkF m 447 (LS_JsJsJsJsJsIJsRRRIRIRu q0 q1 q2 q3 q4 p5 (36028797018963967 : Int64) o1 b2 b25 (((p5.toUInt32 >>> ((7 : Int32) &&& 31).toUInt32).toInt32) &&& (3 : Int32)) vv (3 : Int32) b89) [(.int (6 : Int32)), (.int (3 : Int32)), (.ref b89)])) _
                      refine XS.iadd X830.here hx rfl (hb hby at_447) rfl ?_
                      rw [show ((3 : Int32) + (6 : Int32)) = (9 : Int32) from by decide]
                      show Steps p.tables e below (T830.setTop (mkF m 448 (LS_JsJsJsJsJsIJsRRRIRIRu q0 q1 q2 q3 q4 p5 (36028797018963967 : Int64) o1 b2 b25 (((p5.toUInt32 >>> ((7 : Int32) &&& 31).toUInt32).toInt32) &&& (3 : Int32)) vv (3 : Int32) b89) [(.int (9 : Int32)), (.ref b89)])) _
                      refine XS.aload X830.here hx rfl (hb hby at_448) rfl rfl ?_
                      show Steps p.tables e below (T830.setTop (mkF m 450 (LS_JsJsJsJsJsIJsRRRIRIRu q0 q1 q2 q3 q4 p5 (36028797018963967 : Int64) o1 b2 b25 (((p5.toUInt32 >>> ((7 : Int32) &&& 31).toUInt32).toInt32) &&& (3 : Int32)) vv (3 : Int32) b89) [(.ref vv), (.int (9 : Int32)), (.ref b89)])) _
                      refine XS.bipush X830.here hx rfl (hb hby at_450) ?_
                      show Steps p.tables e below (T830.setTop (mkF m 452 (LS_JsJsJsJsJsIJsRRRIRIRu q0 q1 q2 q3 q4 p5 (36028797018963967 : Int64) o1 b2 b25 (((p5.toUInt32 >>> ((7 : Int32) &&& 31).toUInt32).toInt32) &&& (3 : Int32)) vv (3 : Int32) b89) [(.int (6 : Int32)), (.ref vv), (.int (9 : Int32)), (.ref b89)])) _
                      refine X830.laload hx (j := (6 : Int32)) (v := (.long v6)) (by rw [e830]; exact Ar831.1) (State.isArrayOf_alike hZ.alike Ar831.2.1) Ar831.2.2 hin833 hat833 (g := (mkF m 452 (LS_JsJsJsJsJsIJsRRRIRIRu q0 q1 q2 q3 q4 p5 (36028797018963967 : Int64) o1 b2 b25 (((p5.toUInt32 >>> ((7 : Int32) &&& 31).toUInt32).toInt32) &&& (3 : Int32)) vv (3 : Int32) b89) [(.int (6 : Int32)), (.ref vv), (.int (9 : Int32)), (.ref b89)])) rfl rfl (hb hby at_452) _ ?_
                      exact k
                    obtain ⟨cl834, Ar834, qa834, Sa834, Na834, Ha834, Ga834⟩ := id V830
                    have hin835 : ¬ ((9 : Int32) < 0 ∨ cl834.slots.size ≤ ((9 : Int32)).toNatClampNeg) := inb_of Sa834 ⟨by decide, by decide⟩
                    obtain ⟨T835, h835, X835, e835, W835, st835⟩ := stJ X830 hx hZ e830 Ar834 (j := (9 : Int32)) hin835 (g := (mkF m 453 (LS_JsJsJsJsJsIJsRRRIRIRu q0 q1 q2 q3 q4 p5 (36028797018963967 : Int64) o1 b2 b25 (((p5.toUInt32 >>> ((7 : Int32) &&& 31).toUInt32).toInt32) &&& (3 : Int32)) vv (3 : Int32) b89) [(.long v6), (.int (9 : Int32)), (.ref b89)])) rfl rfl (hb hby at_453)
                    have N835 := Fr.snoc X835 N830 g_b89
                    have V835 : Arv Z h835 b89 k89 .long (10 : Int32) [(.long (1 : Int64)), (.long (1 : Int64)), (.long (1 : Int64)), (.long v0), (.long v1), (.long v2), (.long v3), (.long v4), (.long v5), (.long v6)] (.long (0 : Int64)) := Arv.set Ar834 qa834 Sa834 Na834 Ha834 Ga834 rfl W835 9 rfl (Nat.le_of_ble_eq_true rfl)
                    refine own_go (B := T835.setTop (mkF m 454 (LS_JsJsJsJsJsIJsRRRIRIRu q0 q1 q2 q3 q4 p5 (36028797018963967 : Int64) o1 b2 b25 (((p5.toUInt32 >>> ((7 : Int32) &&& 31).toUInt32).toInt32) &&& (3 : Int32)) vv (3 : Int32) b89) [])) (fun t k => st835 _ k) ?_
                    refine own_go (B := T835.setTop (mkF m 458 (LS_JsJsJsJsJsIJsRRRIRIRu q0 q1 q2 q3 q4 p5 (36028797018963967 : Int64) o1 b2 b25 (((p5.toUInt32 >>> ((7 : Int32) &&& 31).toUInt32).toInt32) &&& (3 : Int32)) vv (3 : Int32) b89) [(.ref o1), (.ref vv)])) (fun t k => ?_) ?_
                    · show Steps p.tables e below (T835.setTop (mkF m 454 (LS_JsJsJsJsJsIJsRRRIRIRu q0 q1 q2 q3 q4 p5 (36028797018963967 : Int64) o1 b2 b25 (((p5.toUInt32 >>> ((7 : Int32) &&& 31).toUInt32).toInt32) &&& (3 : Int32)) vv (3 : Int32) b89) [])) _
                      refine XS.aload X835.here hx rfl (hb hby at_454) rfl rfl ?_
                      show Steps p.tables e below (T835.setTop (mkF m 456 (LS_JsJsJsJsJsIJsRRRIRIRu q0 q1 q2 q3 q4 p5 (36028797018963967 : Int64) o1 b2 b25 (((p5.toUInt32 >>> ((7 : Int32) &&& 31).toUInt32).toInt32) &&& (3 : Int32)) vv (3 : Int32) b89) [(.ref vv)])) _
                      refine XS.aload X835.here hx rfl (hb hby at_456) rfl rfl ?_
                      exact k
                    have Zj88_v836 := Nat.le_trans Zj88 E89.1
                    have Zj88_v837 := Nat.le_trans Zj88_v836 (Nat.le_of_eq W91.size.symm)
                    have Zj88_v838 := Nat.le_trans Zj88_v837 (Nat.le_of_eq W93.size.symm)
                    have Zj88_v839 := Nat.le_trans Zj88_v838 (Nat.le_of_eq W95.size.symm)
                    have Zj88_v840 := Nat.le_trans Zj88_v839 (Nat.le_of_eq W97.size.symm)
                    have Zj88_v841 := Nat.le_trans Zj88_v840 (Nat.le_of_eq W99.size.symm)
                    have Zj88_v842 := Nat.le_trans Zj88_v841 (Nat.le_of_eq W101.size.symm)
                    have Zj88_v843 := Nat.le_trans Zj88_v842 (Nat.le_of_eq W103.size.symm)
                    have Zj88_v844 := Nat.le_trans Zj88_v843 (Nat.le_of_eq W105.size.symm)
                    have Zj88_v845 := Nat.le_trans Zj88_v844 (Nat.le_of_eq W107.size.symm)
                    have Zj88_v846 := Nat.le_trans Zj88_v845 (Nat.le_of_eq W109.size.symm)
                    have Zj88_v847 := Nat.le_trans Zj88_v846 (Nat.le_of_eq W795.size.symm)
                    have Zj88_v848 := Nat.le_trans Zj88_v847 (Nat.le_of_eq W810.size.symm)
                    have Zj88_v849 := Nat.le_trans Zj88_v848 (Nat.le_of_eq W815.size.symm)
                    have Zj88_v850 := Nat.le_trans Zj88_v849 (Nat.le_of_eq W820.size.symm)
                    have Zj88_v851 := Nat.le_trans Zj88_v850 (Nat.le_of_eq W825.size.symm)
                    have Zj88_v852 := Nat.le_trans Zj88_v851 (Nat.le_of_eq W830.size.symm)
                    have Zj88_v853 := Nat.le_trans Zj88_v852 (Nat.le_of_eq W835.size.symm)
                    have Vv88_v854 := Vv88_v832.other W835 ne783
                    have Vp88_v855 := Vp88.ext E89
                    have ne857 : o1 ≠ b89 := Nat.ne_of_lt (Nat.lt_of_lt_of_le Vp88.lt (Nat.le_of_eq g89.symm))
                    have Vp88_v856 := Vp88_v855.other W91 ne857
                    have Vp88_v858 := Vp88_v856.other W93 ne857
                    have Vp88_v859 := Vp88_v858.other W95 ne857
                    have Vp88_v860 := Vp88_v859.other W97 ne857
                    have Vp88_v861 := Vp88_v860.other W99 ne857
                    have Vp88_v862 := Vp88_v861.other W101 ne857
                    have Vp88_v863 := Vp88_v862.other W103 ne857
                    have Vp88_v864 := Vp88_v863.other W105 ne857
                    have Vp88_v865 := Vp88_v864.other W107 ne857
                    have Vp88_v866 := Vp88_v865.other W109 ne857
                    have Vp88_v867 := Vp88_v866.other W795 ne857
                    have Vp88_v868 := Vp88_v867.other W810 ne857
                    have Vp88_v869 := Vp88_v868.other W815 ne857
                    have Vp88_v870 := Vp88_v869.other W820 ne857
                    have Vp88_v871 := Vp88_v870.other W825 ne857
                    have Vp88_v872 := Vp88_v871.other W830 ne857
                    have Vp88_v873 := Vp88_v872.other W835 ne857
                    obtain ⟨_, _, ⟨T874, L874, k874, n874⟩, -, X874, ⟨Lc874, hQ874, l874, y874, z874⟩, st874⟩ := Jvm.LawKit.callS X835 hx (y := (⟨"com/example/barred_rows/barredrows/crypto/FpIsZeroPinLaw", "zeroModP", "([J[J)Z"⟩ : MethodName)) hown (mvT hZ (hw _ (List.mem_of_getElem? (i := 12) rfl))) (mvT hZ (hw _ (List.mem_of_getElem? (i := 13) rfl))) (mvT hZ (hw _ (List.mem_of_getElem? (i := 3) rfl))) (mvT hZ (hw _ (List.mem_of_getElem? (i := 14) rfl))) (by decide) (backOf (W := 0) (rm2 l Z a0 hw [] vv o1 kv ko1 v0 v1 v2 v3 v4 v5 v6 h835 n0 Zj88_v853 Vv88_v854 Vp88_v873) hZ (hw _ (List.mem_of_getElem? (i := 14) rfl)) (hw _ (List.mem_of_getElem? (i := 3) rfl)) (by decide) (by decide)) (g := (mkF m 458 (LS_JsJsJsJsJsIJsRRRIRIRu q0 q1 q2 q3 q4 p5 (36028797018963967 : Int64) o1 b2 b25 (((p5.toUInt32 >>> ((7 : Int32) &&& 31).toUInt32).toInt32) &&& (3 : Int32)) vv (3 : Int32) b89) [(.ref o1), (.ref vv)])) rfl (by rw [hml]; rfl) (argsL := [(.ref vv), (.ref o1)]) (rest := []) (lenOf pd___J_J_Z rfl) rfl (by show 2 * 0 + _ ≤ _; exact Nat.le_of_eq rfl) (hb hby at_458) (fun _ _ => ⟨rfl, e835, (by decide : 7 + 0 ≤ _), (by decide : 52 + 0 ≤ _)⟩)
                    dsimp only [Pt.U, Pt.locs, Pt.cells, Pt.slots] at X874 l874 y874 z874 st874 hQ874
                    subst l874 y874 z874
                    obtain ⟨rfl, N874q, e874⟩ := hQ874
                    have N874 := Fr.app N835 N874q
                    refine own_go (B := T874.setTop (mkF m 461 (LS_JsJsJsJsJsIJsRRRIRIRu q0 q1 q2 q3 q4 p5 (36028797018963967 : Int64) o1 b2 b25 (((p5.toUInt32 >>> ((7 : Int32) &&& 31).toUInt32).toInt32) &&& (3 : Int32)) vv (3 : Int32) b89) [(.int (if ((((((v0 ||| v1) ||| v2) ||| v3) ||| v4) ||| v5) ||| v6) = (0 : Int64) ∨ (((((((v0 ^^^ (35747322042231467 : Int64)) ||| (v1 ^^^ (36025922209447795 : Int64))) ||| (v2 ^^^ (1084959616957103 : Int64))) ||| (v3 ^^^ (7925923977987733 : Int64))) ||| (v4 ^^^ (16551456537884751 : Int64))) ||| (v5 ^^^ (23443114579904617 : Int64))) ||| (v6 ^^^ (1829881462546425 : Int64))) = (0 : Int64) then (1 : Int32) else (0 : Int32)))])) (fun t k => st874 _ k) ?_
                    refine own_go (B := T874.setTop (mkF m 467 (LS_JsJsJsJsJsIJsRRRIRIRI q0 q1 q2 q3 q4 p5 (36028797018963967 : Int64) o1 b2 b25 (((p5.toUInt32 >>> ((7 : Int32) &&& 31).toUInt32).toInt32) &&& (3 : Int32)) vv (3 : Int32) b89 (if ((((((v0 ||| v1) ||| v2) ||| v3) ||| v4) ||| v5) ||| v6) = (0 : Int64) ∨ (((((((v0 ^^^ (35747322042231467 : Int64)) ||| (v1 ^^^ (36025922209447795 : Int64))) ||| (v2 ^^^ (1084959616957103 : Int64))) ||| (v3 ^^^ (7925923977987733 : Int64))) ||| (v4 ^^^ (16551456537884751 : Int64))) ||| (v5 ^^^ (23443114579904617 : Int64))) ||| (v6 ^^^ (1829881462546425 : Int64))) = (0 : Int64) then (1 : Int32) else (0 : Int32))) [(.int (3 : Int32)), (.ref b89)])) (fun t k => ?_) ?_
                    · show Steps p.tables e below (T874.setTop (mkF m 461 (LS_JsJsJsJsJsIJsRRRIRIRu q0 q1 q2 q3 q4 p5 (36028797018963967 : Int64) o1 b2 b25 (((p5.toUInt32 >>> ((7 : Int32) &&& 31).toUInt32).toInt32) &&& (3 : Int32)) vv (3 : Int32) b89) [(.int (if ((((((v0 ||| v1) ||| v2) ||| v3) ||| v4) ||| v5) ||| v6) = (0 : Int64) ∨ (((((((v0 ^^^ (35747322042231467 : Int64)) ||| (v1 ^^^ (36025922209447795 : Int64))) ||| (v2 ^^^ (1084959616957103 : Int64))) ||| (v3 ^^^ (7925923977987733 : Int64))) ||| (v4 ^^^ (16551456537884751 : Int64))) ||| (v5 ^^^ (23443114579904617 : Int64))) ||| (v6 ^^^ (1829881462546425 : Int64))) = (0 : Int64) then (1 : Int32) else (0 : Int32)))])) _
                      refine XS.istore X874.here hx rfl (hb hby at_461) rfl (l' := (LS_JsJsJsJsJsIJsRRRIRIRI q0 q1 q2 q3 q4 p5 (36028797018963967 : Int64) o1 b2 b25 (((p5.toUInt32 >>> ((7 : Int32) &&& 31).toUInt32).toInt32) &&& (3 : Int32)) vv (3 : Int32) b89 (if ((((((v0 ||| v1) ||| v2) ||| v3) ||| v4) ||| v5) ||| v6) = (0 : Int64) ∨ (((((((v0 ^^^ (35747322042231467 : Int64)) ||| (v1 ^^^ (36025922209447795 : Int64))) ||| (v2 ^^^ (1084959616957103 : Int64))) ||| (v3 ^^^ (7925923977987733 : Int64))) ||| (v4 ^^^ (16551456537884751 : Int64))) ||| (v5 ^^^ (23443114579904617 : Int64))) ||| (v6 ^^^ (1829881462546425 : Int64))) = (0 : Int64) then (1 : Int32) else (0 : Int32)))) rfl ?_
                      show Steps p.tables e below (T874.setTop (mkF m 463 (LS_JsJsJsJsJsIJsRRRIRIRI q0 q1 q2 q3 q4 p5 (36028797018963967 : Int64) o1 b2 b25 (((p5.toUInt32 >>> ((7 : Int32) &&& 31).toUInt32).toInt32) &&& (3 : Int32)) vv (3 : Int32) b89 (if ((((((v0 ||| v1) ||| v2) ||| v3) ||| v4) ||| v5) ||| v6) = (0 : Int64) ∨ (((((((v0 ^^^ (35747322042231467 : Int64)) ||| (v1 ^^^ (36025922209447795 : Int64))) ||| (v2 ^^^ (1084959616957103 : Int64))) ||| (v3 ^^^ (7925923977987733 : Int64))) ||| (v4 ^^^ (16551456537884751 : Int64))) ||| (v5 ^^^ (23443114579904617 : Int64))) ||| (v6 ^^^ (1829881462546425 : Int64))) = (0 : Int64) then (1 : Int32) else (0 : Int32))) [])) _
                      refine XS.aload X874.here hx rfl (hb hby at_463) rfl rfl ?_
                      show Steps p.tables e below (T874.setTop (mkF m 465 (LS_JsJsJsJsJsIJsRRRIRIRI q0 q1 q2 q3 q4 p5 (36028797018963967 : Int64) o1 b2 b25 (((p5.toUInt32 >>> ((7 : Int32) &&& 31).toUInt32).toInt32) &&& (3 : Int32)) vv (3 : Int32) b89 (if ((((((v0 ||| v1) ||| v2) ||| v3) ||| v4) ||| v5) ||| v6) = (0 : Int64) ∨ (((((((v0 ^^^ (35747322042231467 : Int64)) ||| (v1 ^^^ (36025922209447795 : Int64))) ||| (v2 ^^^ (1084959616957103 : Int64))) ||| (v3 ^^^ (7925923977987733 : Int64))) ||| (v4 ^^^ (16551456537884751 : Int64))) ||| (v5 ^^^ (23443114579904617 : Int64))) ||| (v6 ^^^ (1829881462546425 : Int64))) = (0 : Int64) then (1 : Int32) else (0 : Int32))) [(.ref b89)])) _
                      refine XS.iload X874.here hx rfl (hb hby at_465) rfl ?_
                      exact k
                    obtain ⟨cl875, Ar875, qa875, Sa875, Na875, Ha875, Ga875⟩ := id V835
                    have hi875_0 : ¬ ((3 : Int32) < 0 ∨ cl875.slots.size ≤ ((3 : Int32)).toNatClampNeg) := inb_of Sa875 ⟨by decide, by decide⟩
                    have ht875_0 : cl875.slots[((3 : Int32)).toNatClampNeg]? = some (.long v0) := Has.at Ha875 hi875_0 rfl
                    have hi875_1 : ¬ (((3 : Int32) + (1 : Int32)) < 0 ∨ cl875.slots.size ≤ (((3 : Int32) + (1 : Int32))).toNatClampNeg) := inb_of Sa875 ⟨by decide, by decide⟩
                    have ht875_1 : cl875.slots[(((3 : Int32) + (1 : Int32))).toNatClampNeg]? = some (.long v1) := Has.at Ha875 hi875_1 rfl
                    have hi875_2 : ¬ (((3 : Int32) + (2 : Int32)) < 0 ∨ cl875.slots.size ≤ (((3 : Int32) + (2 : Int32))).toNatClampNeg) := inb_of Sa875 ⟨by decide, by decide⟩
                    have ht875_2 : cl875.slots[(((3 : Int32) + (2 : Int32))).toNatClampNeg]? = some (.long v2) := Has.at Ha875 hi875_2 rfl
                    have hi875_3 : ¬ (((3 : Int32) + (3 : Int32)) < 0 ∨ cl875.slots.size ≤ (((3 : Int32) + (3 : Int32))).toNatClampNeg) := inb_of Sa875 ⟨by decide, by decide⟩
                    have ht875_3 : cl875.slots[(((3 : Int32) + (3 : Int32))).toNatClampNeg]? = some (.long v3) := Has.at Ha875 hi875_3 rfl
                    have hi875_4 : ¬ (((3 : Int32) + (4 : Int32)) < 0 ∨ cl875.slots.size ≤ (((3 : Int32) + (4 : Int32))).toNatClampNeg) := inb_of Sa875 ⟨by decide, by decide⟩
                    have ht875_4 : cl875.slots[(((3 : Int32) + (4 : Int32))).toNatClampNeg]? = some (.long v4) := Has.at Ha875 hi875_4 rfl
                    have hi875_5 : ¬ (((3 : Int32) + (5 : Int32)) < 0 ∨ cl875.slots.size ≤ (((3 : Int32) + (5 : Int32))).toNatClampNeg) := inb_of Sa875 ⟨by decide, by decide⟩
                    have ht875_5 : cl875.slots[(((3 : Int32) + (5 : Int32))).toNatClampNeg]? = some (.long v5) := Has.at Ha875 hi875_5 rfl
                    have hi875_6 : ¬ (((3 : Int32) + (6 : Int32)) < 0 ∨ cl875.slots.size ≤ (((3 : Int32) + (6 : Int32))).toNatClampNeg) := inb_of Sa875 ⟨by decide, by decide⟩
                    have ht875_6 : cl875.slots[(((3 : Int32) + (6 : Int32))).toNatClampNeg]? = some (.long v6) := Has.at Ha875 hi875_6 rfl
                    have Sj0_v876 := Sj0.ext E89
                    have Sj0_v877 := Sj0_v876.wr W91
                    have Sj0_v878 := Sj0_v877.wr W93
                    have Sj0_v879 := Sj0_v878.wr W95
                    have Sj0_v880 := Sj0_v879.wr W97
                    have Sj0_v881 := Sj0_v880.wr W99
                    have Sj0_v882 := Sj0_v881.wr W101
                    have Sj0_v883 := Sj0_v882.wr W103
                    have Sj0_v884 := Sj0_v883.wr W105
                    have Sj0_v885 := Sj0_v884.wr W107
                    have Sj0_v886 := Sj0_v885.wr W109
                    have Sj0_v887 := Sj0_v886.wr W795
                    have Sj0_v888 := Sj0_v887.wr W810
                    have Sj0_v889 := Sj0_v888.wr W815
                    have Sj0_v890 := Sj0_v889.wr W820
                    have Sj0_v891 := Sj0_v890.wr W825
                    have Sj0_v892 := Sj0_v891.wr W830
                    have Sj0_v893 := Sj0_v892.wr W835
                    have Sj1_v894 := Sj1.ext E89
                    have Sj1_v895 := Sj1_v894.wr W91
                    have Sj1_v896 := Sj1_v895.wr W93
                    have Sj1_v897 := Sj1_v896.wr W95
                    have Sj1_v898 := Sj1_v897.wr W97
                    have Sj1_v899 := Sj1_v898.wr W99
                    have Sj1_v900 := Sj1_v899.wr W101
                    have Sj1_v901 := Sj1_v900.wr W103
                    have Sj1_v902 := Sj1_v901.wr W105
                    have Sj1_v903 := Sj1_v902.wr W107
                    have Sj1_v904 := Sj1_v903.wr W109
                    have Sj1_v905 := Sj1_v904.wr W795
                    have Sj1_v906 := Sj1_v905.wr W810
                    have Sj1_v907 := Sj1_v906.wr W815
                    have Sj1_v908 := Sj1_v907.wr W820
                    have Sj1_v909 := Sj1_v908.wr W825
                    have Sj1_v910 := Sj1_v909.wr W830
                    have Sj1_v911 := Sj1_v910.wr W835
                    have Sj2_v912 := Sj2.ext E89
                    have Sj2_v913 := Sj2_v912.wr W91
                    have Sj2_v914 := Sj2_v913.wr W93
                    have Sj2_v915 := Sj2_v914.wr W95
                    have Sj2_v916 := Sj2_v915.wr W97
                    have Sj2_v917 := Sj2_v916.wr W99
                    have Sj2_v918 := Sj2_v917.wr W101
                    have Sj2_v919 := Sj2_v918.wr W103
                    have Sj2_v920 := Sj2_v919.wr W105
                    have Sj2_v921 := Sj2_v920.wr W107
                    have Sj2_v922 := Sj2_v921.wr W109
                    have Sj2_v923 := Sj2_v922.wr W795
                    have Sj2_v924 := Sj2_v923.wr W810
                    have Sj2_v925 := Sj2_v924.wr W815
                    have Sj2_v926 := Sj2_v925.wr W820
                    have Sj2_v927 := Sj2_v926.wr W825
                    have Sj2_v928 := Sj2_v927.wr W830
                    have Sj2_v929 := Sj2_v928.wr W835
                    have Sj3_v930 := Sj3.ext E89
                    have Sj3_v931 := Sj3_v930.wr W91
                    have Sj3_v932 := Sj3_v931.wr W93
                    have Sj3_v933 := Sj3_v932.wr W95
                    have Sj3_v934 := Sj3_v933.wr W97
                    have Sj3_v935 := Sj3_v934.wr W99
                    have Sj3_v936 := Sj3_v935.wr W101
                    have Sj3_v937 := Sj3_v936.wr W103
                    have Sj3_v938 := Sj3_v937.wr W105
                    have Sj3_v939 := Sj3_v938.wr W107
                    have Sj3_v940 := Sj3_v939.wr W109
                    have Sj3_v941 := Sj3_v940.wr W795
                    have Sj3_v942 := Sj3_v941.wr W810
                    have Sj3_v943 := Sj3_v942.wr W815
                    have Sj3_v944 := Sj3_v943.wr W820
                    have Sj3_v945 := Sj3_v944.wr W825
                    have Sj3_v946 := Sj3_v945.wr W830
                    have Sj3_v947 := Sj3_v946.wr W835
                    have Sj4_v948 := Sj4.ext E89
                    have Sj4_v949 := Sj4_v948.wr W91
                    have Sj4_v950 := Sj4_v949.wr W93
                    have Sj4_v951 := Sj4_v950.wr W95
                    have Sj4_v952 := Sj4_v951.wr W97
                    have Sj4_v953 := Sj4_v952.wr W99
                    have Sj4_v954 := Sj4_v953.wr W101
                    have Sj4_v955 := Sj4_v954.wr W103
                    have Sj4_v956 := Sj4_v955.wr W105
                    have Sj4_v957 := Sj4_v956.wr W107
                    have Sj4_v958 := Sj4_v957.wr W109
                    have Sj4_v959 := Sj4_v958.wr W795
                    have Sj4_v960 := Sj4_v959.wr W810
                    have Sj4_v961 := Sj4_v960.wr W815
                    have Sj4_v962 := Sj4_v961.wr W820
                    have Sj4_v963 := Sj4_v962.wr W825
                    have Sj4_v964 := Sj4_v963.wr W830
                    have Sj4_v965 := Sj4_v964.wr W835
                    have Sj5_v966 := Sj5.ext E89
                    have Sj5_v967 := Sj5_v966.wr W91
                    have Sj5_v968 := Sj5_v967.wr W93
                    have Sj5_v969 := Sj5_v968.wr W95
                    have Sj5_v970 := Sj5_v969.wr W97
                    have Sj5_v971 := Sj5_v970.wr W99
                    have Sj5_v972 := Sj5_v971.wr W101
                    have Sj5_v973 := Sj5_v972.wr W103
                    have Sj5_v974 := Sj5_v973.wr W105
                    have Sj5_v975 := Sj5_v974.wr W107
                    have Sj5_v976 := Sj5_v975.wr W109
                    have Sj5_v977 := Sj5_v976.wr W795
                    have Sj5_v978 := Sj5_v977.wr W810
                    have Sj5_v979 := Sj5_v978.wr W815
                    have Sj5_v980 := Sj5_v979.wr W820
                    have Sj5_v981 := Sj5_v980.wr W825
                    have Sj5_v982 := Sj5_v981.wr W830
                    have Sj5_v983 := Sj5_v982.wr W835
                    have Sj6_v984 := Sj6.ext E89
                    have Sj6_v985 := Sj6_v984.wr W91
                    have Sj6_v986 := Sj6_v985.wr W93
                    have Sj6_v987 := Sj6_v986.wr W95
                    have Sj6_v988 := Sj6_v987.wr W97
                    have Sj6_v989 := Sj6_v988.wr W99
                    have Sj6_v990 := Sj6_v989.wr W101
                    have Sj6_v991 := Sj6_v990.wr W103
                    have Sj6_v992 := Sj6_v991.wr W105
                    have Sj6_v993 := Sj6_v992.wr W107
                    have Sj6_v994 := Sj6_v993.wr W109
                    have Sj6_v995 := Sj6_v994.wr W795
                    have Sj6_v996 := Sj6_v995.wr W810
                    have Sj6_v997 := Sj6_v996.wr W815
                    have Sj6_v998 := Sj6_v997.wr W820
                    have Sj6_v999 := Sj6_v998.wr W825
                    have Sj6_v1000 := Sj6_v999.wr W830
                    have Sj6_v1001 := Sj6_v1000.wr W835
                    obtain ⟨_, _, ⟨T1002, L1002, k1002, n1002⟩, -, X1002, ⟨Lc1002, hQ1002, l1002, y1002, z1002⟩, st1002⟩ := Jvm.LawKit.callS X874 hx (y := (⟨"com/example/barred_rows/barredrows/crypto/Fp", "isZero", "([JI)Z"⟩ : MethodName)) hown (mvT hZ (hw _ (List.mem_of_getElem? (i := 15) rfl))) (mvT hZ (hw _ (List.mem_of_getElem? (i := 16) rfl))) (mvT hZ (hw _ (List.mem_of_getElem? (i := 17) rfl))) (mvT hZ (hw _ (List.mem_of_getElem? (i := 18) rfl))) (by decide) (backOf (W := 0) (rm3 l Z a0 hw [] b89 (3 : Int32) cl875 v0 v1 v2 v3 v4 v5 v6 h835 n0 Zj88_v853 Ar875 hi875_0 hi875_1 hi875_2 hi875_3 hi875_4 hi875_5 hi875_6 ht875_0 ht875_1 ht875_2 ht875_3 ht875_4 ht875_5 ht875_6 Sj0_v893 Sj1_v911 Sj2_v929 Sj3_v947 Sj4_v965 Sj5_v983 Sj6_v1001) hZ (hw _ (List.mem_of_getElem? (i := 18) rfl)) (hw _ (List.mem_of_getElem? (i := 17) rfl)) (by decide) (by decide)) (g := (mkF m 467 (LS_JsJsJsJsJsIJsRRRIRIRI q0 q1 q2 q3 q4 p5 (36028797018963967 : Int64) o1 b2 b25 (((p5.toUInt32 >>> ((7 : Int32) &&& 31).toUInt32).toInt32) &&& (3 : Int32)) vv (3 : Int32) b89 (if ((((((v0 ||| v1) ||| v2) ||| v3) ||| v4) ||| v5) ||| v6) = (0 : Int64) ∨ (((((((v0 ^^^ (35747322042231467 : Int64)) ||| (v1 ^^^ (36025922209447795 : Int64))) ||| (v2 ^^^ (1084959616957103 : Int64))) ||| (v3 ^^^ (7925923977987733 : Int64))) ||| (v4 ^^^ (16551456537884751 : Int64))) ||| (v5 ^^^ (23443114579904617 : Int64))) ||| (v6 ^^^ (1829881462546425 : Int64))) = (0 : Int64) then (1 : Int32) else (0 : Int32))) [(.int (3 : Int32)), (.ref b89)])) rfl (by rw [hml]; rfl) (argsL := [(.ref b89), (.int (3 : Int32))]) (rest := []) (lenOf pd___JI_Z rfl) rfl (by show 2 * 0 + _ ≤ _; exact Nat.le_of_eq rfl) (hb hby at_467) (fun _ _ => ⟨rfl, e874, (by decide : 7 + 1 ≤ _), (by decide : 52 + 7 ≤ _)⟩)
                    dsimp only [Pt.U, Pt.locs, Pt.cells, Pt.slots] at X1002 l1002 y1002 z1002 st1002 hQ1002
                    subst l1002 y1002 z1002
                    obtain ⟨rfl, N1002q⟩ := hQ1002
                    have N1002 := Fr.app N874 N1002q
                    refine own_go (B := T1002.setTop (mkF m 470 (LS_JsJsJsJsJsIJsRRRIRIRI q0 q1 q2 q3 q4 p5 (36028797018963967 : Int64) o1 b2 b25 (((p5.toUInt32 >>> ((7 : Int32) &&& 31).toUInt32).toInt32) &&& (3 : Int32)) vv (3 : Int32) b89 (if ((((((v0 ||| v1) ||| v2) ||| v3) ||| v4) ||| v5) ||| v6) = (0 : Int64) ∨ (((((((v0 ^^^ (35747322042231467 : Int64)) ||| (v1 ^^^ (36025922209447795 : Int64))) ||| (v2 ^^^ (1084959616957103 : Int64))) ||| (v3 ^^^ (7925923977987733 : Int64))) ||| (v4 ^^^ (16551456537884751 : Int64))) ||| (v5 ^^^ (23443114579904617 : Int64))) ||| (v6 ^^^ (1829881462546425 : Int64))) = (0 : Int64) then (1 : Int32) else (0 : Int32))) [(.int (if (((((((own_c0 v0 v1 v2 v3 v4 v5 v6) ||| (own_c1 v0 v1 v2 v3 v4 v5 v6)) ||| (own_c2 v0 v1 v2 v3 v4 v5 v6)) ||| (own_c3 v0 v1 v2 v3 v4 v5 v6)) ||| (own_c4 v0 v1 v2 v3 v4 v5 v6)) ||| (own_c5 v0 v1 v2 v3 v4 v5 v6)) ||| (own_c6 v0 v1 v2 v3 v4 v5 v6)) = (0 : Int64) then (1 : Int32) else (0 : Int32)))])) (fun t k => st1002 _ k) ?_
                    refine own_go (B := T1002.setTop (mkF m 480 (LS_JsJsJsJsJsIJsRRRIRIRI q0 q1 q2 q3 q4 p5 (36028797018963967 : Int64) o1 b2 b25 (((p5.toUInt32 >>> ((7 : Int32) &&& 31).toUInt32).toInt32) &&& (3 : Int32)) vv (3 : Int32) b89 (if ((((((v0 ||| v1) ||| v2) ||| v3) ||| v4) ||| v5) ||| v6) = (0 : Int64) ∨ (((((((v0 ^^^ (35747322042231467 : Int64)) ||| (v1 ^^^ (36025922209447795 : Int64))) ||| (v2 ^^^ (1084959616957103 : Int64))) ||| (v3 ^^^ (7925923977987733 : Int64))) ||| (v4 ^^^ (16551456537884751 : Int64))) ||| (v5 ^^^ (23443114579904617 : Int64))) ||| (v6 ^^^ (1829881462546425 : Int64))) = (0 : Int64) then (1 : Int32) else (0 : Int32))) [(.int (1 : Int32))])) (fun t k => ?_) ?_
                    · show Steps p.tables e below (T1002.setTop (mkF m 470 (LS_JsJsJsJsJsIJsRRRIRIRI q0 q1 q2 q3 q4 p5 (36028797018963967 : Int64) o1 b2 b25 (((p5.toUInt32 >>> ((7 : Int32) &&& 31).toUInt32).toInt32) &&& (3 : Int32)) vv (3 : Int32) b89 (if ((((((v0 ||| v1) ||| v2) ||| v3) ||| v4) ||| v5) ||| v6) = (0 : Int64) ∨ (((((((v0 ^^^ (35747322042231467 : Int64)) ||| (v1 ^^^ (36025922209447795 : Int64))) ||| (v2 ^^^ (1084959616957103 : Int64))) ||| (v3 ^^^ (7925923977987733 : Int64))) ||| (v4 ^^^ (16551456537884751 : Int64))) ||| (v5 ^^^ (23443114579904617 : Int64))) ||| (v6 ^^^ (1829881462546425 : Int64))) = (0 : Int64) then (1 : Int32) else (0 : Int32))) [(.int (if (((((((own_c0 v0 v1 v2 v3 v4 v5 v6) ||| (own_c1 v0 v1 v2 v3 v4 v5 v6)) ||| (own_c2 v0 v1 v2 v3 v4 v5 v6)) ||| (own_c3 v0 v1 v2 v3 v4 v5 v6)) ||| (own_c4 v0 v1 v2 v3 v4 v5 v6)) ||| (own_c5 v0 v1 v2 v3 v4 v5 v6)) ||| (own_c6 v0 v1 v2 v3 v4 v5 v6)) = (0 : Int64) then (1 : Int32) else (0 : Int32)))])) _
                      refine XS.iload X1002.here hx rfl (hb hby at_470) rfl ?_
                      show Steps p.tables e below (T1002.setTop (mkF m 472 (LS_JsJsJsJsJsIJsRRRIRIRI q0 q1 q2 q3 q4 p5 (36028797018963967 : Int64) o1 b2 b25 (((p5.toUInt32 >>> ((7 : Int32) &&& 31).toUInt32).toInt32) &&& (3 : Int32)) vv (3 : Int32) b89 (if ((((((v0 ||| v1) ||| v2) ||| v3) ||| v4) ||| v5) ||| v6) = (0 : Int64) ∨ (((((((v0 ^^^ (35747322042231467 : Int64)) ||| (v1 ^^^ (36025922209447795 : Int64))) ||| (v2 ^^^ (1084959616957103 : Int64))) ||| (v3 ^^^ (7925923977987733 : Int64))) ||| (v4 ^^^ (16551456537884751 : Int64))) ||| (v5 ^^^ (23443114579904617 : Int64))) ||| (v6 ^^^ (1829881462546425 : Int64))) = (0 : Int64) then (1 : Int32) else (0 : Int32))) [(.int (if ((((((v0 ||| v1) ||| v2) ||| v3) ||| v4) ||| v5) ||| v6) = (0 : Int64) ∨ (((((((v0 ^^^ (35747322042231467 : Int64)) ||| (v1 ^^^ (36025922209447795 : Int64))) ||| (v2 ^^^ (1084959616957103 : Int64))) ||| (v3 ^^^ (7925923977987733 : Int64))) ||| (v4 ^^^ (16551456537884751 : Int64))) ||| (v5 ^^^ (23443114579904617 : Int64))) ||| (v6 ^^^ (1829881462546425 : Int64))) = (0 : Int64) then (1 : Int32) else (0 : Int32))), (.int (if (((((((own_c0 v0 v1 v2 v3 v4 v5 v6) ||| (own_c1 v0 v1 v2 v3 v4 v5 v6)) ||| (own_c2 v0 v1 v2 v3 v4 v5 v6)) ||| (own_c3 v0 v1 v2 v3 v4 v5 v6)) ||| (own_c4 v0 v1 v2 v3 v4 v5 v6)) ||| (own_c5 v0 v1 v2 v3 v4 v5 v6)) ||| (own_c6 v0 v1 v2 v3 v4 v5 v6)) = (0 : Int64) then (1 : Int32) else (0 : Int32)))])) _
                      refine XS.icmpNo X1002.here hx rfl (hb hby at_472) rfl (teq (own_ite ((own_zero bv0 bv1 bv2 bv3 bv4 bv5 bv6)))).2 ?_
                      show Steps p.tables e below (T1002.setTop (mkF m 475 (LS_JsJsJsJsJsIJsRRRIRIRI q0 q1 q2 q3 q4 p5 (36028797018963967 : Int64) o1 b2 b25 (((p5.toUInt32 >>> ((7 : Int32) &&& 31).toUInt32).toInt32) &&& (3 : Int32)) vv (3 : Int32) b89 (if ((((((v0 ||| v1) ||| v2) ||| v3) ||| v4) ||| v5) ||| v6) = (0 : Int64) ∨ (((((((v0 ^^^ (35747322042231467 : Int64)) ||| (v1 ^^^ (36025922209447795 : Int64))) ||| (v2 ^^^ (1084959616957103 : Int64))) ||| (v3 ^^^ (7925923977987733 : Int64))) ||| (v4 ^^^ (16551456537884751 : Int64))) ||| (v5 ^^^ (23443114579904617 : Int64))) ||| (v6 ^^^ (1829881462546425 : Int64))) = (0 : Int64) then (1 : Int32) else (0 : Int32))) [])) _
                      refine XS.iconst X1002.here hx rfl (hb hby at_475) ?_
                      show Steps p.tables e below (T1002.setTop (mkF m 476 (LS_JsJsJsJsJsIJsRRRIRIRI q0 q1 q2 q3 q4 p5 (36028797018963967 : Int64) o1 b2 b25 (((p5.toUInt32 >>> ((7 : Int32) &&& 31).toUInt32).toInt32) &&& (3 : Int32)) vv (3 : Int32) b89 (if ((((((v0 ||| v1) ||| v2) ||| v3) ||| v4) ||| v5) ||| v6) = (0 : Int64) ∨ (((((((v0 ^^^ (35747322042231467 : Int64)) ||| (v1 ^^^ (36025922209447795 : Int64))) ||| (v2 ^^^ (1084959616957103 : Int64))) ||| (v3 ^^^ (7925923977987733 : Int64))) ||| (v4 ^^^ (16551456537884751 : Int64))) ||| (v5 ^^^ (23443114579904617 : Int64))) ||| (v6 ^^^ (1829881462546425 : Int64))) = (0 : Int64) then (1 : Int32) else (0 : Int32))) [(.int (1 : Int32))])) _
                      refine XS.goto X1002.here hx rfl (pc0 := 476) (pc' := 480) rfl (hb hby at_476) (by decide) (by decide) ?_
                      exact k
                    obtain ⟨fs, hr, hrun, hended, hW, hsame⟩ := X1002.leave (v := some (.int (1 : Int32))) (fun h => by rw [Bd.returns] at h; cases h)
                    refine ⟨_, _, ?_, hrun, hended, _, _, rfl, ?_, ⟨_, rfl⟩, hW, hsame.mono (by decide) (by decide)⟩
                    · show Steps p.tables e below (T1002.setTop (mkF m 480 (LS_JsJsJsJsJsIJsRRRIRIRI q0 q1 q2 q3 q4 p5 (36028797018963967 : Int64) o1 b2 b25 (((p5.toUInt32 >>> ((7 : Int32) &&& 31).toUInt32).toInt32) &&& (3 : Int32)) vv (3 : Int32) b89 (if ((((((v0 ||| v1) ||| v2) ||| v3) ||| v4) ||| v5) ||| v6) = (0 : Int64) ∨ (((((((v0 ^^^ (35747322042231467 : Int64)) ||| (v1 ^^^ (36025922209447795 : Int64))) ||| (v2 ^^^ (1084959616957103 : Int64))) ||| (v3 ^^^ (7925923977987733 : Int64))) ||| (v4 ^^^ (16551456537884751 : Int64))) ||| (v5 ^^^ (23443114579904617 : Int64))) ||| (v6 ^^^ (1829881462546425 : Int64))) = (0 : Int64) then (1 : Int32) else (0 : Int32))) [(.int (1 : Int32))])) _
                      exact retN X1002 hx (t := .boolean) Bd.returns (by simp) (hb hby at_480) hr
                    · show Q0 Z q0 q1 q2 q3 q4 p5 h0 n0 _ T1002.heap _
                      exact ⟨rfl, N1002⟩
                · intro rest88
                  refine own_go (B := T87.setTop (mkF m 258 (LS_JsJsJsJsJsIJsRRRIuuuu q0 q1 q2 q3 q4 p5 (36028797018963967 : Int64) o1 b2 b25 (((p5.toUInt32 >>> ((7 : Int32) &&& 31).toUInt32).toInt32) &&& (3 : Int32))) [(.int (((p5.toUInt32 >>> ((7 : Int32) &&& 31).toUInt32).toInt32) &&& (3 : Int32)))])) (fun t k => ?_) ?_
                  · show Steps p.tables e below (T87.setTop (mkF m 256 (LS_JsJsJsJsJsIJsRRRIuuuu q0 q1 q2 q3 q4 p5 (36028797018963967 : Int64) o1 b2 b25 (((p5.toUInt32 >>> ((7 : Int32) &&& 31).toUInt32).toInt32) &&& (3 : Int32))) [])) _
                    refine XS.iload X87.here hx rfl (hb hby at_256) rfl ?_
                    exact k
                  by_cases hc258_1003 : (((p5.toUInt32 >>> ((7 : Int32) &&& 31).toUInt32).toInt32) &&& (3 : Int32)) = (0 : Int32)
                  · refine own_go (B := T87.setTop (mkF m 318 (LS_JsJsJsJsJsIJsRRRIRuuu q0 q1 q2 q3 q4 p5 (36028797018963967 : Int64) o1 b2 b25 (((p5.toUInt32 >>> ((7 : Int32) &&& 31).toUInt32).toInt32) &&& (3 : Int32)) b2) [])) (fun t k => ?_) ?_
                    · show Steps p.tables e below (T87.setTop (mkF m 258 (LS_JsJsJsJsJsIJsRRRIuuuu q0 q1 q2 q3 q4 p5 (36028797018963967 : Int64) o1 b2 b25 (((p5.toUInt32 >>> ((7 : Int32) &&& 31).toUInt32).toInt32) &&& (3 : Int32))) [(.int (((p5.toUInt32 >>> ((7 : Int32) &&& 31).toUInt32).toInt32) &&& (3 : Int32)))])) _
                      refine XS.ifNo X87.here hx rfl (hb hby at_258) rfl ((if0 _ _).trans (teq hc258_1003).2) ?_
                      show Steps p.tables e below (T87.setTop (mkF m 261 (LS_JsJsJsJsJsIJsRRRIuuuu q0 q1 q2 q3 q4 p5 (36028797018963967 : Int64) o1 b2 b25 (((p5.toUInt32 >>> ((7 : Int32) &&& 31).toUInt32).toInt32) &&& (3 : Int32))) [])) _
                      refine XS.aload X87.here hx rfl (hb hby at_261) rfl rfl ?_
                      show Steps p.tables e below (T87.setTop (mkF m 263 (LS_JsJsJsJsJsIJsRRRIuuuu q0 q1 q2 q3 q4 p5 (36028797018963967 : Int64) o1 b2 b25 (((p5.toUInt32 >>> ((7 : Int32) &&& 31).toUInt32).toInt32) &&& (3 : Int32))) [(.ref b2)])) _
                      refine XS.astore X87.here hx rfl (hb hby at_263) rfl rfl (l' := (LS_JsJsJsJsJsIJsRRRIRuuu q0 q1 q2 q3 q4 p5 (36028797018963967 : Int64) o1 b2 b25 (((p5.toUInt32 >>> ((7 : Int32) &&& 31).toUInt32).toInt32) &&& (3 : Int32)) b2)) rfl ?_
                      show Steps p.tables e below (T87.setTop (mkF m 265 (LS_JsJsJsJsJsIJsRRRIRuuu q0 q1 q2 q3 q4 p5 (36028797018963967 : Int64) o1 b2 b25 (((p5.toUInt32 >>> ((7 : Int32) &&& 31).toUInt32).toInt32) &&& (3 : Int32)) b2) [])) _
                      refine XS.goto X87.here hx rfl (pc0 := 265) (pc' := 318) rfl (hb hby at_265) (by decide) (by decide) ?_
                      exact k
                    have Z0_v1004 := Nat.le_trans Z0_v33 E25.1
                    have Z0_v1005 := Nat.le_trans Z0_v1004 (Nat.le_of_eq W47.size.symm)
                    have Z0_v1006 := Nat.le_trans Z0_v1005 (Nat.le_of_eq W61.size.symm)
                    have Z0_v1007 := Nat.le_trans Z0_v1006 (Nat.le_of_eq W67.size.symm)
                    have Z0_v1008 := Nat.le_trans Z0_v1007 (Nat.le_of_eq W72.size.symm)
                    have Z0_v1009 := Nat.le_trans Z0_v1008 (Nat.le_of_eq W77.size.symm)
                    have Z0_v1010 := Nat.le_trans Z0_v1009 (Nat.le_of_eq W82.size.symm)
                    have Z0_v1011 := Nat.le_trans Z0_v1010 (Nat.le_of_eq W87.size.symm)
                    have V1r_v1012 := V1r_v84.other W87 ne58
                    have V24_v1013 := V24.ext E25
                    have ne1015 : b2 ≠ b25 := Nat.ne_of_lt (Nat.lt_of_lt_of_le V24.lt (Nat.le_of_eq g25.symm))
                    have V24_v1014 := V24_v1013.other W47 ne1015
                    have V24_v1016 := V24_v1014.other W61 ne1015
                    have V24_v1017 := V24_v1016.other W67 ne1015
                    have V24_v1018 := V24_v1017.other W72 ne1015
                    have V24_v1019 := V24_v1018.other W77 ne1015
                    have V24_v1020 := V24_v1019.other W82 ne1015
                    have V24_v1021 := V24_v1020.other W87 ne1015
                    have S_Fp_P0_v1022 := own_sta_keep S_Fp_P0 K1 all0
                    have S_Fp_P0_v1023 := S_Fp_P0_v1022.ext E2
                    have S_Fp_P0_v1024 := S_Fp_P0_v1023.wr W6
                    have S_Fp_P0_v1025 := S_Fp_P0_v1024.wr W9
                    have S_Fp_P0_v1026 := S_Fp_P0_v1025.wr W12
                    have S_Fp_P0_v1027 := S_Fp_P0_v1026.wr W15
                    have S_Fp_P0_v1028 := S_Fp_P0_v1027.wr W18
                    have S_Fp_P0_v1029 := S_Fp_P0_v1028.wr W21
                    have S_Fp_P0_v1030 := S_Fp_P0_v1029.wr W24
                    have S_Fp_P0_v1031 := S_Fp_P0_v1030.ext E25
                    have S_Fp_P0_v1032 := S_Fp_P0_v1031.wr W47
                    have S_Fp_P0_v1033 := S_Fp_P0_v1032.wr W61
                    have S_Fp_P0_v1034 := S_Fp_P0_v1033.wr W67
                    have S_Fp_P0_v1035 := S_Fp_P0_v1034.wr W72
                    have S_Fp_P0_v1036 := S_Fp_P0_v1035.wr W77
                    have S_Fp_P0_v1037 := S_Fp_P0_v1036.wr W82
                    have S_Fp_P0_v1038 := S_Fp_P0_v1037.wr W87
                    have S_Fp_P1_v1039 := own_sta_keep S_Fp_P1 K1 all0
                    have S_Fp_P1_v1040 := S_Fp_P1_v1039.ext E2
                    have S_Fp_P1_v1041 := S_Fp_P1_v1040.wr W6
                    have S_Fp_P1_v1042 := S_Fp_P1_v1041.wr W9
                    have S_Fp_P1_v1043 := S_Fp_P1_v1042.wr W12
                    have S_Fp_P1_v1044 := S_Fp_P1_v1043.wr W15
                    have S_Fp_P1_v1045 := S_Fp_P1_v1044.wr W18
                    have S_Fp_P1_v1046 := S_Fp_P1_v1045.wr W21
                    have S_Fp_P1_v1047 := S_Fp_P1_v1046.wr W24
                    have S_Fp_P1_v1048 := S_Fp_P1_v1047.ext E25
                    have S_Fp_P1_v1049 := S_Fp_P1_v1048.wr W47
                    have S_Fp_P1_v1050 := S_Fp_P1_v1049.wr W61
                    have S_Fp_P1_v1051 := S_Fp_P1_v1050.wr W67
                    have S_Fp_P1_v1052 := S_Fp_P1_v1051.wr W72
                    have S_Fp_P1_v1053 := S_Fp_P1_v1052.wr W77
                    have S_Fp_P1_v1054 := S_Fp_P1_v1053.wr W82
                    have S_Fp_P1_v1055 := S_Fp_P1_v1054.wr W87
                    have S_Fp_P2_v1056 := own_sta_keep S_Fp_P2 K1 all0
                    have S_Fp_P2_v1057 := S_Fp_P2_v1056.ext E2
                    have S_Fp_P2_v1058 := S_Fp_P2_v1057.wr W6
                    have S_Fp_P2_v1059 := S_Fp_P2_v1058.wr W9
                    have S_Fp_P2_v1060 := S_Fp_P2_v1059.wr W12
                    have S_Fp_P2_v1061 := S_Fp_P2_v1060.wr W15
                    have S_Fp_P2_v1062 := S_Fp_P2_v1061.wr W18
                    have S_Fp_P2_v1063 := S_Fp_P2_v1062.wr W21
                    have S_Fp_P2_v1064 := S_Fp_P2_v1063.wr W24
                    have S_Fp_P2_v1065 := S_Fp_P2_v1064.ext E25
                    have S_Fp_P2_v1066 := S_Fp_P2_v1065.wr W47
                    have S_Fp_P2_v1067 := S_Fp_P2_v1066.wr W61
                    have S_Fp_P2_v1068 := S_Fp_P2_v1067.wr W67
                    have S_Fp_P2_v1069 := S_Fp_P2_v1068.wr W72
                    have S_Fp_P2_v1070 := S_Fp_P2_v1069.wr W77
                    have S_Fp_P2_v1071 := S_Fp_P2_v1070.wr W82
                    have S_Fp_P2_v1072 := S_Fp_P2_v1071.wr W87
                    have S_Fp_P3_v1073 := own_sta_keep S_Fp_P3 K1 all0
                    have S_Fp_P3_v1074 := S_Fp_P3_v1073.ext E2
                    have S_Fp_P3_v1075 := S_Fp_P3_v1074.wr W6
                    have S_Fp_P3_v1076 := S_Fp_P3_v1075.wr W9
                    have S_Fp_P3_v1077 := S_Fp_P3_v1076.wr W12
                    have S_Fp_P3_v1078 := S_Fp_P3_v1077.wr W15
                    have S_Fp_P3_v1079 := S_Fp_P3_v1078.wr W18
                    have S_Fp_P3_v1080 := S_Fp_P3_v1079.wr W21
                    have S_Fp_P3_v1081 := S_Fp_P3_v1080.wr W24
                    have S_Fp_P3_v1082 := S_Fp_P3_v1081.ext E25
                    have S_Fp_P3_v1083 := S_Fp_P3_v1082.wr W47
                    have S_Fp_P3_v1084 := S_Fp_P3_v1083.wr W61
                    have S_Fp_P3_v1085 := S_Fp_P3_v1084.wr W67
                    have S_Fp_P3_v1086 := S_Fp_P3_v1085.wr W72
                    have S_Fp_P3_v1087 := S_Fp_P3_v1086.wr W77
                    have S_Fp_P3_v1088 := S_Fp_P3_v1087.wr W82
                    have S_Fp_P3_v1089 := S_Fp_P3_v1088.wr W87
                    have S_Fp_P4_v1090 := own_sta_keep S_Fp_P4 K1 all0
                    have S_Fp_P4_v1091 := S_Fp_P4_v1090.ext E2
                    have S_Fp_P4_v1092 := S_Fp_P4_v1091.wr W6
                    have S_Fp_P4_v1093 := S_Fp_P4_v1092.wr W9
                    have S_Fp_P4_v1094 := S_Fp_P4_v1093.wr W12
                    have S_Fp_P4_v1095 := S_Fp_P4_v1094.wr W15
                    have S_Fp_P4_v1096 := S_Fp_P4_v1095.wr W18
                    have S_Fp_P4_v1097 := S_Fp_P4_v1096.wr W21
                    have S_Fp_P4_v1098 := S_Fp_P4_v1097.wr W24
                    have S_Fp_P4_v1099 := S_Fp_P4_v1098.ext E25
                    have S_Fp_P4_v1100 := S_Fp_P4_v1099.wr W47
                    have S_Fp_P4_v1101 := S_Fp_P4_v1100.wr W61
                    have S_Fp_P4_v1102 := S_Fp_P4_v1101.wr W67
                    have S_Fp_P4_v1103 := S_Fp_P4_v1102.wr W72
                    have S_Fp_P4_v1104 := S_Fp_P4_v1103.wr W77
                    have S_Fp_P4_v1105 := S_Fp_P4_v1104.wr W82
                    have S_Fp_P4_v1106 := S_Fp_P4_v1105.wr W87
                    have S_Fp_P5_v1107 := own_sta_keep S_Fp_P5 K1 all0
                    have S_Fp_P5_v1108 := S_Fp_P5_v1107.ext E2
                    have S_Fp_P5_v1109 := S_Fp_P5_v1108.wr W6
                    have S_Fp_P5_v1110 := S_Fp_P5_v1109.wr W9
                    have S_Fp_P5_v1111 := S_Fp_P5_v1110.wr W12
                    have S_Fp_P5_v1112 := S_Fp_P5_v1111.wr W15
                    have S_Fp_P5_v1113 := S_Fp_P5_v1112.wr W18
                    have S_Fp_P5_v1114 := S_Fp_P5_v1113.wr W21
                    have S_Fp_P5_v1115 := S_Fp_P5_v1114.wr W24
                    have S_Fp_P5_v1116 := S_Fp_P5_v1115.ext E25
                    have S_Fp_P5_v1117 := S_Fp_P5_v1116.wr W47
                    have S_Fp_P5_v1118 := S_Fp_P5_v1117.wr W61
                    have S_Fp_P5_v1119 := S_Fp_P5_v1118.wr W67
                    have S_Fp_P5_v1120 := S_Fp_P5_v1119.wr W72
                    have S_Fp_P5_v1121 := S_Fp_P5_v1120.wr W77
                    have S_Fp_P5_v1122 := S_Fp_P5_v1121.wr W82
                    have S_Fp_P5_v1123 := S_Fp_P5_v1122.wr W87
                    have S_Fp_P6_v1124 := own_sta_keep S_Fp_P6 K1 all0
                    have S_Fp_P6_v1125 := S_Fp_P6_v1124.ext E2
                    have S_Fp_P6_v1126 := S_Fp_P6_v1125.wr W6
                    have S_Fp_P6_v1127 := S_Fp_P6_v1126.wr W9
                    have S_Fp_P6_v1128 := S_Fp_P6_v1127.wr W12
                    have S_Fp_P6_v1129 := S_Fp_P6_v1128.wr W15
                    have S_Fp_P6_v1130 := S_Fp_P6_v1129.wr W18
                    have S_Fp_P6_v1131 := S_Fp_P6_v1130.wr W21
                    have S_Fp_P6_v1132 := S_Fp_P6_v1131.wr W24
                    have S_Fp_P6_v1133 := S_Fp_P6_v1132.ext E25
                    have S_Fp_P6_v1134 := S_Fp_P6_v1133.wr W47
                    have S_Fp_P6_v1135 := S_Fp_P6_v1134.wr W61
                    have S_Fp_P6_v1136 := S_Fp_P6_v1135.wr W67
                    have S_Fp_P6_v1137 := S_Fp_P6_v1136.wr W72
                    have S_Fp_P6_v1138 := S_Fp_P6_v1137.wr W77
                    have S_Fp_P6_v1139 := S_Fp_P6_v1138.wr W82
                    have S_Fp_P6_v1140 := S_Fp_P6_v1139.wr W87
                    exact rest88 b2 _ _ (own_mono X87 (by decide) (by decide)) N87 (by rw [e87]; exact ⟨k2, x0, x1, x2, x3, x4, x5, x6, Z0_v1011, V1r_v1012, V24_v1021, phi4, phi7, phi10, phi13, phi16, phi19, phi22, S_Fp_P0_v1038, S_Fp_P1_v1055, S_Fp_P2_v1072, S_Fp_P3_v1089, S_Fp_P4_v1106, S_Fp_P5_v1123, S_Fp_P6_v1140⟩)
                  · refine own_go (B := T87.setTop (mkF m 271 (LS_JsJsJsJsJsIJsRRRIuuuu q0 q1 q2 q3 q4 p5 (36028797018963967 : Int64) o1 b2 b25 (((p5.toUInt32 >>> ((7 : Int32) &&& 31).toUInt32).toInt32) &&& (3 : Int32))) [(.int (1 : Int32)), (.int (((p5.toUInt32 >>> ((7 : Int32) &&& 31).toUInt32).toInt32) &&& (3 : Int32)))])) (fun t k => ?_) ?_
                    · show Steps p.tables e below (T87.setTop (mkF m 258 (LS_JsJsJsJsJsIJsRRRIuuuu q0 q1 q2 q3 q4 p5 (36028797018963967 : Int64) o1 b2 b25 (((p5.toUInt32 >>> ((7 : Int32) &&& 31).toUInt32).toInt32) &&& (3 : Int32))) [(.int (((p5.toUInt32 >>> ((7 : Int32) &&& 31).toUInt32).toInt32) &&& (3 : Int32)))])) _
                      refine XS.ifYes X87.here hx rfl (pc0 := 258) (pc' := 268) rfl (hb hby at_258) rfl ((if0 _ _).trans (feq hc258_1003).2) (by decide) (by decide) ?_
                      show Steps p.tables e below (T87.setTop (mkF m 268 (LS_JsJsJsJsJsIJsRRRIuuuu q0 q1 q2 q3 q4 p5 (36028797018963967 : Int64) o1 b2 b25 (((p5.toUInt32 >>> ((7 : Int32) &&& 31).toUInt32).toInt32) &&& (3 : Int32))) [])) _
                      refine XS.iload X87.here hx rfl (hb hby at_268) rfl ?_
                      show Steps p.tables e below (T87.setTop (mkF m 270 (LS_JsJsJsJsJsIJsRRRIuuuu q0 q1 q2 q3 q4 p5 (36028797018963967 : Int64) o1 b2 b25 (((p5.toUInt32 >>> ((7 : Int32) &&& 31).toUInt32).toInt32) &&& (3 : Int32))) [(.int (((p5.toUInt32 >>> ((7 : Int32) &&& 31).toUInt32).toInt32) &&& (3 : Int32)))])) _
                      refine XS.iconst X87.here hx rfl (hb hby at_270) ?_
                      exact k
                    by_cases hc271_1141 : (((p5.toUInt32 >>> ((7 : Int32) &&& 31).toUInt32).toInt32) &&& (3 : Int32)) = (1 : Int32)
                    · refine own_go (B := T87.setTop (mkF m 278 (LS_JsJsJsJsJsIJsRRRIuuuu q0 q1 q2 q3 q4 p5 (36028797018963967 : Int64) o1 b2 b25 (((p5.toUInt32 >>> ((7 : Int32) &&& 31).toUInt32).toInt32) &&& (3 : Int32))) [(.ref o1), (.ref b2)])) (fun t k => ?_) ?_
                      · show Steps p.tables e below (T87.setTop (mkF m 271 (LS_JsJsJsJsJsIJsRRRIuuuu q0 q1 q2 q3 q4 p5 (36028797018963967 : Int64) o1 b2 b25 (((p5.toUInt32 >>> ((7 : Int32) &&& 31).toUInt32).toInt32) &&& (3 : Int32))) [(.int (1 : Int32)), (.int (((p5.toUInt32 >>> ((7 : Int32) &&& 31).toUInt32).toInt32) &&& (3 : Int32)))])) _
                        refine XS.icmpNo X87.here hx rfl (hb hby at_271) rfl (teq hc271_1141).2 ?_
                        show Steps p.tables e below (T87.setTop (mkF m 274 (LS_JsJsJsJsJsIJsRRRIuuuu q0 q1 q2 q3 q4 p5 (36028797018963967 : Int64) o1 b2 b25 (((p5.toUInt32 >>> ((7 : Int32) &&& 31).toUInt32).toInt32) &&& (3 : Int32))) [])) _
                        refine XS.aload X87.here hx rfl (hb hby at_274) rfl rfl ?_
                        show Steps p.tables e below (T87.setTop (mkF m 276 (LS_JsJsJsJsJsIJsRRRIuuuu q0 q1 q2 q3 q4 p5 (36028797018963967 : Int64) o1 b2 b25 (((p5.toUInt32 >>> ((7 : Int32) &&& 31).toUInt32).toInt32) &&& (3 : Int32))) [(.ref b2)])) _
                        refine XS.aload X87.here hx rfl (hb hby at_276) rfl rfl ?_
                        exact k
                      have Z0_v1142 := Nat.le_trans Z0_v33 E25.1
                      have Z0_v1143 := Nat.le_trans Z0_v1142 (Nat.le_of_eq W47.size.symm)
                      have Z0_v1144 := Nat.le_trans Z0_v1143 (Nat.le_of_eq W61.size.symm)
                      have Z0_v1145 := Nat.le_trans Z0_v1144 (Nat.le_of_eq W67.size.symm)
                      have Z0_v1146 := Nat.le_trans Z0_v1145 (Nat.le_of_eq W72.size.symm)
                      have Z0_v1147 := Nat.le_trans Z0_v1146 (Nat.le_of_eq W77.size.symm)
                      have Z0_v1148 := Nat.le_trans Z0_v1147 (Nat.le_of_eq W82.size.symm)
                      have Z0_v1149 := Nat.le_trans Z0_v1148 (Nat.le_of_eq W87.size.symm)
                      have V24_v1150 := V24.ext E25
                      have ne1152 : b2 ≠ b25 := Nat.ne_of_lt (Nat.lt_of_lt_of_le V24.lt (Nat.le_of_eq g25.symm))
                      have V24_v1151 := V24_v1150.other W47 ne1152
                      have V24_v1153 := V24_v1151.other W61 ne1152
                      have V24_v1154 := V24_v1153.other W67 ne1152
                      have V24_v1155 := V24_v1154.other W72 ne1152
                      have V24_v1156 := V24_v1155.other W77 ne1152
                      have V24_v1157 := V24_v1156.other W82 ne1152
                      have V24_v1158 := V24_v1157.other W87 ne1152
                      have V1r_v1159 := V1r_v84.other W87 ne58
                      obtain ⟨_, _, ⟨T1160, L1160, k1160, n1160⟩, -, X1160, ⟨Lc1160, hQ1160, l1160, y1160, z1160⟩, st1160⟩ := Jvm.LawKit.callS X87 hx (y := (⟨"com/example/barred_rows/barredrows/crypto/FpIsZeroPinLaw", "add", "([J[J)[J"⟩ : MethodName)) hown (mvT hZ (hw _ (List.mem_of_getElem? (i := 38) rfl))) (mvT hZ (hw _ (List.mem_of_getElem? (i := 39) rfl))) (mvT hZ (hw _ (List.mem_of_getElem? (i := 3) rfl))) (mvT hZ (hw _ (List.mem_of_getElem? (i := 40) rfl))) (by decide) (backOf (W := 0) (rm5 l Z a0 hw [] b2 o1 k2 ko1 x0 x1 x2 x3 x4 x5 x6 (35747322042231467 : Int64) (36025922209447795 : Int64) (1084959616957103 : Int64) (7925923977987733 : Int64) (16551456537884751 : Int64) (23443114579904617 : Int64) (1829881462546425 : Int64) h87 n0 Z0_v1149 V24_v1158 V1r_v1159) hZ (hw _ (List.mem_of_getElem? (i := 40) rfl)) (hw _ (List.mem_of_getElem? (i := 3) rfl)) (by decide) (by decide)) (g := (mkF m 278 (LS_JsJsJsJsJsIJsRRRIuuuu q0 q1 q2 q3 q4 p5 (36028797018963967 : Int64) o1 b2 b25 (((p5.toUInt32 >>> ((7 : Int32) &&& 31).toUInt32).toInt32) &&& (3 : Int32))) [(.ref o1), (.ref b2)])) rfl (by rw [hml]; rfl) (argsL := [(.ref b2), (.ref o1)]) (rest := []) (lenOf pd___J_J__J rfl) rfl (by show 2 * 0 + _ ≤ _; exact Nat.le_of_eq rfl) (hb hby at_278) (fun _ _ => ⟨rfl, e87, (by decide : 3 + 1 ≤ _), (by decide : 21 + 7 ≤ _)⟩)
                      dsimp only [Pt.U, Pt.locs, Pt.cells, Pt.slots] at X1160 l1160 y1160 z1160 st1160 hQ1160
                      subst l1160 y1160 z1160
                      obtain ⟨o1160, ko1160, z1160_0, z1160_1, z1160_2, z1160_3, z1160_4, z1160_5, z1160_6, rfl, N1160q, hfr1160, K1160, V1160r, hz1160_0, hz1160_1, hz1160_2, hz1160_3, hz1160_4, hz1160_5, hz1160_6⟩ := hQ1160
                      have N1160 := Fr.app N87 N1160q
                      have g_o1160 : n0 ≤ o1160 := Nat.le_trans Z0_v1149 hfr1160
                      refine own_go (B := T1160.setTop (mkF m 281 (LS_JsJsJsJsJsIJsRRRIuuuu q0 q1 q2 q3 q4 p5 (36028797018963967 : Int64) o1 b2 b25 (((p5.toUInt32 >>> ((7 : Int32) &&& 31).toUInt32).toInt32) &&& (3 : Int32))) [(.ref o1160)])) (fun t k => st1160 _ k) ?_
                      refine own_go (B := T1160.setTop (mkF m 318 (LS_JsJsJsJsJsIJsRRRIRuuu q0 q1 q2 q3 q4 p5 (36028797018963967 : Int64) o1 b2 b25 (((p5.toUInt32 >>> ((7 : Int32) &&& 31).toUInt32).toInt32) &&& (3 : Int32)) o1160) [])) (fun t k => ?_) ?_
                      · show Steps p.tables e below (T1160.setTop (mkF m 281 (LS_JsJsJsJsJsIJsRRRIuuuu q0 q1 q2 q3 q4 p5 (36028797018963967 : Int64) o1 b2 b25 (((p5.toUInt32 >>> ((7 : Int32) &&& 31).toUInt32).toInt32) &&& (3 : Int32))) [(.ref o1160)])) _
                        refine XS.astore X1160.here hx rfl (hb hby at_281) rfl rfl (l' := (LS_JsJsJsJsJsIJsRRRIRuuu q0 q1 q2 q3 q4 p5 (36028797018963967 : Int64) o1 b2 b25 (((p5.toUInt32 >>> ((7 : Int32) &&& 31).toUInt32).toInt32) &&& (3 : Int32)) o1160)) rfl ?_
                        show Steps p.tables e below (T1160.setTop (mkF m 283 (LS_JsJsJsJsJsIJsRRRIRuuu q0 q1 q2 q3 q4 p5 (36028797018963967 : Int64) o1 b2 b25 (((p5.toUInt32 >>> ((7 : Int32) &&& 31).toUInt32).toInt32) &&& (3 : Int32)) o1160) [])) _
                        refine XS.goto X1160.here hx rfl (pc0 := 283) (pc' := 318) rfl (hb hby at_283) (by decide) (by decide) ?_
                        exact k
                      have Z0_v1161 := Nat.le_trans Z0_v1149 K1160.1
                      have V1r_v1162 := V1r_v1159.keep K1160 nin0
                      have S_Fp_P0_v1163 := own_sta_keep S_Fp_P0 K1 all0
                      have S_Fp_P0_v1164 := S_Fp_P0_v1163.ext E2
                      have S_Fp_P0_v1165 := S_Fp_P0_v1164.wr W6
                      have S_Fp_P0_v1166 := S_Fp_P0_v1165.wr W9
                      have S_Fp_P0_v1167 := S_Fp_P0_v1166.wr W12
                      have S_Fp_P0_v1168 := S_Fp_P0_v1167.wr W15
                      have S_Fp_P0_v1169 := S_Fp_P0_v1168.wr W18
                      have S_Fp_P0_v1170 := S_Fp_P0_v1169.wr W21
                      have S_Fp_P0_v1171 := S_Fp_P0_v1170.wr W24
                      have S_Fp_P0_v1172 := S_Fp_P0_v1171.ext E25
                      have S_Fp_P0_v1173 := S_Fp_P0_v1172.wr W47
                      have S_Fp_P0_v1174 := S_Fp_P0_v1173.wr W61
                      have S_Fp_P0_v1175 := S_Fp_P0_v1174.wr W67
                      have S_Fp_P0_v1176 := S_Fp_P0_v1175.wr W72
                      have S_Fp_P0_v1177 := S_Fp_P0_v1176.wr W77
                      have S_Fp_P0_v1178 := S_Fp_P0_v1177.wr W82
                      have S_Fp_P0_v1179 := S_Fp_P0_v1178.wr W87
                      have S_Fp_P0_v1180 := own_sta_keep S_Fp_P0_v1179 K1160 all0
                      have S_Fp_P1_v1181 := own_sta_keep S_Fp_P1 K1 all0
                      have S_Fp_P1_v1182 := S_Fp_P1_v1181.ext E2
                      have S_Fp_P1_v1183 := S_Fp_P1_v1182.wr W6
                      have S_Fp_P1_v1184 := S_Fp_P1_v1183.wr W9
                      have S_Fp_P1_v1185 := S_Fp_P1_v1184.wr W12
                      have S_Fp_P1_v1186 := S_Fp_P1_v1185.wr W15
                      have S_Fp_P1_v1187 := S_Fp_P1_v1186.wr W18
                      have S_Fp_P1_v1188 := S_Fp_P1_v1187.wr W21
                      have S_Fp_P1_v1189 := S_Fp_P1_v1188.wr W24
                      have S_Fp_P1_v1190 := S_Fp_P1_v1189.ext E25
                      have S_Fp_P1_v1191 := S_Fp_P1_v1190.wr W47
                      have S_Fp_P1_v1192 := S_Fp_P1_v1191.wr W61
                      have S_Fp_P1_v1193 := S_Fp_P1_v1192.wr W67
                      have S_Fp_P1_v1194 := S_Fp_P1_v1193.wr W72
                      have S_Fp_P1_v1195 := S_Fp_P1_v1194.wr W77
                      have S_Fp_P1_v1196 := S_Fp_P1_v1195.wr W82
                      have S_Fp_P1_v1197 := S_Fp_P1_v1196.wr W87
                      have S_Fp_P1_v1198 := own_sta_keep S_Fp_P1_v1197 K1160 all0
                      have S_Fp_P2_v1199 := own_sta_keep S_Fp_P2 K1 all0
                      have S_Fp_P2_v1200 := S_Fp_P2_v1199.ext E2
                      have S_Fp_P2_v1201 := S_Fp_P2_v1200.wr W6
                      have S_Fp_P2_v1202 := S_Fp_P2_v1201.wr W9
                      have S_Fp_P2_v1203 := S_Fp_P2_v1202.wr W12
                      have S_Fp_P2_v1204 := S_Fp_P2_v1203.wr W15
                      have S_Fp_P2_v1205 := S_Fp_P2_v1204.wr W18
                      have S_Fp_P2_v1206 := S_Fp_P2_v1205.wr W21
                      have S_Fp_P2_v1207 := S_Fp_P2_v1206.wr W24
                      have S_Fp_P2_v1208 := S_Fp_P2_v1207.ext E25
                      have S_Fp_P2_v1209 := S_Fp_P2_v1208.wr W47
                      have S_Fp_P2_v1210 := S_Fp_P2_v1209.wr W61
                      have S_Fp_P2_v1211 := S_Fp_P2_v1210.wr W67
                      have S_Fp_P2_v1212 := S_Fp_P2_v1211.wr W72
                      have S_Fp_P2_v1213 := S_Fp_P2_v1212.wr W77
                      have S_Fp_P2_v1214 := S_Fp_P2_v1213.wr W82
                      have S_Fp_P2_v1215 := S_Fp_P2_v1214.wr W87
                      have S_Fp_P2_v1216 := own_sta_keep S_Fp_P2_v1215 K1160 all0
                      have S_Fp_P3_v1217 := own_sta_keep S_Fp_P3 K1 all0
                      have S_Fp_P3_v1218 := S_Fp_P3_v1217.ext E2
                      have S_Fp_P3_v1219 := S_Fp_P3_v1218.wr W6
                      have S_Fp_P3_v1220 := S_Fp_P3_v1219.wr W9
                      have S_Fp_P3_v1221 := S_Fp_P3_v1220.wr W12
                      have S_Fp_P3_v1222 := S_Fp_P3_v1221.wr W15
                      have S_Fp_P3_v1223 := S_Fp_P3_v1222.wr W18
                      have S_Fp_P3_v1224 := S_Fp_P3_v1223.wr W21
                      have S_Fp_P3_v1225 := S_Fp_P3_v1224.wr W24
                      have S_Fp_P3_v1226 := S_Fp_P3_v1225.ext E25
                      have S_Fp_P3_v1227 := S_Fp_P3_v1226.wr W47
                      have S_Fp_P3_v1228 := S_Fp_P3_v1227.wr W61
                      have S_Fp_P3_v1229 := S_Fp_P3_v1228.wr W67
                      have S_Fp_P3_v1230 := S_Fp_P3_v1229.wr W72
                      have S_Fp_P3_v1231 := S_Fp_P3_v1230.wr W77
                      have S_Fp_P3_v1232 := S_Fp_P3_v1231.wr W82
                      have S_Fp_P3_v1233 := S_Fp_P3_v1232.wr W87
                      have S_Fp_P3_v1234 := own_sta_keep S_Fp_P3_v1233 K1160 all0
                      have S_Fp_P4_v1235 := own_sta_keep S_Fp_P4 K1 all0
                      have S_Fp_P4_v1236 := S_Fp_P4_v1235.ext E2
                      have S_Fp_P4_v1237 := S_Fp_P4_v1236.wr W6
                      have S_Fp_P4_v1238 := S_Fp_P4_v1237.wr W9
                      have S_Fp_P4_v1239 := S_Fp_P4_v1238.wr W12
                      have S_Fp_P4_v1240 := S_Fp_P4_v1239.wr W15
                      have S_Fp_P4_v1241 := S_Fp_P4_v1240.wr W18
                      have S_Fp_P4_v1242 := S_Fp_P4_v1241.wr W21
                      have S_Fp_P4_v1243 := S_Fp_P4_v1242.wr W24
                      have S_Fp_P4_v1244 := S_Fp_P4_v1243.ext E25
                      have S_Fp_P4_v1245 := S_Fp_P4_v1244.wr W47
                      have S_Fp_P4_v1246 := S_Fp_P4_v1245.wr W61
                      have S_Fp_P4_v1247 := S_Fp_P4_v1246.wr W67
                      have S_Fp_P4_v1248 := S_Fp_P4_v1247.wr W72
                      have S_Fp_P4_v1249 := S_Fp_P4_v1248.wr W77
                      have S_Fp_P4_v1250 := S_Fp_P4_v1249.wr W82
                      have S_Fp_P4_v1251 := S_Fp_P4_v1250.wr W87
                      have S_Fp_P4_v1252 := own_sta_keep S_Fp_P4_v1251 K1160 all0
                      have S_Fp_P5_v1253 := own_sta_keep S_Fp_P5 K1 all0
                      have S_Fp_P5_v1254 := S_Fp_P5_v1253.ext E2
                      have S_Fp_P5_v1255 := S_Fp_P5_v1254.wr W6
                      have S_Fp_P5_v1256 := S_Fp_P5_v1255.wr W9
                      have S_Fp_P5_v1257 := S_Fp_P5_v1256.wr W12
                      have S_Fp_P5_v1258 := S_Fp_P5_v1257.wr W15
                      have S_Fp_P5_v1259 := S_Fp_P5_v1258.wr W18
                      have S_Fp_P5_v1260 := S_Fp_P5_v1259.wr W21
                      have S_Fp_P5_v1261 := S_Fp_P5_v1260.wr W24
                      have S_Fp_P5_v1262 := S_Fp_P5_v1261.ext E25
                      have S_Fp_P5_v1263 := S_Fp_P5_v1262.wr W47
                      have S_Fp_P5_v1264 := S_Fp_P5_v1263.wr W61
                      have S_Fp_P5_v1265 := S_Fp_P5_v1264.wr W67
                      have S_Fp_P5_v1266 := S_Fp_P5_v1265.wr W72
                      have S_Fp_P5_v1267 := S_Fp_P5_v1266.wr W77
                      have S_Fp_P5_v1268 := S_Fp_P5_v1267.wr W82
                      have S_Fp_P5_v1269 := S_Fp_P5_v1268.wr W87
                      have S_Fp_P5_v1270 := own_sta_keep S_Fp_P5_v1269 K1160 all0
                      have S_Fp_P6_v1271 := own_sta_keep S_Fp_P6 K1 all0
                      have S_Fp_P6_v1272 := S_Fp_P6_v1271.ext E2
                      have S_Fp_P6_v1273 := S_Fp_P6_v1272.wr W6
                      have S_Fp_P6_v1274 := S_Fp_P6_v1273.wr W9
                      have S_Fp_P6_v1275 := S_Fp_P6_v1274.wr W12
                      have S_Fp_P6_v1276 := S_Fp_P6_v1275.wr W15
                      have S_Fp_P6_v1277 := S_Fp_P6_v1276.wr W18
                      have S_Fp_P6_v1278 := S_Fp_P6_v1277.wr W21
                      have S_Fp_P6_v1279 := S_Fp_P6_v1278.wr W24
                      have S_Fp_P6_v1280 := S_Fp_P6_v1279.ext E25
                      have S_Fp_P6_v1281 := S_Fp_P6_v1280.wr W47
                      have S_Fp_P6_v1282 := S_Fp_P6_v1281.wr W61
                      have S_Fp_P6_v1283 := S_Fp_P6_v1282.wr W67
                      have S_Fp_P6_v1284 := S_Fp_P6_v1283.wr W72
                      have S_Fp_P6_v1285 := S_Fp_P6_v1284.wr W77
                      have S_Fp_P6_v1286 := S_Fp_P6_v1285.wr W82
                      have S_Fp_P6_v1287 := S_Fp_P6_v1286.wr W87
                      have S_Fp_P6_v1288 := own_sta_keep S_Fp_P6_v1287 K1160 all0
                      exact rest88 o1160 _ _ (own_mono X1160 (by decide) (by decide)) N1160 (⟨ko1160, z1160_0, z1160_1, z1160_2, z1160_3, z1160_4, z1160_5, z1160_6, Z0_v1161, V1r_v1162, V1160r, hz1160_0, hz1160_1, hz1160_2, hz1160_3, hz1160_4, hz1160_5, hz1160_6, S_Fp_P0_v1180, S_Fp_P1_v1198, S_Fp_P2_v1216, S_Fp_P3_v1234, S_Fp_P4_v1252, S_Fp_P5_v1270, S_Fp_P6_v1288⟩)
                    · refine own_go (B := T87.setTop (mkF m 289 (LS_JsJsJsJsJsIJsRRRIuuuu q0 q1 q2 q3 q4 p5 (36028797018963967 : Int64) o1 b2 b25 (((p5.toUInt32 >>> ((7 : Int32) &&& 31).toUInt32).toInt32) &&& (3 : Int32))) [(.int (2 : Int32)), (.int (((p5.toUInt32 >>> ((7 : Int32) &&& 31).toUInt32).toInt32) &&& (3 : Int32)))])) (fun t k => ?_) ?_
                      · show Steps p.tables e below (T87.setTop (mkF m 271 (LS_JsJsJsJsJsIJsRRRIuuuu q0 q1 q2 q3 q4 p5 (36028797018963967 : Int64) o1 b2 b25 (((p5.toUInt32 >>> ((7 : Int32) &&& 31).toUInt32).toInt32) &&& (3 : Int32))) [(.int (1 : Int32)), (.int (((p5.toUInt32 >>> ((7 : Int32) &&& 31).toUInt32).toInt32) &&& (3 : Int32)))])) _
                        refine XS.icmpYes X87.here hx rfl (pc0 := 271) (pc' := 286) rfl (hb hby at_271) rfl (feq hc271_1141).2 (by decide) (by decide) ?_
                        show Steps p.tables e below (T87.setTop (mkF m 286 (LS_JsJsJsJsJsIJsRRRIuuuu q0 q1 q2 q3 q4 p5 (36028797018963967 : Int64) o1 b2 b25 (((p5.toUInt32 >>> ((7 : Int32) &&& 31).toUInt32).toInt32) &&& (3 : Int32))) [])) _
                        refine XS.iload X87.here hx rfl (hb hby at_286) rfl ?_
                        show Steps p.tables e below (T87.setTop (mkF m 288 (LS_JsJsJsJsJsIJsRRRIuuuu q0 q1 q2 q3 q4 p5 (36028797018963967 : Int64) o1 b2 b25 (((p5.toUInt32 >>> ((7 : Int32) &&& 31).toUInt32).toInt32) &&& (3 : Int32))) [(.int (((p5.toUInt32 >>> ((7 : Int32) &&& 31).toUInt32).toInt32) &&& (3 : Int32)))])) _
                        refine XS.iconst X87.here hx rfl (hb hby at_288) ?_
                        exact k
                      by_cases hc289_1289 : (((p5.toUInt32 >>> ((7 : Int32) &&& 31).toUInt32).toInt32) &&& (3 : Int32)) = (2 : Int32)
                      · refine own_go (B := T87.setTop (mkF m 296 (LS_JsJsJsJsJsIJsRRRIuuuu q0 q1 q2 q3 q4 p5 (36028797018963967 : Int64) o1 b2 b25 (((p5.toUInt32 >>> ((7 : Int32) &&& 31).toUInt32).toInt32) &&& (3 : Int32))) [(.ref b2), (.ref b25)])) (fun t k => ?_) ?_
                        · show Steps p.tables e below (T87.setTop (mkF m 289 (LS_JsJsJsJsJsIJsRRRIuuuu q0 q1 q2 q3 q4 p5 (36028797018963967 : Int64) o1 b2 b25 (((p5.toUInt32 >>> ((7 : Int32) &&& 31).toUInt32).toInt32) &&& (3 : Int32))) [(.int (2 : Int32)), (.int (((p5.toUInt32 >>> ((7 : Int32) &&& 31).toUInt32).toInt32) &&& (3 : Int32)))])) _
                          refine XS.icmpNo X87.here hx rfl (hb hby at_289) rfl (teq hc289_1289).2 ?_
                          show Steps p.tables e below (T87.setTop (mkF m 292 (LS_JsJsJsJsJsIJsRRRIuuuu q0 q1 q2 q3 q4 p5 (36028797018963967 : Int64) o1 b2 b25 (((p5.toUInt32 >>> ((7 : Int32) &&& 31).toUInt32).toInt32) &&& (3 : Int32))) [])) _
                          refine XS.aload X87.here hx rfl (hb hby at_292) rfl rfl ?_
                          show Steps p.tables e below (T87.setTop (mkF m 294 (LS_JsJsJsJsJsIJsRRRIuuuu q0 q1 q2 q3 q4 p5 (36028797018963967 : Int64) o1 b2 b25 (((p5.toUInt32 >>> ((7 : Int32) &&& 31).toUInt32).toInt32) &&& (3 : Int32))) [(.ref b25)])) _
                          refine XS.aload X87.here hx rfl (hb hby at_294) rfl rfl ?_
                          exact k
                        have Z0_v1290 := Nat.le_trans Z0_v33 E25.1
                        have Z0_v1291 := Nat.le_trans Z0_v1290 (Nat.le_of_eq W47.size.symm)
                        have Z0_v1292 := Nat.le_trans Z0_v1291 (Nat.le_of_eq W61.size.symm)
                        have Z0_v1293 := Nat.le_trans Z0_v1292 (Nat.le_of_eq W67.size.symm)
                        have Z0_v1294 := Nat.le_trans Z0_v1293 (Nat.le_of_eq W72.size.symm)
                        have Z0_v1295 := Nat.le_trans Z0_v1294 (Nat.le_of_eq W77.size.symm)
                        have Z0_v1296 := Nat.le_trans Z0_v1295 (Nat.le_of_eq W82.size.symm)
                        have Z0_v1297 := Nat.le_trans Z0_v1296 (Nat.le_of_eq W87.size.symm)
                        have V24_v1298 := V24.ext E25
                        have ne1300 : b2 ≠ b25 := Nat.ne_of_lt (Nat.lt_of_lt_of_le V24.lt (Nat.le_of_eq g25.symm))
                        have V24_v1299 := V24_v1298.other W47 ne1300
                        have V24_v1301 := V24_v1299.other W61 ne1300
                        have V24_v1302 := V24_v1301.other W67 ne1300
                        have V24_v1303 := V24_v1302.other W72 ne1300
                        have V24_v1304 := V24_v1303.other W77 ne1300
                        have V24_v1305 := V24_v1304.other W82 ne1300
                        have V24_v1306 := V24_v1305.other W87 ne1300
                        obtain ⟨_, _, ⟨T1307, L1307, k1307, n1307⟩, -, X1307, ⟨Lc1307, hQ1307, l1307, y1307, z1307⟩, st1307⟩ := Jvm.LawKit.callS X87 hx (y := (⟨"com/example/barred_rows/barredrows/crypto/FpIsZeroPinLaw", "sub", "([J[J)[J"⟩ : MethodName)) hown (mvT hZ (hw _ (List.mem_of_getElem? (i := 41) rfl))) (mvT hZ (hw _ (List.mem_of_getElem? (i := 42) rfl))) (mvT hZ (hw _ (List.mem_of_getElem? (i := 3) rfl))) (mvT hZ (hw _ (List.mem_of_getElem? (i := 43) rfl))) (by decide) (backOf (W := 0) (rm6 l Z a0 hw [] b25 b2 k25 k2 (35747322042231466 : Int64) (36025922209447795 : Int64) (1084959616957103 : Int64) (7925923977987733 : Int64) (16551456537884751 : Int64) (23443114579904617 : Int64) (1829881462546425 : Int64) x0 x1 x2 x3 x4 x5 x6 h87 n0 Z0_v1297 V87 V24_v1306) hZ (hw _ (List.mem_of_getElem? (i := 43) rfl)) (hw _ (List.mem_of_getElem? (i := 3) rfl)) (by decide) (by decide)) (g := (mkF m 296 (LS_JsJsJsJsJsIJsRRRIuuuu q0 q1 q2 q3 q4 p5 (36028797018963967 : Int64) o1 b2 b25 (((p5.toUInt32 >>> ((7 : Int32) &&& 31).toUInt32).toInt32) &&& (3 : Int32))) [(.ref b2), (.ref b25)])) rfl (by rw [hml]; rfl) (argsL := [(.ref b25), (.ref b2)]) (rest := []) (lenOf pd___J_J__J rfl) rfl (by show 2 * 0 + _ ≤ _; exact Nat.le_of_eq rfl) (hb hby at_296) (fun _ _ => ⟨rfl, e87, (by decide : 3 + 1 ≤ _), (by decide : 21 + 7 ≤ _)⟩)
                        dsimp only [Pt.U, Pt.locs, Pt.cells, Pt.slots] at X1307 l1307 y1307 z1307 st1307 hQ1307
                        subst l1307 y1307 z1307
                        obtain ⟨o1307, ko1307, z1307_0, z1307_1, z1307_2, z1307_3, z1307_4, z1307_5, z1307_6, rfl, N1307q, hfr1307, K1307, V1307r, hz1307_0, hz1307_1, hz1307_2, hz1307_3, hz1307_4, hz1307_5, hz1307_6⟩ := hQ1307
                        have N1307 := Fr.app N87 N1307q
                        have g_o1307 : n0 ≤ o1307 := Nat.le_trans Z0_v1297 hfr1307
                        refine own_go (B := T1307.setTop (mkF m 299 (LS_JsJsJsJsJsIJsRRRIuuuu q0 q1 q2 q3 q4 p5 (36028797018963967 : Int64) o1 b2 b25 (((p5.toUInt32 >>> ((7 : Int32) &&& 31).toUInt32).toInt32) &&& (3 : Int32))) [(.ref o1307)])) (fun t k => st1307 _ k) ?_
                        refine own_go (B := T1307.setTop (mkF m 318 (LS_JsJsJsJsJsIJsRRRIRuuu q0 q1 q2 q3 q4 p5 (36028797018963967 : Int64) o1 b2 b25 (((p5.toUInt32 >>> ((7 : Int32) &&& 31).toUInt32).toInt32) &&& (3 : Int32)) o1307) [])) (fun t k => ?_) ?_
                        · show Steps p.tables e below (T1307.setTop (mkF m 299 (LS_JsJsJsJsJsIJsRRRIuuuu q0 q1 q2 q3 q4 p5 (36028797018963967 : Int64) o1 b2 b25 (((p5.toUInt32 >>> ((7 : Int32) &&& 31).toUInt32).toInt32) &&& (3 : Int32))) [(.ref o1307)])) _
                          refine XS.astore X1307.here hx rfl (hb hby at_299) rfl rfl (l' := (LS_JsJsJsJsJsIJsRRRIRuuu q0 q1 q2 q3 q4 p5 (36028797018963967 : Int64) o1 b2 b25 (((p5.toUInt32 >>> ((7 : Int32) &&& 31).toUInt32).toInt32) &&& (3 : Int32)) o1307)) rfl ?_
                          show Steps p.tables e below (T1307.setTop (mkF m 301 (LS_JsJsJsJsJsIJsRRRIRuuu q0 q1 q2 q3 q4 p5 (36028797018963967 : Int64) o1 b2 b25 (((p5.toUInt32 >>> ((7 : Int32) &&& 31).toUInt32).toInt32) &&& (3 : Int32)) o1307) [])) _
                          refine XS.goto X1307.here hx rfl (pc0 := 301) (pc' := 318) rfl (hb hby at_301) (by decide) (by decide) ?_
                          exact k
                        have Z0_v1308 := Nat.le_trans Z0_v1297 K1307.1
                        have V1r_v1309 := V1r_v84.other W87 ne58
                        have V1r_v1310 := V1r_v1309.keep K1307 nin0
                        have S_Fp_P0_v1311 := own_sta_keep S_Fp_P0 K1 all0
                        have S_Fp_P0_v1312 := S_Fp_P0_v1311.ext E2
                        have S_Fp_P0_v1313 := S_Fp_P0_v1312.wr W6
                        have S_Fp_P0_v1314 := S_Fp_P0_v1313.wr W9
                        have S_Fp_P0_v1315 := S_Fp_P0_v1314.wr W12
                        have S_Fp_P0_v1316 := S_Fp_P0_v1315.wr W15
                        have S_Fp_P0_v1317 := S_Fp_P0_v1316.wr W18
                        have S_Fp_P0_v1318 := S_Fp_P0_v1317.wr W21
                        have S_Fp_P0_v1319 := S_Fp_P0_v1318.wr W24
                        have S_Fp_P0_v1320 := S_Fp_P0_v1319.ext E25
                        have S_Fp_P0_v1321 := S_Fp_P0_v1320.wr W47
                        have S_Fp_P0_v1322 := S_Fp_P0_v1321.wr W61
                        have S_Fp_P0_v1323 := S_Fp_P0_v1322.wr W67
                        have S_Fp_P0_v1324 := S_Fp_P0_v1323.wr W72
                        have S_Fp_P0_v1325 := S_Fp_P0_v1324.wr W77
                        have S_Fp_P0_v1326 := S_Fp_P0_v1325.wr W82
                        have S_Fp_P0_v1327 := S_Fp_P0_v1326.wr W87
                        have S_Fp_P0_v1328 := own_sta_keep S_Fp_P0_v1327 K1307 all0
                        have S_Fp_P1_v1329 := own_sta_keep S_Fp_P1 K1 all0
                        have S_Fp_P1_v1330 := S_Fp_P1_v1329.ext E2
                        have S_Fp_P1_v1331 := S_Fp_P1_v1330.wr W6
                        have S_Fp_P1_v1332 := S_Fp_P1_v1331.wr W9
                        have S_Fp_P1_v1333 := S_Fp_P1_v1332.wr W12
                        have S_Fp_P1_v1334 := S_Fp_P1_v1333.wr W15
                        have S_Fp_P1_v1335 := S_Fp_P1_v1334.wr W18
                        have S_Fp_P1_v1336 := S_Fp_P1_v1335.wr W21
                        have S_Fp_P1_v1337 := S_Fp_P1_v1336.wr W24
                        have S_Fp_P1_v1338 := S_Fp_P1_v1337.ext E25
                        have S_Fp_P1_v1339 := S_Fp_P1_v1338.wr W47
                        have S_Fp_P1_v1340 := S_Fp_P1_v1339.wr W61
                        have S_Fp_P1_v1341 := S_Fp_P1_v1340.wr W67
                        have S_Fp_P1_v1342 := S_Fp_P1_v1341.wr W72
                        have S_Fp_P1_v1343 := S_Fp_P1_v1342.wr W77
                        have S_Fp_P1_v1344 := S_Fp_P1_v1343.wr W82
                        have S_Fp_P1_v1345 := S_Fp_P1_v1344.wr W87
                        have S_Fp_P1_v1346 := own_sta_keep S_Fp_P1_v1345 K1307 all0
                        have S_Fp_P2_v1347 := own_sta_keep S_Fp_P2 K1 all0
                        have S_Fp_P2_v1348 := S_Fp_P2_v1347.ext E2
                        have S_Fp_P2_v1349 := S_Fp_P2_v1348.wr W6
                        have S_Fp_P2_v1350 := S_Fp_P2_v1349.wr W9
                        have S_Fp_P2_v1351 := S_Fp_P2_v1350.wr W12
                        have S_Fp_P2_v1352 := S_Fp_P2_v1351.wr W15
                        have S_Fp_P2_v1353 := S_Fp_P2_v1352.wr W18
                        have S_Fp_P2_v1354 := S_Fp_P2_v1353.wr W21
                        have S_Fp_P2_v1355 := S_Fp_P2_v1354.wr W24
                        have S_Fp_P2_v1356 := S_Fp_P2_v1355.ext E25
                        have S_Fp_P2_v1357 := S_Fp_P2_v1356.wr W47
                        have S_Fp_P2_v1358 := S_Fp_P2_v1357.wr W61
                        have S_Fp_P2_v1359 := S_Fp_P2_v1358.wr W67
                        have S_Fp_P2_v1360 := S_Fp_P2_v1359.wr W72
                        have S_Fp_P2_v1361 := S_Fp_P2_v1360.wr W77
                        have S_Fp_P2_v1362 := S_Fp_P2_v1361.wr W82
                        have S_Fp_P2_v1363 := S_Fp_P2_v1362.wr W87
                        have S_Fp_P2_v1364 := own_sta_keep S_Fp_P2_v1363 K1307 all0
                        have S_Fp_P3_v1365 := own_sta_keep S_Fp_P3 K1 all0
                        have S_Fp_P3_v1366 := S_Fp_P3_v1365.ext E2
                        have S_Fp_P3_v1367 := S_Fp_P3_v1366.wr W6
                        have S_Fp_P3_v1368 := S_Fp_P3_v1367.wr W9
                        have S_Fp_P3_v1369 := S_Fp_P3_v1368.wr W12
                        have S_Fp_P3_v1370 := S_Fp_P3_v1369.wr W15
                        have S_Fp_P3_v1371 := S_Fp_P3_v1370.wr W18
                        have S_Fp_P3_v1372 := S_Fp_P3_v1371.wr W21
                        have S_Fp_P3_v1373 := S_Fp_P3_v1372.wr W24
                        have S_Fp_P3_v1374 := S_Fp_P3_v1373.ext E25
                        have S_Fp_P3_v1375 := S_Fp_P3_v1374.wr W47
                        have S_Fp_P3_v1376 := S_Fp_P3_v1375.wr W61
                        have S_Fp_P3_v1377 := S_Fp_P3_v1376.wr W67
                        have S_Fp_P3_v1378 := S_Fp_P3_v1377.wr W72
                        have S_Fp_P3_v1379 := S_Fp_P3_v1378.wr W77
                        have S_Fp_P3_v1380 := S_Fp_P3_v1379.wr W82
                        have S_Fp_P3_v1381 := S_Fp_P3_v1380.wr W87
                        have S_Fp_P3_v1382 := own_sta_keep S_Fp_P3_v1381 K1307 all0
                        have S_Fp_P4_v1383 := own_sta_keep S_Fp_P4 K1 all0
                        have S_Fp_P4_v1384 := S_Fp_P4_v1383.ext E2
                        have S_Fp_P4_v1385 := S_Fp_P4_v1384.wr W6
                        have S_Fp_P4_v1386 := S_Fp_P4_v1385.wr W9
                        have S_Fp_P4_v1387 := S_Fp_P4_v1386.wr W12
                        have S_Fp_P4_v1388 := S_Fp_P4_v1387.wr W15
                        have S_Fp_P4_v1389 := S_Fp_P4_v1388.wr W18
                        have S_Fp_P4_v1390 := S_Fp_P4_v1389.wr W21
                        have S_Fp_P4_v1391 := S_Fp_P4_v1390.wr W24
                        have S_Fp_P4_v1392 := S_Fp_P4_v1391.ext E25
                        have S_Fp_P4_v1393 := S_Fp_P4_v1392.wr W47
                        have S_Fp_P4_v1394 := S_Fp_P4_v1393.wr W61
                        have S_Fp_P4_v1395 := S_Fp_P4_v1394.wr W67
                        have S_Fp_P4_v1396 := S_Fp_P4_v1395.wr W72
                        have S_Fp_P4_v1397 := S_Fp_P4_v1396.wr W77
                        have S_Fp_P4_v1398 := S_Fp_P4_v1397.wr W82
                        have S_Fp_P4_v1399 := S_Fp_P4_v1398.wr W87
                        have S_Fp_P4_v1400 := own_sta_keep S_Fp_P4_v1399 K1307 all0
                        have S_Fp_P5_v1401 := own_sta_keep S_Fp_P5 K1 all0
                        have S_Fp_P5_v1402 := S_Fp_P5_v1401.ext E2
                        have S_Fp_P5_v1403 := S_Fp_P5_v1402.wr W6
                        have S_Fp_P5_v1404 := S_Fp_P5_v1403.wr W9
                        have S_Fp_P5_v1405 := S_Fp_P5_v1404.wr W12
                        have S_Fp_P5_v1406 := S_Fp_P5_v1405.wr W15
                        have S_Fp_P5_v1407 := S_Fp_P5_v1406.wr W18
                        have S_Fp_P5_v1408 := S_Fp_P5_v1407.wr W21
                        have S_Fp_P5_v1409 := S_Fp_P5_v1408.wr W24
                        have S_Fp_P5_v1410 := S_Fp_P5_v1409.ext E25
                        have S_Fp_P5_v1411 := S_Fp_P5_v1410.wr W47
                        have S_Fp_P5_v1412 := S_Fp_P5_v1411.wr W61
                        have S_Fp_P5_v1413 := S_Fp_P5_v1412.wr W67
                        have S_Fp_P5_v1414 := S_Fp_P5_v1413.wr W72
                        have S_Fp_P5_v1415 := S_Fp_P5_v1414.wr W77
                        have S_Fp_P5_v1416 := S_Fp_P5_v1415.wr W82
                        have S_Fp_P5_v1417 := S_Fp_P5_v1416.wr W87
                        have S_Fp_P5_v1418 := own_sta_keep S_Fp_P5_v1417 K1307 all0
                        have S_Fp_P6_v1419 := own_sta_keep S_Fp_P6 K1 all0
                        have S_Fp_P6_v1420 := S_Fp_P6_v1419.ext E2
                        have S_Fp_P6_v1421 := S_Fp_P6_v1420.wr W6
                        have S_Fp_P6_v1422 := S_Fp_P6_v1421.wr W9
                        have S_Fp_P6_v1423 := S_Fp_P6_v1422.wr W12
                        have S_Fp_P6_v1424 := S_Fp_P6_v1423.wr W15
                        have S_Fp_P6_v1425 := S_Fp_P6_v1424.wr W18
                        have S_Fp_P6_v1426 := S_Fp_P6_v1425.wr W21
                        have S_Fp_P6_v1427 := S_Fp_P6_v1426.wr W24
                        have S_Fp_P6_v1428 := S_Fp_P6_v1427.ext E25
                        have S_Fp_P6_v1429 := S_Fp_P6_v1428.wr W47
                        have S_Fp_P6_v1430 := S_Fp_P6_v1429.wr W61
                        have S_Fp_P6_v1431 := S_Fp_P6_v1430.wr W67
                        have S_Fp_P6_v1432 := S_Fp_P6_v1431.wr W72
                        have S_Fp_P6_v1433 := S_Fp_P6_v1432.wr W77
                        have S_Fp_P6_v1434 := S_Fp_P6_v1433.wr W82
                        have S_Fp_P6_v1435 := S_Fp_P6_v1434.wr W87
                        have S_Fp_P6_v1436 := own_sta_keep S_Fp_P6_v1435 K1307 all0
                        exact rest88 o1307 _ _ (own_mono X1307 (by decide) (by decide)) N1307 (⟨ko1307, z1307_0, z1307_1, z1307_2, z1307_3, z1307_4, z1307_5, z1307_6, Z0_v1308, V1r_v1310, V1307r, hz1307_0, hz1307_1, hz1307_2, hz1307_3, hz1307_4, hz1307_5, hz1307_6, S_Fp_P0_v1328, S_Fp_P1_v1346, S_Fp_P2_v1364, S_Fp_P3_v1382, S_Fp_P4_v1400, S_Fp_P5_v1418, S_Fp_P6_v1436⟩)
                      · refine own_go (B := T87.setTop (mkF m 308 (LS_JsJsJsJsJsIJsRRRIuuuu q0 q1 q2 q3 q4 p5 (36028797018963967 : Int64) o1 b2 b25 (((p5.toUInt32 >>> ((7 : Int32) &&& 31).toUInt32).toInt32) &&& (3 : Int32))) [(.ref b25), (.ref o1)])) (fun t k => ?_) ?_
                        · show Steps p.tables e below (T87.setTop (mkF m 289 (LS_JsJsJsJsJsIJsRRRIuuuu q0 q1 q2 q3 q4 p5 (36028797018963967 : Int64) o1 b2 b25 (((p5.toUInt32 >>> ((7 : Int32) &&& 31).toUInt32).toInt32) &&& (3 : Int32))) [(.int (2 : Int32)), (.int (((p5.toUInt32 >>> ((7 : Int32) &&& 31).toUInt32).toInt32) &&& (3 : Int32)))])) _
                          refine XS.icmpYes X87.here hx rfl (pc0 := 289) (pc' := 304) rfl (hb hby at_289) rfl (feq hc289_1289).2 (by decide) (by decide) ?_
                          show Steps p.tables e below (T87.setTop (mkF m 304 (LS_JsJsJsJsJsIJsRRRIuuuu q0 q1 q2 q3 q4 p5 (36028797018963967 : Int64) o1 b2 b25 (((p5.toUInt32 >>> ((7 : Int32) &&& 31).toUInt32).toInt32) &&& (3 : Int32))) [])) _
                          refine XS.aload X87.here hx rfl (hb hby at_304) rfl rfl ?_
                          show Steps p.tables e below (T87.setTop (mkF m 306 (LS_JsJsJsJsJsIJsRRRIuuuu q0 q1 q2 q3 q4 p5 (36028797018963967 : Int64) o1 b2 b25 (((p5.toUInt32 >>> ((7 : Int32) &&& 31).toUInt32).toInt32) &&& (3 : Int32))) [(.ref o1)])) _
                          refine XS.aload X87.here hx rfl (hb hby at_306) rfl rfl ?_
                          exact k
                        have Z0_v1437 := Nat.le_trans Z0_v33 E25.1
                        have Z0_v1438 := Nat.le_trans Z0_v1437 (Nat.le_of_eq W47.size.symm)
                        have Z0_v1439 := Nat.le_trans Z0_v1438 (Nat.le_of_eq W61.size.symm)
                        have Z0_v1440 := Nat.le_trans Z0_v1439 (Nat.le_of_eq W67.size.symm)
                        have Z0_v1441 := Nat.le_trans Z0_v1440 (Nat.le_of_eq W72.size.symm)
                        have Z0_v1442 := Nat.le_trans Z0_v1441 (Nat.le_of_eq W77.size.symm)
                        have Z0_v1443 := Nat.le_trans Z0_v1442 (Nat.le_of_eq W82.size.symm)
                        have Z0_v1444 := Nat.le_trans Z0_v1443 (Nat.le_of_eq W87.size.symm)
                        have V1r_v1445 := V1r_v84.other W87 ne58
                        obtain ⟨_, _, ⟨T1446, L1446, k1446, n1446⟩, -, X1446, ⟨Lc1446, hQ1446, l1446, y1446, z1446⟩, st1446⟩ := Jvm.LawKit.callS X87 hx (y := (⟨"com/example/barred_rows/barredrows/crypto/FpIsZeroPinLaw", "add", "([J[J)[J"⟩ : MethodName)) hown (mvT hZ (hw _ (List.mem_of_getElem? (i := 38) rfl))) (mvT hZ (hw _ (List.mem_of_getElem? (i := 39) rfl))) (mvT hZ (hw _ (List.mem_of_getElem? (i := 3) rfl))) (mvT hZ (hw _ (List.mem_of_getElem? (i := 40) rfl))) (by decide) (backOf (W := 0) (rm5 l Z a0 hw [] o1 b25 ko1 k25 (35747322042231467 : Int64) (36025922209447795 : Int64) (1084959616957103 : Int64) (7925923977987733 : Int64) (16551456537884751 : Int64) (23443114579904617 : Int64) (1829881462546425 : Int64) (35747322042231466 : Int64) (36025922209447795 : Int64) (1084959616957103 : Int64) (7925923977987733 : Int64) (16551456537884751 : Int64) (23443114579904617 : Int64) (1829881462546425 : Int64) h87 n0 Z0_v1444 V1r_v1445 V87) hZ (hw _ (List.mem_of_getElem? (i := 40) rfl)) (hw _ (List.mem_of_getElem? (i := 3) rfl)) (by decide) (by decide)) (g := (mkF m 308 (LS_JsJsJsJsJsIJsRRRIuuuu q0 q1 q2 q3 q4 p5 (36028797018963967 : Int64) o1 b2 b25 (((p5.toUInt32 >>> ((7 : Int32) &&& 31).toUInt32).toInt32) &&& (3 : Int32))) [(.ref b25), (.ref o1)])) rfl (by rw [hml]; rfl) (argsL := [(.ref o1), (.ref b25)]) (rest := []) (lenOf pd___J_J__J rfl) rfl (by show 2 * 0 + _ ≤ _; exact Nat.le_of_eq rfl) (hb hby at_308) (fun _ _ => ⟨rfl, e87, (by decide : 3 + 1 ≤ _), (by decide : 21 + 7 ≤ _)⟩)
                        dsimp only [Pt.U, Pt.locs, Pt.cells, Pt.slots] at X1446 l1446 y1446 z1446 st1446 hQ1446
                        subst l1446 y1446 z1446
                        obtain ⟨o1446, ko1446, z1446_0, z1446_1, z1446_2, z1446_3, z1446_4, z1446_5, z1446_6, rfl, N1446q, hfr1446, K1446, V1446r, hz1446_0, hz1446_1, hz1446_2, hz1446_3, hz1446_4, hz1446_5, hz1446_6⟩ := hQ1446
                        have N1446 := Fr.app N87 N1446q
                        have g_o1446 : n0 ≤ o1446 := Nat.le_trans Z0_v1444 hfr1446
                        refine own_go (B := T1446.setTop (mkF m 311 (LS_JsJsJsJsJsIJsRRRIuuuu q0 q1 q2 q3 q4 p5 (36028797018963967 : Int64) o1 b2 b25 (((p5.toUInt32 >>> ((7 : Int32) &&& 31).toUInt32).toInt32) &&& (3 : Int32))) [(.ref o1446)])) (fun t k => st1446 _ k) ?_
                        refine own_go (B := T1446.setTop (mkF m 313 (LS_JsJsJsJsJsIJsRRRIuuuu q0 q1 q2 q3 q4 p5 (36028797018963967 : Int64) o1 b2 b25 (((p5.toUInt32 >>> ((7 : Int32) &&& 31).toUInt32).toInt32) &&& (3 : Int32))) [(.ref b2), (.ref o1446)])) (fun t k => ?_) ?_
                        · show Steps p.tables e below (T1446.setTop (mkF m 311 (LS_JsJsJsJsJsIJsRRRIuuuu q0 q1 q2 q3 q4 p5 (36028797018963967 : Int64) o1 b2 b25 (((p5.toUInt32 >>> ((7 : Int32) &&& 31).toUInt32).toInt32) &&& (3 : Int32))) [(.ref o1446)])) _
                          refine XS.aload X1446.here hx rfl (hb hby at_311) rfl rfl ?_
                          exact k
                        have Z0_v1447 := Nat.le_trans Z0_v1444 K1446.1
                        have V24_v1448 := V24.ext E25
                        have ne1450 : b2 ≠ b25 := Nat.ne_of_lt (Nat.lt_of_lt_of_le V24.lt (Nat.le_of_eq g25.symm))
                        have V24_v1449 := V24_v1448.other W47 ne1450
                        have V24_v1451 := V24_v1449.other W61 ne1450
                        have V24_v1452 := V24_v1451.other W67 ne1450
                        have V24_v1453 := V24_v1452.other W72 ne1450
                        have V24_v1454 := V24_v1453.other W77 ne1450
                        have V24_v1455 := V24_v1454.other W82 ne1450
                        have V24_v1456 := V24_v1455.other W87 ne1450
                        have V24_v1457 := V24_v1456.keep K1446 nin0
                        obtain ⟨_, _, ⟨T1458, L1458, k1458, n1458⟩, -, X1458, ⟨Lc1458, hQ1458, l1458, y1458, z1458⟩, st1458⟩ := Jvm.LawKit.callS X1446 hx (y := (⟨"com/example/barred_rows/barredrows/crypto/FpIsZeroPinLaw", "sub", "([J[J)[J"⟩ : MethodName)) hown (mvT hZ (hw _ (List.mem_of_getElem? (i := 41) rfl))) (mvT hZ (hw _ (List.mem_of_getElem? (i := 42) rfl))) (mvT hZ (hw _ (List.mem_of_getElem? (i := 3) rfl))) (mvT hZ (hw _ (List.mem_of_getElem? (i := 43) rfl))) (by decide) (backOf (W := 0) (rm6 l Z a0 hw [] o1446 b2 ko1446 k2 z1446_0 z1446_1 z1446_2 z1446_3 z1446_4 z1446_5 z1446_6 x0 x1 x2 x3 x4 x5 x6 T1446.heap n0 Z0_v1447 V1446r V24_v1457) hZ (hw _ (List.mem_of_getElem? (i := 43) rfl)) (hw _ (List.mem_of_getElem? (i := 3) rfl)) (by decide) (by decide)) (g := (mkF m 313 (LS_JsJsJsJsJsIJsRRRIuuuu q0 q1 q2 q3 q4 p5 (36028797018963967 : Int64) o1 b2 b25 (((p5.toUInt32 >>> ((7 : Int32) &&& 31).toUInt32).toInt32) &&& (3 : Int32))) [(.ref b2), (.ref o1446)])) rfl (by rw [hml]; rfl) (argsL := [(.ref o1446), (.ref b2)]) (rest := []) (lenOf pd___J_J__J rfl) rfl (by show 2 * 0 + _ ≤ _; exact Nat.le_of_eq rfl) (hb hby at_313) (fun _ _ => ⟨rfl, rfl, (by decide : 4 + 1 ≤ _), (by decide : 28 + 7 ≤ _)⟩)
                        dsimp only [Pt.U, Pt.locs, Pt.cells, Pt.slots] at X1458 l1458 y1458 z1458 st1458 hQ1458
                        subst l1458 y1458 z1458
                        obtain ⟨o1458, ko1458, z1458_0, z1458_1, z1458_2, z1458_3, z1458_4, z1458_5, z1458_6, rfl, N1458q, hfr1458, K1458, V1458r, hz1458_0, hz1458_1, hz1458_2, hz1458_3, hz1458_4, hz1458_5, hz1458_6⟩ := hQ1458
                        have N1458 := Fr.app N1446 N1458q
                        have g_o1458 : n0 ≤ o1458 := Nat.le_trans Z0_v1447 hfr1458
                        refine own_go (B := T1458.setTop (mkF m 316 (LS_JsJsJsJsJsIJsRRRIuuuu q0 q1 q2 q3 q4 p5 (36028797018963967 : Int64) o1 b2 b25 (((p5.toUInt32 >>> ((7 : Int32) &&& 31).toUInt32).toInt32) &&& (3 : Int32))) [(.ref o1458)])) (fun t k => st1458 _ k) ?_
                        refine own_go (B := T1458.setTop (mkF m 318 (LS_JsJsJsJsJsIJsRRRIRuuu q0 q1 q2 q3 q4 p5 (36028797018963967 : Int64) o1 b2 b25 (((p5.toUInt32 >>> ((7 : Int32) &&& 31).toUInt32).toInt32) &&& (3 : Int32)) o1458) [])) (fun t k => ?_) ?_
                        · show Steps p.tables e below (T1458.setTop (mkF m 316 (LS_JsJsJsJsJsIJsRRRIuuuu q0 q1 q2 q3 q4 p5 (36028797018963967 : Int64) o1 b2 b25 (((p5.toUInt32 >>> ((7 : Int32) &&& 31).toUInt32).toInt32) &&& (3 : Int32))) [(.ref o1458)])) _
                          refine XS.astore X1458.here hx rfl (hb hby at_316) rfl rfl (l' := (LS_JsJsJsJsJsIJsRRRIRuuu q0 q1 q2 q3 q4 p5 (36028797018963967 : Int64) o1 b2 b25 (((p5.toUInt32 >>> ((7 : Int32) &&& 31).toUInt32).toInt32) &&& (3 : Int32)) o1458)) rfl ?_
                          exact k
                        have Z0_v1459 := Nat.le_trans Z0_v1447 K1458.1
                        have V1r_v1460 := V1r_v1445.keep K1446 nin0
                        have V1r_v1461 := V1r_v1460.keep K1458 nin0
                        have S_Fp_P0_v1462 := own_sta_keep S_Fp_P0 K1 all0
                        have S_Fp_P0_v1463 := S_Fp_P0_v1462.ext E2
                        have S_Fp_P0_v1464 := S_Fp_P0_v1463.wr W6
                        have S_Fp_P0_v1465 := S_Fp_P0_v1464.wr W9
                        have S_Fp_P0_v1466 := S_Fp_P0_v1465.wr W12
                        have S_Fp_P0_v1467 := S_Fp_P0_v1466.wr W15
                        have S_Fp_P0_v1468 := S_Fp_P0_v1467.wr W18
                        have S_Fp_P0_v1469 := S_Fp_P0_v1468.wr W21
                        have S_Fp_P0_v1470 := S_Fp_P0_v1469.wr W24
                        have S_Fp_P0_v1471 := S_Fp_P0_v1470.ext E25
                        have S_Fp_P0_v1472 := S_Fp_P0_v1471.wr W47
                        have S_Fp_P0_v1473 := S_Fp_P0_v1472.wr W61
                        have S_Fp_P0_v1474 := S_Fp_P0_v1473.wr W67
                        have S_Fp_P0_v1475 := S_Fp_P0_v1474.wr W72
                        have S_Fp_P0_v1476 := S_Fp_P0_v1475.wr W77
                        have S_Fp_P0_v1477 := S_Fp_P0_v1476.wr W82
                        have S_Fp_P0_v1478 := S_Fp_P0_v1477.wr W87
                        have S_Fp_P0_v1479 := own_sta_keep S_Fp_P0_v1478 K1446 all0
                        have S_Fp_P0_v1480 := own_sta_keep S_Fp_P0_v1479 K1458 all0
                        have S_Fp_P1_v1481 := own_sta_keep S_Fp_P1 K1 all0
                        have S_Fp_P1_v1482 := S_Fp_P1_v1481.ext E2
                        have S_Fp_P1_v1483 := S_Fp_P1_v1482.wr W6
                        have S_Fp_P1_v1484 := S_Fp_P1_v1483.wr W9
                        have S_Fp_P1_v1485 := S_Fp_P1_v1484.wr W12
                        have S_Fp_P1_v1486 := S_Fp_P1_v1485.wr W15
                        have S_Fp_P1_v1487 := S_Fp_P1_v1486.wr W18
                        have S_Fp_P1_v1488 := S_Fp_P1_v1487.wr W21
                        have S_Fp_P1_v1489 := S_Fp_P1_v1488.wr W24
                        have S_Fp_P1_v1490 := S_Fp_P1_v1489.ext E25
                        have S_Fp_P1_v1491 := S_Fp_P1_v1490.wr W47
                        have S_Fp_P1_v1492 := S_Fp_P1_v1491.wr W61
                        have S_Fp_P1_v1493 := S_Fp_P1_v1492.wr W67
                        have S_Fp_P1_v1494 := S_Fp_P1_v1493.wr W72
                        have S_Fp_P1_v1495 := S_Fp_P1_v1494.wr W77
                        have S_Fp_P1_v1496 := S_Fp_P1_v1495.wr W82
                        have S_Fp_P1_v1497 := S_Fp_P1_v1496.wr W87
                        have S_Fp_P1_v1498 := own_sta_keep S_Fp_P1_v1497 K1446 all0
                        have S_Fp_P1_v1499 := own_sta_keep S_Fp_P1_v1498 K1458 all0
                        have S_Fp_P2_v1500 := own_sta_keep S_Fp_P2 K1 all0
                        have S_Fp_P2_v1501 := S_Fp_P2_v1500.ext E2
                        have S_Fp_P2_v1502 := S_Fp_P2_v1501.wr W6
                        have S_Fp_P2_v1503 := S_Fp_P2_v1502.wr W9
                        have S_Fp_P2_v1504 := S_Fp_P2_v1503.wr W12
                        have S_Fp_P2_v1505 := S_Fp_P2_v1504.wr W15
                        have S_Fp_P2_v1506 := S_Fp_P2_v1505.wr W18
                        have S_Fp_P2_v1507 := S_Fp_P2_v1506.wr W21
                        have S_Fp_P2_v1508 := S_Fp_P2_v1507.wr W24
                        have S_Fp_P2_v1509 := S_Fp_P2_v1508.ext E25
                        have S_Fp_P2_v1510 := S_Fp_P2_v1509.wr W47
                        have S_Fp_P2_v1511 := S_Fp_P2_v1510.wr W61
                        have S_Fp_P2_v1512 := S_Fp_P2_v1511.wr W67
                        have S_Fp_P2_v1513 := S_Fp_P2_v1512.wr W72
                        have S_Fp_P2_v1514 := S_Fp_P2_v1513.wr W77
                        have S_Fp_P2_v1515 := S_Fp_P2_v1514.wr W82
                        have S_Fp_P2_v1516 := S_Fp_P2_v1515.wr W87
                        have S_Fp_P2_v1517 := own_sta_keep S_Fp_P2_v1516 K1446 all0
                        have S_Fp_P2_v1518 := own_sta_keep S_Fp_P2_v1517 K1458 all0
                        have S_Fp_P3_v1519 := own_sta_keep S_Fp_P3 K1 all0
                        have S_Fp_P3_v1520 := S_Fp_P3_v1519.ext E2
                        have S_Fp_P3_v1521 := S_Fp_P3_v1520.wr W6
                        have S_Fp_P3_v1522 := S_Fp_P3_v1521.wr W9
                        have S_Fp_P3_v1523 := S_Fp_P3_v1522.wr W12
                        have S_Fp_P3_v1524 := S_Fp_P3_v1523.wr W15
                        have S_Fp_P3_v1525 := S_Fp_P3_v1524.wr W18
                        have S_Fp_P3_v1526 := S_Fp_P3_v1525.wr W21
                        have S_Fp_P3_v1527 := S_Fp_P3_v1526.wr W24
                        have S_Fp_P3_v1528 := S_Fp_P3_v1527.ext E25
                        have S_Fp_P3_v1529 := S_Fp_P3_v1528.wr W47
                        have S_Fp_P3_v1530 := S_Fp_P3_v1529.wr W61
                        have S_Fp_P3_v1531 := S_Fp_P3_v1530.wr W67
                        have S_Fp_P3_v1532 := S_Fp_P3_v1531.wr W72
                        have S_Fp_P3_v1533 := S_Fp_P3_v1532.wr W77
                        have S_Fp_P3_v1534 := S_Fp_P3_v1533.wr W82
                        have S_Fp_P3_v1535 := S_Fp_P3_v1534.wr W87
                        have S_Fp_P3_v1536 := own_sta_keep S_Fp_P3_v1535 K1446 all0
                        have S_Fp_P3_v1537 := own_sta_keep S_Fp_P3_v1536 K1458 all0
                        have S_Fp_P4_v1538 := own_sta_keep S_Fp_P4 K1 all0
                        have S_Fp_P4_v1539 := S_Fp_P4_v1538.ext E2
                        have S_Fp_P4_v1540 := S_Fp_P4_v1539.wr W6
                        have S_Fp_P4_v1541 := S_Fp_P4_v1540.wr W9
                        have S_Fp_P4_v1542 := S_Fp_P4_v1541.wr W12
                        have S_Fp_P4_v1543 := S_Fp_P4_v1542.wr W15
                        have S_Fp_P4_v1544 := S_Fp_P4_v1543.wr W18
                        have S_Fp_P4_v1545 := S_Fp_P4_v1544.wr W21
                        have S_Fp_P4_v1546 := S_Fp_P4_v1545.wr W24
                        have S_Fp_P4_v1547 := S_Fp_P4_v1546.ext E25
                        have S_Fp_P4_v1548 := S_Fp_P4_v1547.wr W47
                        have S_Fp_P4_v1549 := S_Fp_P4_v1548.wr W61
                        have S_Fp_P4_v1550 := S_Fp_P4_v1549.wr W67
                        have S_Fp_P4_v1551 := S_Fp_P4_v1550.wr W72
                        have S_Fp_P4_v1552 := S_Fp_P4_v1551.wr W77
                        have S_Fp_P4_v1553 := S_Fp_P4_v1552.wr W82
                        have S_Fp_P4_v1554 := S_Fp_P4_v1553.wr W87
                        have S_Fp_P4_v1555 := own_sta_keep S_Fp_P4_v1554 K1446 all0
                        have S_Fp_P4_v1556 := own_sta_keep S_Fp_P4_v1555 K1458 all0
                        have S_Fp_P5_v1557 := own_sta_keep S_Fp_P5 K1 all0
                        have S_Fp_P5_v1558 := S_Fp_P5_v1557.ext E2
                        have S_Fp_P5_v1559 := S_Fp_P5_v1558.wr W6
                        have S_Fp_P5_v1560 := S_Fp_P5_v1559.wr W9
                        have S_Fp_P5_v1561 := S_Fp_P5_v1560.wr W12
                        have S_Fp_P5_v1562 := S_Fp_P5_v1561.wr W15
                        have S_Fp_P5_v1563 := S_Fp_P5_v1562.wr W18
                        have S_Fp_P5_v1564 := S_Fp_P5_v1563.wr W21
                        have S_Fp_P5_v1565 := S_Fp_P5_v1564.wr W24
                        have S_Fp_P5_v1566 := S_Fp_P5_v1565.ext E25
                        have S_Fp_P5_v1567 := S_Fp_P5_v1566.wr W47
                        have S_Fp_P5_v1568 := S_Fp_P5_v1567.wr W61
                        have S_Fp_P5_v1569 := S_Fp_P5_v1568.wr W67
                        have S_Fp_P5_v1570 := S_Fp_P5_v1569.wr W72
                        have S_Fp_P5_v1571 := S_Fp_P5_v1570.wr W77
                        have S_Fp_P5_v1572 := S_Fp_P5_v1571.wr W82
                        have S_Fp_P5_v1573 := S_Fp_P5_v1572.wr W87
                        have S_Fp_P5_v1574 := own_sta_keep S_Fp_P5_v1573 K1446 all0
                        have S_Fp_P5_v1575 := own_sta_keep S_Fp_P5_v1574 K1458 all0
                        have S_Fp_P6_v1576 := own_sta_keep S_Fp_P6 K1 all0
                        have S_Fp_P6_v1577 := S_Fp_P6_v1576.ext E2
                        have S_Fp_P6_v1578 := S_Fp_P6_v1577.wr W6
                        have S_Fp_P6_v1579 := S_Fp_P6_v1578.wr W9
                        have S_Fp_P6_v1580 := S_Fp_P6_v1579.wr W12
                        have S_Fp_P6_v1581 := S_Fp_P6_v1580.wr W15
                        have S_Fp_P6_v1582 := S_Fp_P6_v1581.wr W18
                        have S_Fp_P6_v1583 := S_Fp_P6_v1582.wr W21
                        have S_Fp_P6_v1584 := S_Fp_P6_v1583.wr W24
                        have S_Fp_P6_v1585 := S_Fp_P6_v1584.ext E25
                        have S_Fp_P6_v1586 := S_Fp_P6_v1585.wr W47
                        have S_Fp_P6_v1587 := S_Fp_P6_v1586.wr W61
                        have S_Fp_P6_v1588 := S_Fp_P6_v1587.wr W67
                        have S_Fp_P6_v1589 := S_Fp_P6_v1588.wr W72
                        have S_Fp_P6_v1590 := S_Fp_P6_v1589.wr W77
                        have S_Fp_P6_v1591 := S_Fp_P6_v1590.wr W82
                        have S_Fp_P6_v1592 := S_Fp_P6_v1591.wr W87
                        have S_Fp_P6_v1593 := own_sta_keep S_Fp_P6_v1592 K1446 all0
                        have S_Fp_P6_v1594 := own_sta_keep S_Fp_P6_v1593 K1458 all0
                        exact rest88 o1458 _ _ (own_mono X1458 (by decide) (by decide)) N1458 (⟨ko1458, z1458_0, z1458_1, z1458_2, z1458_3, z1458_4, z1458_5, z1458_6, Z0_v1459, V1r_v1461, V1458r, hz1458_0, hz1458_1, hz1458_2, hz1458_3, hz1458_4, hz1458_5, hz1458_6, S_Fp_P0_v1480, S_Fp_P1_v1499, S_Fp_P2_v1518, S_Fp_P3_v1537, S_Fp_P4_v1556, S_Fp_P5_v1575, S_Fp_P6_v1594⟩)
              · intro rest22
                refine own_go (B := T21.setTop (mkF m 156 (LS_JsJsJsJsJsIJsRRuuuuuu q0 q1 q2 q3 q4 p5 (36028797018963967 : Int64) o1 b2) [(.int (p5 &&& (64 : Int32))), (.int (6 : Int32)), (.ref b2)])) (fun t k => ?_) ?_
                · show Steps p.tables e below (T21.setTop (mkF m 151 (LS_JsJsJsJsJsIJsRRuuuuuu q0 q1 q2 q3 q4 p5 (36028797018963967 : Int64) o1 b2) [(.int (6 : Int32)), (.ref b2)])) _
                  refine XS.iload X21.here hx rfl (hb hby at_151) rfl ?_
                  show Steps p.tables e below (T21.setTop (mkF m 153 (LS_JsJsJsJsJsIJsRRuuuuuu q0 q1 q2 q3 q4 p5 (36028797018963967 : Int64) o1 b2) [(.int p5), (.int (6 : Int32)), (.ref b2)])) _
                  refine XS.bipush X21.here hx rfl (hb hby at_153) ?_
                  show Steps p.tables e below (T21.setTop (mkF m 155 (LS_JsJsJsJsJsIJsRRuuuuuu q0 q1 q2 q3 q4 p5 (36028797018963967 : Int64) o1 b2) [(.int (64 : Int32)), (.int p5), (.int (6 : Int32)), (.ref b2)])) _
                  refine XS.iand X21.here hx rfl (hb hby at_155) rfl ?_
                  exact k
                by_cases hc156_1595 : (p5 &&& (64 : Int32)) = (0 : Int32)
                · refine own_go (B := T21.setTop (mkF m 180 (LS_JsJsJsJsJsIJsRRuuuuuu q0 q1 q2 q3 q4 p5 (36028797018963967 : Int64) o1 b2) [(.long (0 : Int64)), (.int (6 : Int32)), (.ref b2)])) (fun t k => ?_) ?_
                  · show Steps p.tables e below (T21.setTop (mkF m 156 (LS_JsJsJsJsJsIJsRRuuuuuu q0 q1 q2 q3 q4 p5 (36028797018963967 : Int64) o1 b2) [(.int (p5 &&& (64 : Int32))), (.int (6 : Int32)), (.ref b2)])) _
                    refine XS.ifYes X21.here hx rfl (pc0 := 156) (pc' := 179) rfl (hb hby at_156) rfl ((if0 _ _).trans (teq hc156_1595).1) (by decide) (by decide) ?_
                    show Steps p.tables e below (T21.setTop (mkF m 179 (LS_JsJsJsJsJsIJsRRuuuuuu q0 q1 q2 q3 q4 p5 (36028797018963967 : Int64) o1 b2) [(.int (6 : Int32)), (.ref b2)])) _
                    refine XS.lconst X21.here hx rfl (hb hby at_179) ?_
                    exact k
                  exact rest22 (0 : Int64) _ X21 ⟨e21, own_zrng⟩
                · have V1r_v1597 := V1r.ext E2
                  have ne1599 : o1 ≠ b2 := Nat.ne_of_lt (Nat.lt_of_lt_of_le V1r.lt (Nat.le_of_eq g2.symm))
                  have V1r_v1598 := V1r_v1597.other W6 ne1599
                  have V1r_v1600 := V1r_v1598.other W9 ne1599
                  have V1r_v1601 := V1r_v1600.other W12 ne1599
                  have V1r_v1602 := V1r_v1601.other W15 ne1599
                  have V1r_v1603 := V1r_v1602.other W18 ne1599
                  have V1r_v1604 := V1r_v1603.other W21 ne1599
                  obtain ⟨cl1596, Ar1596, qa1596, Sa1596, Na1596, Ha1596, Ga1596⟩ := id V1r_v1604
                  have hin1605 : ¬ ((6 : Int32) < 0 ∨ cl1596.slots.size ≤ ((6 : Int32)).toNatClampNeg) := inb_of Sa1596 ⟨by decide, by decide⟩
                  have hat1605 : cl1596.slots[((6 : Int32)).toNatClampNeg]? = some (.long (1829881462546425 : Int64)) := Has.at Ha1596 hin1605 rfl
                  refine own_go (B := T21.setTop (mkF m 180 (LS_JsJsJsJsJsIJsRRuuuuuu q0 q1 q2 q3 q4 p5 (36028797018963967 : Int64) o1 b2) [(.long (((q3 ^^^ ((q4.toUInt64 >>> ((9 : Int32) &&& 0x3f).toInt64.toUInt64).toInt64)) &&& (36028797018963967 : Int64)) - (((q3 ^^^ ((q4.toUInt64 >>> ((9 : Int32) &&& 0x3f).toInt64.toUInt64).toInt64)) &&& (36028797018963967 : Int64)) / (1829881462546425 : Int64)) * (1829881462546425 : Int64))), (.int (6 : Int32)), (.ref b2)])) (fun t k => ?_) ?_
                  · show Steps p.tables e below (T21.setTop (mkF m 156 (LS_JsJsJsJsJsIJsRRuuuuuu q0 q1 q2 q3 q4 p5 (36028797018963967 : Int64) o1 b2) [(.int (p5 &&& (64 : Int32))), (.int (6 : Int32)), (.ref b2)])) _
                    refine XS.ifNo X21.here hx rfl (hb hby at_156) rfl ((if0 _ _).trans (feq hc156_1595).1) ?_
                    show Steps p.tables e below (T21.setTop (mkF m 159 (LS_JsJsJsJsJsIJsRRuuuuuu q0 q1 q2 q3 q4 p5 (36028797018963967 : Int64) o1 b2) [(.int (6 : Int32)), (.ref b2)])) _
                    refine XS.lload X21.here hx rfl (hb hby at_159) rfl ?_
                    show Steps p.tables e below (T21.setTop (mkF m 161 (LS_JsJsJsJsJsIJsRRuuuuuu q0 q1 q2 q3 q4 p5 (36028797018963967 : Int64) o1 b2) [(.long q3), (.int (6 : Int32)), (.ref b2)])) _
                    refine XS.lload X21.here hx rfl (hb hby at_161) rfl ?_
                    show Steps p.tables e below (T21.setTop (mkF m 163 (LS_JsJsJsJsJsIJsRRuuuuuu q0 q1 q2 q3 q4 p5 (36028797018963967 : Int64) o1 b2) [(.long q4), (.long q3), (.int (6 : Int32)), (.ref b2)])) _
                    refine XS.bipush X21.here hx rfl (hb hby at_163) ?_
                    show Steps p.tables e below (T21.setTop (mkF m 165 (LS_JsJsJsJsJsIJsRRuuuuuu q0 q1 q2 q3 q4 p5 (36028797018963967 : Int64) o1 b2) [(.int (9 : Int32)), (.long q4), (.long q3), (.int (6 : Int32)), (.ref b2)])) _
                    refine XS.lushr X21.here hx rfl (hb hby at_165) rfl ?_
                    show Steps p.tables e below (T21.setTop (mkF m 166 (LS_JsJsJsJsJsIJsRRuuuuuu q0 q1 q2 q3 q4 p5 (36028797018963967 : Int64) o1 b2) [(.long ((q4.toUInt64 >>> ((9 : Int32) &&& 0x3f).toInt64.toUInt64).toInt64)), (.long q3), (.int (6 : Int32)), (.ref b2)])) _
                    refine XS.lxor X21.here hx rfl (hb hby at_166) rfl ?_
                    show Steps p.tables e below (T21.setTop (mkF m 167 (LS_JsJsJsJsJsIJsRRuuuuuu q0 q1 q2 q3 q4 p5 (36028797018963967 : Int64) o1 b2) [(.long (q3 ^^^ ((q4.toUInt64 >>> ((9 : Int32) &&& 0x3f).toInt64.toUInt64).toInt64))), (.int (6 : Int32)), (.ref b2)])) _
                    refine XS.lload X21.here hx rfl (hb hby at_167) rfl ?_
                    show Steps p.tables e below (T21.setTop (mkF m 169 (LS_JsJsJsJsJsIJsRRuuuuuu q0 q1 q2 q3 q4 p5 (36028797018963967 : Int64) o1 b2) [(.long (36028797018963967 : Int64)), (.long (q3 ^^^ ((q4.toUInt64 >>> ((9 : Int32) &&& 0x3f).toInt64.toUInt64).toInt64))), (.int (6 : Int32)), (.ref b2)])) _
                    refine XS.land X21.here hx rfl (hb hby at_169) rfl ?_
                    show Steps p.tables e below (T21.setTop (mkF m 170 (LS_JsJsJsJsJsIJsRRuuuuuu q0 q1 q2 q3 q4 p5 (36028797018963967 : Int64) o1 b2) [(.long ((q3 ^^^ ((q4.toUInt64 >>> ((9 : Int32) &&& 0x3f).toInt64.toUInt64).toInt64)) &&& (36028797018963967 : Int64))), (.int (6 : Int32)), (.ref b2)])) _
                    refine XS.aload X21.here hx rfl (hb hby at_170) rfl rfl ?_
                    show Steps p.tables e below (T21.setTop (mkF m 172 (LS_JsJsJsJsJsIJsRRuuuuuu q0 q1 q2 q3 q4 p5 (36028797018963967 : Int64) o1 b2) [(.ref o1), (.long ((q3 ^^^ ((q4.toUInt64 >>> ((9 : Int32) &&& 0x3f).toInt64.toUInt64).toInt64)) &&& (36028797018963967 : Int64))), (.int (6 : Int32)), (.ref b2)])) _
                    refine XS.bipush X21.here hx rfl (hb hby at_172) ?_
                    show Steps p.tables e below (T21.setTop (mkF m 174 (LS_JsJsJsJsJsIJsRRuuuuuu q0 q1 q2 q3 q4 p5 (36028797018963967 : Int64) o1 b2) [(.int (6 : Int32)), (.ref o1), (.long ((q3 ^^^ ((q4.toUInt64 >>> ((9 : Int32) &&& 0x3f).toInt64.toUInt64).toInt64)) &&& (36028797018963967 : Int64))), (.int (6 : Int32)), (.ref b2)])) _
                    refine X21.laload hx (j := (6 : Int32)) (v := (.long (1829881462546425 : Int64))) (by rw [e21]; exact Ar1596.1) (State.isArrayOf_alike hZ.alike Ar1596.2.1) Ar1596.2.2 hin1605 hat1605 (g := (mkF m 174 (LS_JsJsJsJsJsIJsRRuuuuuu q0 q1 q2 q3 q4 p5 (36028797018963967 : Int64) o1 b2) [(.int (6 : Int32)), (.ref o1), (.long ((q3 ^^^ ((q4.toUInt64 >>> ((9 : Int32) &&& 0x3f).toInt64.toUInt64).toInt64)) &&& (36028797018963967 : Int64))), (.int (6 : Int32)), (.ref b2)])) rfl rfl (hb hby at_174) _ ?_
                    show Steps p.tables e below (T21.setTop (mkF m 175 (LS_JsJsJsJsJsIJsRRuuuuuu q0 q1 q2 q3 q4 p5 (36028797018963967 : Int64) o1 b2) [(.long (1829881462546425 : Int64)), (.long ((q3 ^^^ ((q4.toUInt64 >>> ((9 : Int32) &&& 0x3f).toInt64.toUInt64).toInt64)) &&& (36028797018963967 : Int64))), (.int (6 : Int32)), (.ref b2)])) _
                    refine XS.lrem X21.here hx rfl (hb hby at_175) rfl (by decide) ?_
                    show Steps p.tables e below (T21.setTop (mkF m 176 (LS_JsJsJsJsJsIJsRRuuuuuu q0 q1 q2 q3 q4 p5 (36028797018963967 : Int64) o1 b2) [(.long (((q3 ^^^ ((q4.toUInt64 >>> ((9 : Int32) &&& 0x3f).toInt64.toUInt64).toInt64)) &&& (36028797018963967 : Int64)) - (((q3 ^^^ ((q4.toUInt64 >>> ((9 : Int32) &&& 0x3f).toInt64.toUInt64).toInt64)) &&& (36028797018963967 : Int64)) / (1829881462546425 : Int64)) * (1829881462546425 : Int64))), (.int (6 : Int32)), (.ref b2)])) _
                    refine XS.goto X21.here hx rfl (pc0 := 176) (pc' := 180) rfl (hb hby at_176) (by decide) (by decide) ?_
                    exact k
                  exact rest22 (((q3 ^^^ ((q4.toUInt64 >>> ((9 : Int32) &&& 0x3f).toInt64.toUInt64).toInt64)) &&& (36028797018963967 : Int64)) - (((q3 ^^^ ((q4.toUInt64 >>> ((9 : Int32) &&& 0x3f).toInt64.toUInt64).toInt64)) &&& (36028797018963967 : Int64)) / (1829881462546425 : Int64)) * (1829881462546425 : Int64)) _ X21 ⟨e21, own_remrng _⟩
            · intro rest19
              refine own_go (B := T18.setTop (mkF m 124 (LS_JsJsJsJsJsIJsRRuuuuuu q0 q1 q2 q3 q4 p5 (36028797018963967 : Int64) o1 b2) [(.int (p5 &&& (32 : Int32))), (.int (5 : Int32)), (.ref b2)])) (fun t k => ?_) ?_
              · show Steps p.tables e below (T18.setTop (mkF m 119 (LS_JsJsJsJsJsIJsRRuuuuuu q0 q1 q2 q3 q4 p5 (36028797018963967 : Int64) o1 b2) [(.int (5 : Int32)), (.ref b2)])) _
                refine XS.iload X18.here hx rfl (hb hby at_119) rfl ?_
                show Steps p.tables e below (T18.setTop (mkF m 121 (LS_JsJsJsJsJsIJsRRuuuuuu q0 q1 q2 q3 q4 p5 (36028797018963967 : Int64) o1 b2) [(.int p5), (.int (5 : Int32)), (.ref b2)])) _
                refine XS.bipush X18.here hx rfl (hb hby at_121) ?_
                show Steps p.tables e below (T18.setTop (mkF m 123 (LS_JsJsJsJsJsIJsRRuuuuuu q0 q1 q2 q3 q4 p5 (36028797018963967 : Int64) o1 b2) [(.int (32 : Int32)), (.int p5), (.int (5 : Int32)), (.ref b2)])) _
                refine XS.iand X18.here hx rfl (hb hby at_123) rfl ?_
                exact k
              by_cases hc124_1606 : (p5 &&& (32 : Int32)) = (0 : Int32)
              · refine own_go (B := T18.setTop (mkF m 146 (LS_JsJsJsJsJsIJsRRuuuuuu q0 q1 q2 q3 q4 p5 (36028797018963967 : Int64) o1 b2) [(.long (0 : Int64)), (.int (5 : Int32)), (.ref b2)])) (fun t k => ?_) ?_
                · show Steps p.tables e below (T18.setTop (mkF m 124 (LS_JsJsJsJsJsIJsRRuuuuuu q0 q1 q2 q3 q4 p5 (36028797018963967 : Int64) o1 b2) [(.int (p5 &&& (32 : Int32))), (.int (5 : Int32)), (.ref b2)])) _
                  refine XS.ifYes X18.here hx rfl (pc0 := 124) (pc' := 145) rfl (hb hby at_124) rfl ((if0 _ _).trans (teq hc124_1606).1) (by decide) (by decide) ?_
                  show Steps p.tables e below (T18.setTop (mkF m 145 (LS_JsJsJsJsJsIJsRRuuuuuu q0 q1 q2 q3 q4 p5 (36028797018963967 : Int64) o1 b2) [(.int (5 : Int32)), (.ref b2)])) _
                  refine XS.lconst X18.here hx rfl (hb hby at_145) ?_
                  exact k
                exact rest19 (0 : Int64) _ X18 ⟨e18, own_zrng⟩
              · refine own_go (B := T18.setTop (mkF m 146 (LS_JsJsJsJsJsIJsRRuuuuuu q0 q1 q2 q3 q4 p5 (36028797018963967 : Int64) o1 b2) [(.long (((q0 ^^^ ((q1.toUInt64 >>> ((9 : Int32) &&& 0x3f).toInt64.toUInt64).toInt64)) ^^^ ((q2.toUInt64 >>> ((18 : Int32) &&& 0x3f).toInt64.toUInt64).toInt64)) &&& (36028797018963967 : Int64))), (.int (5 : Int32)), (.ref b2)])) (fun t k => ?_) ?_
                · show Steps p.tables e below (T18.setTop (mkF m 124 (LS_JsJsJsJsJsIJsRRuuuuuu q0 q1 q2 q3 q4 p5 (36028797018963967 : Int64) o1 b2) [(.int (p5 &&& (32 : Int32))), (.int (5 : Int32)), (.ref b2)])) _
                  refine XS.ifNo X18.here hx rfl (hb hby at_124) rfl ((if0 _ _).trans (feq hc124_1606).1) ?_
                  show Steps p.tables e below (T18.setTop (mkF m 127 (LS_JsJsJsJsJsIJsRRuuuuuu q0 q1 q2 q3 q4 p5 (36028797018963967 : Int64) o1 b2) [(.int (5 : Int32)), (.ref b2)])) _
                  refine XS.lloadN X18.here hx rfl (hb hby at_127) rfl ?_
                  show Steps p.tables e below (T18.setTop (mkF m 128 (LS_JsJsJsJsJsIJsRRuuuuuu q0 q1 q2 q3 q4 p5 (36028797018963967 : Int64) o1 b2) [(.long q0), (.int (5 : Int32)), (.ref b2)])) _
                  refine XS.lloadN X18.here hx rfl (hb hby at_128) rfl ?_
                  show Steps p.tables e below (T18.setTop (mkF m 129 (LS_JsJsJsJsJsIJsRRuuuuuu q0 q1 q2 q3 q4 p5 (36028797018963967 : Int64) o1 b2) [(.long q1), (.long q0), (.int (5 : Int32)), (.ref b2)])) _
                  refine XS.bipush X18.here hx rfl (hb hby at_129) ?_
                  show Steps p.tables e below (T18.setTop (mkF m 131 (LS_JsJsJsJsJsIJsRRuuuuuu q0 q1 q2 q3 q4 p5 (36028797018963967 : Int64) o1 b2) [(.int (9 : Int32)), (.long q1), (.long q0), (.int (5 : Int32)), (.ref b2)])) _
                  refine XS.lushr X18.here hx rfl (hb hby at_131) rfl ?_
                  show Steps p.tables e below (T18.setTop (mkF m 132 (LS_JsJsJsJsJsIJsRRuuuuuu q0 q1 q2 q3 q4 p5 (36028797018963967 : Int64) o1 b2) [(.long ((q1.toUInt64 >>> ((9 : Int32) &&& 0x3f).toInt64.toUInt64).toInt64)), (.long q0), (.int (5 : Int32)), (.ref b2)])) _
                  refine XS.lxor X18.here hx rfl (hb hby at_132) rfl ?_
                  show Steps p.tables e below (T18.setTop (mkF m 133 (LS_JsJsJsJsJsIJsRRuuuuuu q0 q1 q2 q3 q4 p5 (36028797018963967 : Int64) o1 b2) [(.long (q0 ^^^ ((q1.toUInt64 >>> ((9 : Int32) &&& 0x3f).toInt64.toUInt64).toInt64))), (.int (5 : Int32)), (.ref b2)])) _
                  refine XS.lload X18.here hx rfl (hb hby at_133) rfl ?_
                  show Steps p.tables e below (T18.setTop (mkF m 135 (LS_JsJsJsJsJsIJsRRuuuuuu q0 q1 q2 q3 q4 p5 (36028797018963967 : Int64) o1 b2) [(.long q2), (.long (q0 ^^^ ((q1.toUInt64 >>> ((9 : Int32) &&& 0x3f).toInt64.toUInt64).toInt64))), (.int (5 : Int32)), (.ref b2)])) _
                  refine XS.bipush X18.here hx rfl (hb hby at_135) ?_
                  show Steps p.tables e below (T18.setTop (mkF m 137 (LS_JsJsJsJsJsIJsRRuuuuuu q0 q1 q2 q3 q4 p5 (36028797018963967 : Int64) o1 b2) [(.int (18 : Int32)), (.long q2), (.long (q0 ^^^ ((q1.toUInt64 >>> ((9 : Int32) &&& 0x3f).toInt64.toUInt64).toInt64))), (.int (5 : Int32)), (.ref b2)])) _
                  refine XS.lushr X18.here hx rfl (hb hby at_137) rfl ?_
                  show Steps p.tables e below (T18.setTop (mkF m 138 (LS_JsJsJsJsJsIJsRRuuuuuu q0 q1 q2 q3 q4 p5 (36028797018963967 : Int64) o1 b2) [(.long ((q2.toUInt64 >>> ((18 : Int32) &&& 0x3f).toInt64.toUInt64).toInt64)), (.long (q0 ^^^ ((q1.toUInt64 >>> ((9 : Int32) &&& 0x3f).toInt64.toUInt64).toInt64))), (.int (5 : Int32)), (.ref b2)])) _
                  refine XS.lxor X18.here hx rfl (hb hby at_138) rfl ?_
                  show Steps p.tables e below (T18.setTop (mkF m 139 (LS_JsJsJsJsJsIJsRRuuuuuu q0 q1 q2 q3 q4 p5 (36028797018963967 : Int64) o1 b2) [(.long ((q0 ^^^ ((q1.toUInt64 >>> ((9 : Int32) &&& 0x3f).toInt64.toUInt64).toInt64)) ^^^ ((q2.toUInt64 >>> ((18 : Int32) &&& 0x3f).toInt64.toUInt64).toInt64))), (.int (5 : Int32)), (.ref b2)])) _
                  refine XS.lload X18.here hx rfl (hb hby at_139) rfl ?_
                  show Steps p.tables e below (T18.setTop (mkF m 141 (LS_JsJsJsJsJsIJsRRuuuuuu q0 q1 q2 q3 q4 p5 (36028797018963967 : Int64) o1 b2) [(.long (36028797018963967 : Int64)), (.long ((q0 ^^^ ((q1.toUInt64 >>> ((9 : Int32) &&& 0x3f).toInt64.toUInt64).toInt64)) ^^^ ((q2.toUInt64 >>> ((18 : Int32) &&& 0x3f).toInt64.toUInt64).toInt64))), (.int (5 : Int32)), (.ref b2)])) _
                  refine XS.land X18.here hx rfl (hb hby at_141) rfl ?_
                  show Steps p.tables e below (T18.setTop (mkF m 142 (LS_JsJsJsJsJsIJsRRuuuuuu q0 q1 q2 q3 q4 p5 (36028797018963967 : Int64) o1 b2) [(.long (((q0 ^^^ ((q1.toUInt64 >>> ((9 : Int32) &&& 0x3f).toInt64.toUInt64).toInt64)) ^^^ ((q2.toUInt64 >>> ((18 : Int32) &&& 0x3f).toInt64.toUInt64).toInt64)) &&& (36028797018963967 : Int64))), (.int (5 : Int32)), (.ref b2)])) _
                  refine XS.goto X18.here hx rfl (pc0 := 142) (pc' := 146) rfl (hb hby at_142) (by decide) (by decide) ?_
                  exact k
                exact rest19 (((q0 ^^^ ((q1.toUInt64 >>> ((9 : Int32) &&& 0x3f).toInt64.toUInt64).toInt64)) ^^^ ((q2.toUInt64 >>> ((18 : Int32) &&& 0x3f).toInt64.toUInt64).toInt64)) &&& (36028797018963967 : Int64)) _ X18 ⟨e18, own_mrng _⟩
          · intro rest16
            refine own_go (B := T15.setTop (mkF m 103 (LS_JsJsJsJsJsIJsRRuuuuuu q0 q1 q2 q3 q4 p5 (36028797018963967 : Int64) o1 b2) [(.int (p5 &&& (16 : Int32))), (.int (4 : Int32)), (.ref b2)])) (fun t k => ?_) ?_
            · show Steps p.tables e below (T15.setTop (mkF m 98 (LS_JsJsJsJsJsIJsRRuuuuuu q0 q1 q2 q3 q4 p5 (36028797018963967 : Int64) o1 b2) [(.int (4 : Int32)), (.ref b2)])) _
              refine XS.iload X15.here hx rfl (hb hby at_98) rfl ?_
              show Steps p.tables e below (T15.setTop (mkF m 100 (LS_JsJsJsJsJsIJsRRuuuuuu q0 q1 q2 q3 q4 p5 (36028797018963967 : Int64) o1 b2) [(.int p5), (.int (4 : Int32)), (.ref b2)])) _
              refine XS.bipush X15.here hx rfl (hb hby at_100) ?_
              show Steps p.tables e below (T15.setTop (mkF m 102 (LS_JsJsJsJsJsIJsRRuuuuuu q0 q1 q2 q3 q4 p5 (36028797018963967 : Int64) o1 b2) [(.int (16 : Int32)), (.int p5), (.int (4 : Int32)), (.ref b2)])) _
              refine XS.iand X15.here hx rfl (hb hby at_102) rfl ?_
              exact k
            by_cases hc103_1607 : (p5 &&& (16 : Int32)) = (0 : Int32)
            · refine own_go (B := T15.setTop (mkF m 115 (LS_JsJsJsJsJsIJsRRuuuuuu q0 q1 q2 q3 q4 p5 (36028797018963967 : Int64) o1 b2) [(.long (0 : Int64)), (.int (4 : Int32)), (.ref b2)])) (fun t k => ?_) ?_
              · show Steps p.tables e below (T15.setTop (mkF m 103 (LS_JsJsJsJsJsIJsRRuuuuuu q0 q1 q2 q3 q4 p5 (36028797018963967 : Int64) o1 b2) [(.int (p5 &&& (16 : Int32))), (.int (4 : Int32)), (.ref b2)])) _
                refine XS.ifYes X15.here hx rfl (pc0 := 103) (pc' := 114) rfl (hb hby at_103) rfl ((if0 _ _).trans (teq hc103_1607).1) (by decide) (by decide) ?_
                show Steps p.tables e below (T15.setTop (mkF m 114 (LS_JsJsJsJsJsIJsRRuuuuuu q0 q1 q2 q3 q4 p5 (36028797018963967 : Int64) o1 b2) [(.int (4 : Int32)), (.ref b2)])) _
                refine XS.lconst X15.here hx rfl (hb hby at_114) ?_
                exact k
              exact rest16 (0 : Int64) _ X15 ⟨e15, own_zrng⟩
            · refine own_go (B := T15.setTop (mkF m 115 (LS_JsJsJsJsJsIJsRRuuuuuu q0 q1 q2 q3 q4 p5 (36028797018963967 : Int64) o1 b2) [(.long (q4 &&& (36028797018963967 : Int64))), (.int (4 : Int32)), (.ref b2)])) (fun t k => ?_) ?_
              · show Steps p.tables e below (T15.setTop (mkF m 103 (LS_JsJsJsJsJsIJsRRuuuuuu q0 q1 q2 q3 q4 p5 (36028797018963967 : Int64) o1 b2) [(.int (p5 &&& (16 : Int32))), (.int (4 : Int32)), (.ref b2)])) _
                refine XS.ifNo X15.here hx rfl (hb hby at_103) rfl ((if0 _ _).trans (feq hc103_1607).1) ?_
                show Steps p.tables e below (T15.setTop (mkF m 106 (LS_JsJsJsJsJsIJsRRuuuuuu q0 q1 q2 q3 q4 p5 (36028797018963967 : Int64) o1 b2) [(.int (4 : Int32)), (.ref b2)])) _
                refine XS.lload X15.here hx rfl (hb hby at_106) rfl ?_
                show Steps p.tables e below (T15.setTop (mkF m 108 (LS_JsJsJsJsJsIJsRRuuuuuu q0 q1 q2 q3 q4 p5 (36028797018963967 : Int64) o1 b2) [(.long q4), (.int (4 : Int32)), (.ref b2)])) _
                refine XS.lload X15.here hx rfl (hb hby at_108) rfl ?_
                show Steps p.tables e below (T15.setTop (mkF m 110 (LS_JsJsJsJsJsIJsRRuuuuuu q0 q1 q2 q3 q4 p5 (36028797018963967 : Int64) o1 b2) [(.long (36028797018963967 : Int64)), (.long q4), (.int (4 : Int32)), (.ref b2)])) _
                refine XS.land X15.here hx rfl (hb hby at_110) rfl ?_
                show Steps p.tables e below (T15.setTop (mkF m 111 (LS_JsJsJsJsJsIJsRRuuuuuu q0 q1 q2 q3 q4 p5 (36028797018963967 : Int64) o1 b2) [(.long (q4 &&& (36028797018963967 : Int64))), (.int (4 : Int32)), (.ref b2)])) _
                refine XS.goto X15.here hx rfl (pc0 := 111) (pc' := 115) rfl (hb hby at_111) (by decide) (by decide) ?_
                exact k
              exact rest16 (q4 &&& (36028797018963967 : Int64)) _ X15 ⟨e15, own_mrng _⟩
        · intro rest13
          refine own_go (B := T12.setTop (mkF m 82 (LS_JsJsJsJsJsIJsRRuuuuuu q0 q1 q2 q3 q4 p5 (36028797018963967 : Int64) o1 b2) [(.int (p5 &&& (8 : Int32))), (.int (3 : Int32)), (.ref b2)])) (fun t k => ?_) ?_
          · show Steps p.tables e below (T12.setTop (mkF m 77 (LS_JsJsJsJsJsIJsRRuuuuuu q0 q1 q2 q3 q4 p5 (36028797018963967 : Int64) o1 b2) [(.int (3 : Int32)), (.ref b2)])) _
            refine XS.iload X12.here hx rfl (hb hby at_77) rfl ?_
            show Steps p.tables e below (T12.setTop (mkF m 79 (LS_JsJsJsJsJsIJsRRuuuuuu q0 q1 q2 q3 q4 p5 (36028797018963967 : Int64) o1 b2) [(.int p5), (.int (3 : Int32)), (.ref b2)])) _
            refine XS.bipush X12.here hx rfl (hb hby at_79) ?_
            show Steps p.tables e below (T12.setTop (mkF m 81 (LS_JsJsJsJsJsIJsRRuuuuuu q0 q1 q2 q3 q4 p5 (36028797018963967 : Int64) o1 b2) [(.int (8 : Int32)), (.int p5), (.int (3 : Int32)), (.ref b2)])) _
            refine XS.iand X12.here hx rfl (hb hby at_81) rfl ?_
            exact k
          by_cases hc82_1608 : (p5 &&& (8 : Int32)) = (0 : Int32)
          · refine own_go (B := T12.setTop (mkF m 94 (LS_JsJsJsJsJsIJsRRuuuuuu q0 q1 q2 q3 q4 p5 (36028797018963967 : Int64) o1 b2) [(.long (0 : Int64)), (.int (3 : Int32)), (.ref b2)])) (fun t k => ?_) ?_
            · show Steps p.tables e below (T12.setTop (mkF m 82 (LS_JsJsJsJsJsIJsRRuuuuuu q0 q1 q2 q3 q4 p5 (36028797018963967 : Int64) o1 b2) [(.int (p5 &&& (8 : Int32))), (.int (3 : Int32)), (.ref b2)])) _
              refine XS.ifYes X12.here hx rfl (pc0 := 82) (pc' := 93) rfl (hb hby at_82) rfl ((if0 _ _).trans (teq hc82_1608).1) (by decide) (by decide) ?_
              show Steps p.tables e below (T12.setTop (mkF m 93 (LS_JsJsJsJsJsIJsRRuuuuuu q0 q1 q2 q3 q4 p5 (36028797018963967 : Int64) o1 b2) [(.int (3 : Int32)), (.ref b2)])) _
              refine XS.lconst X12.here hx rfl (hb hby at_93) ?_
              exact k
            exact rest13 (0 : Int64) _ X12 ⟨e12, own_zrng⟩
          · refine own_go (B := T12.setTop (mkF m 94 (LS_JsJsJsJsJsIJsRRuuuuuu q0 q1 q2 q3 q4 p5 (36028797018963967 : Int64) o1 b2) [(.long (q3 &&& (36028797018963967 : Int64))), (.int (3 : Int32)), (.ref b2)])) (fun t k => ?_) ?_
            · show Steps p.tables e below (T12.setTop (mkF m 82 (LS_JsJsJsJsJsIJsRRuuuuuu q0 q1 q2 q3 q4 p5 (36028797018963967 : Int64) o1 b2) [(.int (p5 &&& (8 : Int32))), (.int (3 : Int32)), (.ref b2)])) _
              refine XS.ifNo X12.here hx rfl (hb hby at_82) rfl ((if0 _ _).trans (feq hc82_1608).1) ?_
              show Steps p.tables e below (T12.setTop (mkF m 85 (LS_JsJsJsJsJsIJsRRuuuuuu q0 q1 q2 q3 q4 p5 (36028797018963967 : Int64) o1 b2) [(.int (3 : Int32)), (.ref b2)])) _
              refine XS.lload X12.here hx rfl (hb hby at_85) rfl ?_
              show Steps p.tables e below (T12.setTop (mkF m 87 (LS_JsJsJsJsJsIJsRRuuuuuu q0 q1 q2 q3 q4 p5 (36028797018963967 : Int64) o1 b2) [(.long q3), (.int (3 : Int32)), (.ref b2)])) _
              refine XS.lload X12.here hx rfl (hb hby at_87) rfl ?_
              show Steps p.tables e below (T12.setTop (mkF m 89 (LS_JsJsJsJsJsIJsRRuuuuuu q0 q1 q2 q3 q4 p5 (36028797018963967 : Int64) o1 b2) [(.long (36028797018963967 : Int64)), (.long q3), (.int (3 : Int32)), (.ref b2)])) _
              refine XS.land X12.here hx rfl (hb hby at_89) rfl ?_
              show Steps p.tables e below (T12.setTop (mkF m 90 (LS_JsJsJsJsJsIJsRRuuuuuu q0 q1 q2 q3 q4 p5 (36028797018963967 : Int64) o1 b2) [(.long (q3 &&& (36028797018963967 : Int64))), (.int (3 : Int32)), (.ref b2)])) _
              refine XS.goto X12.here hx rfl (pc0 := 90) (pc' := 94) rfl (hb hby at_90) (by decide) (by decide) ?_
              exact k
            exact rest13 (q3 &&& (36028797018963967 : Int64)) _ X12 ⟨e12, own_mrng _⟩
      · intro rest10
        refine own_go (B := T9.setTop (mkF m 61 (LS_JsJsJsJsJsIJsRRuuuuuu q0 q1 q2 q3 q4 p5 (36028797018963967 : Int64) o1 b2) [(.int (p5 &&& (4 : Int32))), (.int (2 : Int32)), (.ref b2)])) (fun t k => ?_) ?_
        · show Steps p.tables e below (T9.setTop (mkF m 57 (LS_JsJsJsJsJsIJsRRuuuuuu q0 q1 q2 q3 q4 p5 (36028797018963967 : Int64) o1 b2) [(.int (2 : Int32)), (.ref b2)])) _
          refine XS.iload X9.here hx rfl (hb hby at_57) rfl ?_
          show Steps p.tables e below (T9.setTop (mkF m 59 (LS_JsJsJsJsJsIJsRRuuuuuu q0 q1 q2 q3 q4 p5 (36028797018963967 : Int64) o1 b2) [(.int p5), (.int (2 : Int32)), (.ref b2)])) _
          refine XS.iconst X9.here hx rfl (hb hby at_59) ?_
          show Steps p.tables e below (T9.setTop (mkF m 60 (LS_JsJsJsJsJsIJsRRuuuuuu q0 q1 q2 q3 q4 p5 (36028797018963967 : Int64) o1 b2) [(.int (4 : Int32)), (.int p5), (.int (2 : Int32)), (.ref b2)])) _
          refine XS.iand X9.here hx rfl (hb hby at_60) rfl ?_
          exact k
        by_cases hc61_1609 : (p5 &&& (4 : Int32)) = (0 : Int32)
        · refine own_go (B := T9.setTop (mkF m 73 (LS_JsJsJsJsJsIJsRRuuuuuu q0 q1 q2 q3 q4 p5 (36028797018963967 : Int64) o1 b2) [(.long (0 : Int64)), (.int (2 : Int32)), (.ref b2)])) (fun t k => ?_) ?_
          · show Steps p.tables e below (T9.setTop (mkF m 61 (LS_JsJsJsJsJsIJsRRuuuuuu q0 q1 q2 q3 q4 p5 (36028797018963967 : Int64) o1 b2) [(.int (p5 &&& (4 : Int32))), (.int (2 : Int32)), (.ref b2)])) _
            refine XS.ifYes X9.here hx rfl (pc0 := 61) (pc' := 72) rfl (hb hby at_61) rfl ((if0 _ _).trans (teq hc61_1609).1) (by decide) (by decide) ?_
            show Steps p.tables e below (T9.setTop (mkF m 72 (LS_JsJsJsJsJsIJsRRuuuuuu q0 q1 q2 q3 q4 p5 (36028797018963967 : Int64) o1 b2) [(.int (2 : Int32)), (.ref b2)])) _
            refine XS.lconst X9.here hx rfl (hb hby at_72) ?_
            exact k
          exact rest10 (0 : Int64) _ X9 ⟨e9, own_zrng⟩
        · refine own_go (B := T9.setTop (mkF m 73 (LS_JsJsJsJsJsIJsRRuuuuuu q0 q1 q2 q3 q4 p5 (36028797018963967 : Int64) o1 b2) [(.long (q2 &&& (36028797018963967 : Int64))), (.int (2 : Int32)), (.ref b2)])) (fun t k => ?_) ?_
          · show Steps p.tables e below (T9.setTop (mkF m 61 (LS_JsJsJsJsJsIJsRRuuuuuu q0 q1 q2 q3 q4 p5 (36028797018963967 : Int64) o1 b2) [(.int (p5 &&& (4 : Int32))), (.int (2 : Int32)), (.ref b2)])) _
            refine XS.ifNo X9.here hx rfl (hb hby at_61) rfl ((if0 _ _).trans (feq hc61_1609).1) ?_
            show Steps p.tables e below (T9.setTop (mkF m 64 (LS_JsJsJsJsJsIJsRRuuuuuu q0 q1 q2 q3 q4 p5 (36028797018963967 : Int64) o1 b2) [(.int (2 : Int32)), (.ref b2)])) _
            refine XS.lload X9.here hx rfl (hb hby at_64) rfl ?_
            show Steps p.tables e below (T9.setTop (mkF m 66 (LS_JsJsJsJsJsIJsRRuuuuuu q0 q1 q2 q3 q4 p5 (36028797018963967 : Int64) o1 b2) [(.long q2), (.int (2 : Int32)), (.ref b2)])) _
            refine XS.lload X9.here hx rfl (hb hby at_66) rfl ?_
            show Steps p.tables e below (T9.setTop (mkF m 68 (LS_JsJsJsJsJsIJsRRuuuuuu q0 q1 q2 q3 q4 p5 (36028797018963967 : Int64) o1 b2) [(.long (36028797018963967 : Int64)), (.long q2), (.int (2 : Int32)), (.ref b2)])) _
            refine XS.land X9.here hx rfl (hb hby at_68) rfl ?_
            show Steps p.tables e below (T9.setTop (mkF m 69 (LS_JsJsJsJsJsIJsRRuuuuuu q0 q1 q2 q3 q4 p5 (36028797018963967 : Int64) o1 b2) [(.long (q2 &&& (36028797018963967 : Int64))), (.int (2 : Int32)), (.ref b2)])) _
            refine XS.goto X9.here hx rfl (pc0 := 69) (pc' := 73) rfl (hb hby at_69) (by decide) (by decide) ?_
            exact k
          exact rest10 (q2 &&& (36028797018963967 : Int64)) _ X9 ⟨e9, own_mrng _⟩
    · intro rest7
      refine own_go (B := T6.setTop (mkF m 42 (LS_JsJsJsJsJsIJsRRuuuuuu q0 q1 q2 q3 q4 p5 (36028797018963967 : Int64) o1 b2) [(.int (p5 &&& (2 : Int32))), (.int (1 : Int32)), (.ref b2)])) (fun t k => ?_) ?_
      · show Steps p.tables e below (T6.setTop (mkF m 38 (LS_JsJsJsJsJsIJsRRuuuuuu q0 q1 q2 q3 q4 p5 (36028797018963967 : Int64) o1 b2) [(.int (1 : Int32)), (.ref b2)])) _
        refine XS.iload X6.here hx rfl (hb hby at_38) rfl ?_
        show Steps p.tables e below (T6.setTop (mkF m 40 (LS_JsJsJsJsJsIJsRRuuuuuu q0 q1 q2 q3 q4 p5 (36028797018963967 : Int64) o1 b2) [(.int p5), (.int (1 : Int32)), (.ref b2)])) _
        refine XS.iconst X6.here hx rfl (hb hby at_40) ?_
        show Steps p.tables e below (T6.setTop (mkF m 41 (LS_JsJsJsJsJsIJsRRuuuuuu q0 q1 q2 q3 q4 p5 (36028797018963967 : Int64) o1 b2) [(.int (2 : Int32)), (.int p5), (.int (1 : Int32)), (.ref b2)])) _
        refine XS.iand X6.here hx rfl (hb hby at_41) rfl ?_
        exact k
      by_cases hc42_1610 : (p5 &&& (2 : Int32)) = (0 : Int32)
      · refine own_go (B := T6.setTop (mkF m 53 (LS_JsJsJsJsJsIJsRRuuuuuu q0 q1 q2 q3 q4 p5 (36028797018963967 : Int64) o1 b2) [(.long (0 : Int64)), (.int (1 : Int32)), (.ref b2)])) (fun t k => ?_) ?_
        · show Steps p.tables e below (T6.setTop (mkF m 42 (LS_JsJsJsJsJsIJsRRuuuuuu q0 q1 q2 q3 q4 p5 (36028797018963967 : Int64) o1 b2) [(.int (p5 &&& (2 : Int32))), (.int (1 : Int32)), (.ref b2)])) _
          refine XS.ifYes X6.here hx rfl (pc0 := 42) (pc' := 52) rfl (hb hby at_42) rfl ((if0 _ _).trans (teq hc42_1610).1) (by decide) (by decide) ?_
          show Steps p.tables e below (T6.setTop (mkF m 52 (LS_JsJsJsJsJsIJsRRuuuuuu q0 q1 q2 q3 q4 p5 (36028797018963967 : Int64) o1 b2) [(.int (1 : Int32)), (.ref b2)])) _
          refine XS.lconst X6.here hx rfl (hb hby at_52) ?_
          exact k
        exact rest7 (0 : Int64) _ X6 ⟨e6, own_zrng⟩
      · refine own_go (B := T6.setTop (mkF m 53 (LS_JsJsJsJsJsIJsRRuuuuuu q0 q1 q2 q3 q4 p5 (36028797018963967 : Int64) o1 b2) [(.long (q1 &&& (36028797018963967 : Int64))), (.int (1 : Int32)), (.ref b2)])) (fun t k => ?_) ?_
        · show Steps p.tables e below (T6.setTop (mkF m 42 (LS_JsJsJsJsJsIJsRRuuuuuu q0 q1 q2 q3 q4 p5 (36028797018963967 : Int64) o1 b2) [(.int (p5 &&& (2 : Int32))), (.int (1 : Int32)), (.ref b2)])) _
          refine XS.ifNo X6.here hx rfl (hb hby at_42) rfl ((if0 _ _).trans (feq hc42_1610).1) ?_
          show Steps p.tables e below (T6.setTop (mkF m 45 (LS_JsJsJsJsJsIJsRRuuuuuu q0 q1 q2 q3 q4 p5 (36028797018963967 : Int64) o1 b2) [(.int (1 : Int32)), (.ref b2)])) _
          refine XS.lloadN X6.here hx rfl (hb hby at_45) rfl ?_
          show Steps p.tables e below (T6.setTop (mkF m 46 (LS_JsJsJsJsJsIJsRRuuuuuu q0 q1 q2 q3 q4 p5 (36028797018963967 : Int64) o1 b2) [(.long q1), (.int (1 : Int32)), (.ref b2)])) _
          refine XS.lload X6.here hx rfl (hb hby at_46) rfl ?_
          show Steps p.tables e below (T6.setTop (mkF m 48 (LS_JsJsJsJsJsIJsRRuuuuuu q0 q1 q2 q3 q4 p5 (36028797018963967 : Int64) o1 b2) [(.long (36028797018963967 : Int64)), (.long q1), (.int (1 : Int32)), (.ref b2)])) _
          refine XS.land X6.here hx rfl (hb hby at_48) rfl ?_
          show Steps p.tables e below (T6.setTop (mkF m 49 (LS_JsJsJsJsJsIJsRRuuuuuu q0 q1 q2 q3 q4 p5 (36028797018963967 : Int64) o1 b2) [(.long (q1 &&& (36028797018963967 : Int64))), (.int (1 : Int32)), (.ref b2)])) _
          refine XS.goto X6.here hx rfl (pc0 := 49) (pc' := 53) rfl (hb hby at_49) (by decide) (by decide) ?_
          exact k
        exact rest7 (q1 &&& (36028797018963967 : Int64)) _ X6 ⟨e6, own_mrng _⟩
  · intro rest4
    refine own_go (B := T2.setTop (mkF m 23 (LS_JsJsJsJsJsIJsRRuuuuuu q0 q1 q2 q3 q4 p5 (36028797018963967 : Int64) o1 b2) [(.int (p5 &&& (1 : Int32))), (.int (0 : Int32)), (.ref b2)])) (fun t k => ?_) ?_
    · show Steps p.tables e below (T2.setTop (mkF m 19 (LS_JsJsJsJsJsIJsRRuuuuuu q0 q1 q2 q3 q4 p5 (36028797018963967 : Int64) o1 b2) [(.int (0 : Int32)), (.ref b2)])) _
      refine XS.iload X2.here hx rfl (hb hby at_19) rfl ?_
      show Steps p.tables e below (T2.setTop (mkF m 21 (LS_JsJsJsJsJsIJsRRuuuuuu q0 q1 q2 q3 q4 p5 (36028797018963967 : Int64) o1 b2) [(.int p5), (.int (0 : Int32)), (.ref b2)])) _
      refine XS.iconst X2.here hx rfl (hb hby at_21) ?_
      show Steps p.tables e below (T2.setTop (mkF m 22 (LS_JsJsJsJsJsIJsRRuuuuuu q0 q1 q2 q3 q4 p5 (36028797018963967 : Int64) o1 b2) [(.int (1 : Int32)), (.int p5), (.int (0 : Int32)), (.ref b2)])) _
      refine XS.iand X2.here hx rfl (hb hby at_22) rfl ?_
      exact k
    by_cases hc23_1611 : (p5 &&& (1 : Int32)) = (0 : Int32)
    · refine own_go (B := T2.setTop (mkF m 34 (LS_JsJsJsJsJsIJsRRuuuuuu q0 q1 q2 q3 q4 p5 (36028797018963967 : Int64) o1 b2) [(.long (0 : Int64)), (.int (0 : Int32)), (.ref b2)])) (fun t k => ?_) ?_
      · show Steps p.tables e below (T2.setTop (mkF m 23 (LS_JsJsJsJsJsIJsRRuuuuuu q0 q1 q2 q3 q4 p5 (36028797018963967 : Int64) o1 b2) [(.int (p5 &&& (1 : Int32))), (.int (0 : Int32)), (.ref b2)])) _
        refine XS.ifYes X2.here hx rfl (pc0 := 23) (pc' := 33) rfl (hb hby at_23) rfl ((if0 _ _).trans (teq hc23_1611).1) (by decide) (by decide) ?_
        show Steps p.tables e below (T2.setTop (mkF m 33 (LS_JsJsJsJsJsIJsRRuuuuuu q0 q1 q2 q3 q4 p5 (36028797018963967 : Int64) o1 b2) [(.int (0 : Int32)), (.ref b2)])) _
        refine XS.lconst X2.here hx rfl (hb hby at_33) ?_
        exact k
      exact rest4 (0 : Int64) _ X2 ⟨e2, own_zrng⟩
    · refine own_go (B := T2.setTop (mkF m 34 (LS_JsJsJsJsJsIJsRRuuuuuu q0 q1 q2 q3 q4 p5 (36028797018963967 : Int64) o1 b2) [(.long (q0 &&& (36028797018963967 : Int64))), (.int (0 : Int32)), (.ref b2)])) (fun t k => ?_) ?_
      · show Steps p.tables e below (T2.setTop (mkF m 23 (LS_JsJsJsJsJsIJsRRuuuuuu q0 q1 q2 q3 q4 p5 (36028797018963967 : Int64) o1 b2) [(.int (p5 &&& (1 : Int32))), (.int (0 : Int32)), (.ref b2)])) _
        refine XS.ifNo X2.here hx rfl (hb hby at_23) rfl ((if0 _ _).trans (feq hc23_1611).1) ?_
        show Steps p.tables e below (T2.setTop (mkF m 26 (LS_JsJsJsJsJsIJsRRuuuuuu q0 q1 q2 q3 q4 p5 (36028797018963967 : Int64) o1 b2) [(.int (0 : Int32)), (.ref b2)])) _
        refine XS.lloadN X2.here hx rfl (hb hby at_26) rfl ?_
        show Steps p.tables e below (T2.setTop (mkF m 27 (LS_JsJsJsJsJsIJsRRuuuuuu q0 q1 q2 q3 q4 p5 (36028797018963967 : Int64) o1 b2) [(.long q0), (.int (0 : Int32)), (.ref b2)])) _
        refine XS.lload X2.here hx rfl (hb hby at_27) rfl ?_
        show Steps p.tables e below (T2.setTop (mkF m 29 (LS_JsJsJsJsJsIJsRRuuuuuu q0 q1 q2 q3 q4 p5 (36028797018963967 : Int64) o1 b2) [(.long (36028797018963967 : Int64)), (.long q0), (.int (0 : Int32)), (.ref b2)])) _
        refine XS.land X2.here hx rfl (hb hby at_29) rfl ?_
        show Steps p.tables e below (T2.setTop (mkF m 30 (LS_JsJsJsJsJsIJsRRuuuuuu q0 q1 q2 q3 q4 p5 (36028797018963967 : Int64) o1 b2) [(.long (q0 &&& (36028797018963967 : Int64))), (.int (0 : Int32)), (.ref b2)])) _
        refine XS.goto X2.here hx rfl (pc0 := 30) (pc' := 34) rfl (hb hby at_30) (by decide) (by decide) ?_
        exact k
      exact rest4 (q0 &&& (36028797018963967 : Int64)) _ X2 ⟨e2, own_mrng _⟩
set_option maxRecDepth 65536 in
set_option maxHeartbeats 40000000 in
theorem comes_1 {Post : Tables → Env → Array Value → State → Outcome → State → Prop} (hpost : ∀ tb e args s v u, (limb_1_1.after args s (.returned v) u = true ∧ limb_1_2.after args s (.returned v) u = true ∧ True) → FrameEnd s (.returned v) u (Jvm.fieldLocs frame_1_writes args s ++ Jvm.arrayLocs frame_1_arrays args s ++ Jvm.staticLocs frame_1_statics s) 24 192 → Post tb e args s (.returned v) u) :
    ArmFor flags0 classFile x code maxLocals ret World_1 tables_1 room_1 Calls_1 rest_1 Pre_1 Post := by
  intro l hfl _ _ p e ha hc hk s m args below hf hA hF happ hP
  obtain ⟨hcalls, hrest, hpre⟩ := hP
  obtain ⟨-, -, -, hnamed, -, -, -, hat⟩ := (Spec.applies_iff hf).mp happ
  obtain ⟨hg, hn⟩ := and_e (Cond.before_iff.mp (show (Jvm.Cond.and given_1 narrow_1).before args s = true from hpre))
  obtain ⟨g1, g2⟩ := and_e hg
  obtain ⟨g3, g4⟩ := and_e g2
  obtain ⟨g5, g6⟩ := and_e g4
  obtain ⟨g7, g8⟩ := and_e g6
  obtain ⟨g9, g10⟩ := and_e g8
  obtain ⟨g11, g12⟩ := and_e g10
  obtain ⟨w0, w1, w2, w3, w4, w5, rfl⟩ : ∃ w0 w1 w2 w3 w4 w5 : Value, args = #[w0, w1, w2, w3, w4, w5] := by
    have hs : args.size = 6 := by simpa [Cond.value, given_1] using g1
    obtain ⟨L⟩ := args
    match L, hs with
    | [w0, w1, w2, w3, w4, w5], _ => exact ⟨w0, w1, w2, w3, w4, w5, rfl⟩
  have hw := fun d (hd : d ∈ tables_1) => atoms_spec (ws := Jvm.Cond.code x code maxLocals ret :: tables_1) hat d (List.mem_cons_of_mem _ hd)
  have hfit : Fit s := fun {y c} hc i hi => by
    obtain ⟨ha, rfl⟩ := Array.getElem?_eq_some_iff.mp hc
    have q := List.all_eq_true.mp ((Array.all_eq_true_iff_forall_mem.mp hF) _ (Array.getElem_mem ha)) i (List.mem_range.mpr hi)
    simpa [Array.getElem?_eq_getElem hi] using q
  obtain ⟨i0, ei0⟩ := isL_v g3
  obtain rfl : w0 = (.long i0) := Option.some.inj ei0
  obtain ⟨i1, ei1⟩ := isL_v g5
  obtain rfl : w1 = (.long i1) := Option.some.inj ei1
  obtain ⟨i2, ei2⟩ := isL_v g7
  obtain rfl : w2 = (.long i2) := Option.some.inj ei2
  obtain ⟨i3, ei3⟩ := isL_v g9
  obtain rfl : w3 = (.long i3) := Option.some.inj ei3
  obtain ⟨i4, ei4⟩ := isL_v g11
  obtain rfl : w4 = (.long i4) := Option.some.inj ei4
  obtain ⟨i5, ei5⟩ := is_v g12
  obtain rfl : w5 = (.int i5) := Option.some.inj ei5
  obtain ⟨g13, g14⟩ := and_e hn
  have ev_Fp_P0 := own_eqJ g13
  have S_Fp_P0 : Sta s s.heap "com/example/barred_rows/barredrows/crypto/Fp" "P0" "J" (.long (35747322042231467 : Int64)) := Sta.start ev_Fp_P0 (Or.inr ⟨(hw _ (List.mem_of_getElem? (i := 17) rfl)), (hw _ (List.mem_of_getElem? (i := 23) rfl))⟩)
  obtain ⟨g15, g16⟩ := and_e g14
  have ev_Fp_P1 := own_eqJ g15
  have S_Fp_P1 : Sta s s.heap "com/example/barred_rows/barredrows/crypto/Fp" "P1" "J" (.long (36025922209447795 : Int64)) := Sta.start ev_Fp_P1 (Or.inr ⟨(hw _ (List.mem_of_getElem? (i := 17) rfl)), (hw _ (List.mem_of_getElem? (i := 26) rfl))⟩)
  obtain ⟨g17, g18⟩ := and_e g16
  have ev_Fp_P2 := own_eqJ g17
  have S_Fp_P2 : Sta s s.heap "com/example/barred_rows/barredrows/crypto/Fp" "P2" "J" (.long (1084959616957103 : Int64)) := Sta.start ev_Fp_P2 (Or.inr ⟨(hw _ (List.mem_of_getElem? (i := 17) rfl)), (hw _ (List.mem_of_getElem? (i := 28) rfl))⟩)
  obtain ⟨g19, g20⟩ := and_e g18
  have ev_Fp_P3 := own_eqJ g19
  have S_Fp_P3 : Sta s s.heap "com/example/barred_rows/barredrows/crypto/Fp" "P3" "J" (.long (7925923977987733 : Int64)) := Sta.start ev_Fp_P3 (Or.inr ⟨(hw _ (List.mem_of_getElem? (i := 17) rfl)), (hw _ (List.mem_of_getElem? (i := 30) rfl))⟩)
  obtain ⟨g21, g22⟩ := and_e g20
  have ev_Fp_P4 := own_eqJ g21
  have S_Fp_P4 : Sta s s.heap "com/example/barred_rows/barredrows/crypto/Fp" "P4" "J" (.long (16551456537884751 : Int64)) := Sta.start ev_Fp_P4 (Or.inr ⟨(hw _ (List.mem_of_getElem? (i := 17) rfl)), (hw _ (List.mem_of_getElem? (i := 32) rfl))⟩)
  obtain ⟨g23, g24⟩ := and_e g22
  have ev_Fp_P5 := own_eqJ g23
  have S_Fp_P5 : Sta s s.heap "com/example/barred_rows/barredrows/crypto/Fp" "P5" "J" (.long (23443114579904617 : Int64)) := Sta.start ev_Fp_P5 (Or.inr ⟨(hw _ (List.mem_of_getElem? (i := 17) rfl)), (hw _ (List.mem_of_getElem? (i := 34) rfl))⟩)
  have ev_Fp_P6 := own_eqJ g24
  have S_Fp_P6 : Sta s s.heap "com/example/barred_rows/barredrows/crypto/Fp" "P6" "J" (.long (1829881462546425 : Int64)) := Sta.start ev_Fp_P6 (Or.inr ⟨(hw _ (List.mem_of_getElem? (i := 17) rfl)), (hw _ (List.mem_of_getElem? (i := 36) rfl))⟩)
  obtain ⟨n, o, h1, h2, h3, _, L, rfl, ⟨rfl, N⟩, hq⟩ := rm0 l s _ hw tables_1 i0 i1 i2 i3 i4 i5  s.heap s.heap.size (Nat.le_refl _) S_Fp_P0 S_Fp_P1 S_Fp_P2 S_Fp_P3 S_Fp_P4 S_Fp_P5 S_Fp_P6 p e ha hc hk s m _ below hf ((Spec.applies_iff_loose hf).mp happ).1 ⟨rfl, State.Warmed39.refl s, rfl⟩ trivial
  refine ⟨n, _, h1, h2, h3, hpost _ _ _ _ _ _ ⟨Cond.after_iff.mpr rfl, Cond.after_iff.mpr (eq_i res_at (Term.int_eval (1)) rfl), trivial⟩ ⟨hq.1, hq.2.1, (hq.2.2.sift fun y hy => Or.inr (N y hy)).mono (by decide) (by decide)⟩⟩
theorem main_1_1 : Claimed_1_1 := comes_1 fun _ _ _ _ _ _ h hF => ⟨h.1, hF⟩
theorem main_1_2 : Claimed_1_2 := comes_1 fun _ _ _ _ _ _ h hF => ⟨h.2.1, hF⟩
end Jvm.Pilot.@@N@@
namespace Jvm.Pilot.@@N@@
open Jvm Jvm.ClassFile Sem Op Lib Jvm.Free Jvm.Stand Jvm.Pilot.@@N@@.Jvm.D
/-! MADE BY PROGRAM (witnessworld.py) out of the Statement's table words and the real class files: 11 classes; the members and pool entries that the words name. The judged class is class 1, her method 5. -/
namespace start1
open Jvm.ClassFile
def u (s : String) : CpInfo := .utf8 (stringToUtf16 s)
/-- a pool by its gaps: so many unusable entries, then the entry; so many at the end -/
def gap : Nat → List CpInfo → List CpInfo
  | 0, r => r
  | n + 1, r => .unusable :: gap n r
def poolList (es : List (Nat × CpInfo)) (last : Nat) : List CpInfo := es.foldr (fun e r => gap e.1 (e.2 :: r)) (gap last [])
def pool (es : List (Nat × CpInfo)) (last : Nat) : Array CpInfo := ⟨poolList es last⟩
def fileOf (pool : Array CpInfo) (this : Nat) (attrs : Array Attribute := #[]) (ms : Array MethodInfo := #[]) (fl : Nat := 33) (sup : Nat := 0) (ifs : Array Nat := #[]) (fds : Array FieldInfo := #[]) : ClassFile where
  minorVersion := 0
  majorVersion := 65
  constantPool := pool
  accessFlags := fl
  thisClass := this
  superClass := sup
  interfaces := ifs
  fields := fds
  methods := ms
  attributes := attrs
def plain (name : String) (sup : Option ClassId) : Class where
  name := name
  kind := .ordinary
  loader := none
  accessFlags := 33
  super := sup
  interfaces := #[]
  cf := none
  fields := #[]
  methods := #[]
  instanceTypes := #[]
  staticTypes := #[]
  resolved := #[]
  callSites := []
  init := .initialized
  statics := none
  mirror := none

def pool0 : Array CpInfo := pool [(5, u "<init>"), (0, u "()V"), (1, .class_ 10), (1, u "java/lang/Object")] 113

def k0m0 : Method := { name := "<init>", desc := "()V", sig := { parameters := [], returnType := none }, accessFlags := 1, code := none }
/-- java/lang/Object -/
def k0 : Class := { plain "java/lang/Object" none with
  accessFlags := 33
  interfaces := #[]
  cf := some (fileOf pool0 8 #[] #[{ accessFlags := 1, nameIndex := 5, descriptorIndex := 6, attributes := #[] }] 33 0 #[] #[])
  fields := #[]
  methods := #[k0m0]
  instanceTypes := #[]
  staticTypes := #[]
  resolved := Array.replicate 124 none
  statics := none }

def pool1 : Array CpInfo := pool [(2, .class_ 4), (1, u "java/lang/Object"), (0, u "<init>"), (0, u "()V"), (0, .long 36028797018963967), (1, .long 13402431016077863595), (1, .long 2210141511517208575), (1, .long 7435674573564081700), (1, .long 7239337960414712511), (1, .long 5412103778470702295), (1, .long 1873798617647539866), (1, .methodref 22 23), (0, .class_ 24), (0, .nameAndType 25 26), (0, u "com/example/barred_rows/barredrows/crypto/FpIsZeroPinLaw"), (0, u "modulus"), (0, u "()[J"), (0, .methodref 22 28), (0, .nameAndType 29 30), (0, u "add"), (0, u "([J[J)[J"), (0, .methodref 22 32), (0, .nameAndType 33 30), (0, u "sub"), (0, .methodref 22 35), (0, .nameAndType 36 37), (0, u "zeroModP"), (0, u "([J[J)Z"), (0, .methodref 39 40), (0, .class_ 41), (0, .nameAndType 42 43), (0, u "com/example/barred_rows/barredrows/crypto/Fp"), (0, u "isZero"), (0, u "([JI)Z"), (3, u "law"), (0, u "(JJJJJI)Z")] 4

def k1m0 : Method := { name := "<init>", desc := "()V", sig := { parameters := [], returnType := none }, accessFlags := 2, code := none }
def k1c1 : Code := { maxStack := 7, maxLocals := 15, code := method_2_code, exceptionTable := #[], attributes := #[] }
def k1m1 : Method := { name := "modulus", desc := "()[J", sig := { parameters := [], returnType := some (.array .long) }, accessFlags := 10, code := some k1c1 }
def k1c2 : Code := { maxStack := 6, maxLocals := 7, code := method_3_code, exceptionTable := #[], attributes := #[] }
def k1m2 : Method := { name := "add", desc := "([J[J)[J", sig := { parameters := [(.array .long), (.array .long)], returnType := some (.array .long) }, accessFlags := 10, code := some k1c2 }
def k1c3 : Code := { maxStack := 6, maxLocals := 7, code := method_4_code, exceptionTable := #[], attributes := #[] }
def k1m3 : Method := { name := "sub", desc := "([J[J)[J", sig := { parameters := [(.array .long), (.array .long)], returnType := some (.array .long) }, accessFlags := 10, code := some k1c3 }
def k1c4 : Code := { maxStack := 6, maxLocals := 4, code := method_5_code, exceptionTable := #[], attributes := #[] }
def k1m4 : Method := { name := "zeroModP", desc := "([J[J)Z", sig := { parameters := [(.array .long), (.array .long)], returnType := some .boolean }, accessFlags := 10, code := some k1c4 }
def k1c5 : Code := { maxStack := 7, maxLocals := 21, code := code, exceptionTable := #[], attributes := #[] }
def k1m5 : Method := { name := "law", desc := "(JJJJJI)Z", sig := { parameters := [.long, .long, .long, .long, .long, .int], returnType := some .boolean }, accessFlags := 9, code := some k1c5 }
/-- com/example/barred_rows/barredrows/crypto/FpIsZeroPinLaw -/
def k1 : Class := { plain "com/example/barred_rows/barredrows/crypto/FpIsZeroPinLaw" (some 0) with
  accessFlags := 49
  interfaces := #[]
  cf := some (fileOf pool1 22 #[] #[{ accessFlags := 2, nameIndex := 5, descriptorIndex := 6, attributes := #[] }, { accessFlags := 10, nameIndex := 25, descriptorIndex := 26, attributes := #[] }, { accessFlags := 10, nameIndex := 29, descriptorIndex := 30, attributes := #[] }, { accessFlags := 10, nameIndex := 33, descriptorIndex := 30, attributes := #[] }, { accessFlags := 10, nameIndex := 36, descriptorIndex := 37, attributes := #[] }, { accessFlags := 9, nameIndex := 47, descriptorIndex := 48, attributes := #[] }] 49 2 #[] #[])
  fields := #[]
  methods := #[k1m0, k1m1, k1m2, k1m3, k1m4, k1m5]
  instanceTypes := #[]
  staticTypes := #[]
  resolved := Array.replicate 53 none
  statics := none }

def pool2 : Array CpInfo := pool [(1, .class_ 2), (0, u "com/example/barred_rows/barredrows/crypto/Fp"), (1, .class_ 6), (1, u "java/lang/Object"), (0, u "<init>"), (0, u "()V"), (12, u "MODULUS"), (0, u "Ljava/math/BigInteger;"), (28, u "R_SQUARED"), (0, u "[J"), (4, .long 36028797018963967), (1, .fieldref 1 60), (0, .nameAndType 61 62), (0, u "P0"), (0, u "J"), (0, .fieldref 1 64), (0, .nameAndType 65 62), (0, u "P1"), (0, .fieldref 1 67), (0, .nameAndType 68 62), (0, u "P2"), (0, .fieldref 1 70), (0, .nameAndType 71 62), (0, u "P3"), (0, .fieldref 1 73), (0, .nameAndType 74 62), (0, u "P4"), (0, .fieldref 1 76), (0, .nameAndType 77 62), (0, u "P5"), (0, .fieldref 1 79), (0, .nameAndType 80 62), (0, u "P6"), (16, u "ZERO"), (7, .methodref 1 106), (0, .nameAndType 107 108), (0, u "canonical"), (0, u "([J[JI)V"), (8, u "TWO_P0"), (2, u "TWO_P1"), (2, u "TWO_P2"), (2, u "TWO_P3"), (2, u "TWO_P4"), (2, u "TWO_P5"), (2, u "TWO_P6"), (0, .long 18446744073709551615), (27, u "PADDING"), (2, u "ONE"), (14, u "INVERSE_EXPONENT"), (0, u "[I"), (6, u "SQRT_EXPONENT"), (11, u "P_NEGATED_INVERSE"), (2, u "PLAIN_ONE"), (50, .class_ 257), (0, u "com/example/barred_rows/barredrows/crypto/Fp$1"), (3, u "FIELD"), (0, u "Lcom/example/barred_rows/barredrows/crypto/Field;"), (0, u "BYTES"), (0, u "I"), (2, u "LIMBS"), (1, u "LIMB_BITS"), (1, u "LIMB_MASK"), (11, u "isZero"), (0, u "([JI)Z")] 11

def k2m0 : Method := { name := "<init>", desc := "()V", sig := { parameters := [], returnType := none }, accessFlags := 2, code := none }
def k2c1 : Code := { maxStack := 4, maxLocals := 3, code := prog_7_method_8_code, exceptionTable := #[], attributes := #[] }
def k2m1 : Method := { name := "isZero", desc := "([JI)Z", sig := { parameters := [(.array .long), .int], returnType := some .boolean }, accessFlags := 8, code := some k2c1 }
def k2c2 : Code := { maxStack := 10, maxLocals := 21, code := prog_7_method_26_code, exceptionTable := #[], attributes := #[] }
def k2m2 : Method := { name := "canonical", desc := "([J[JI)V", sig := { parameters := [(.array .long), (.array .long), .int], returnType := none }, accessFlags := 10, code := some k2c2 }
/-- com/example/barred_rows/barredrows/crypto/Fp -/
def k2 : Class := { plain "com/example/barred_rows/barredrows/crypto/Fp" (some 0) with
  accessFlags := 48
  interfaces := #[]
  cf := some (fileOf pool2 1 #[.nestMembers #[256]] #[{ accessFlags := 2, nameIndex := 7, descriptorIndex := 8, attributes := #[] }, { accessFlags := 8, nameIndex := 283, descriptorIndex := 284, attributes := #[] }, { accessFlags := 10, nameIndex := 107, descriptorIndex := 108, attributes := #[] }] 48 4 #[] #[{ accessFlags := 24, nameIndex := 21, descriptorIndex := 22, attributes := #[] }, { accessFlags := 24, nameIndex := 263, descriptorIndex := 264, attributes := #[] }, { accessFlags := 24, nameIndex := 267, descriptorIndex := 264, attributes := #[] }, { accessFlags := 26, nameIndex := 269, descriptorIndex := 264, attributes := #[] }, { accessFlags := 26, nameIndex := 271, descriptorIndex := 62, attributes := #[] }, { accessFlags := 26, nameIndex := 61, descriptorIndex := 62, attributes := #[] }, { accessFlags := 26, nameIndex := 65, descriptorIndex := 62, attributes := #[] }, { accessFlags := 26, nameIndex := 68, descriptorIndex := 62, attributes := #[] }, { accessFlags := 26, nameIndex := 71, descriptorIndex := 62, attributes := #[] }, { accessFlags := 26, nameIndex := 74, descriptorIndex := 62, attributes := #[] }, { accessFlags := 26, nameIndex := 77, descriptorIndex := 62, attributes := #[] }, { accessFlags := 26, nameIndex := 80, descriptorIndex := 62, attributes := #[] }, { accessFlags := 26, nameIndex := 117, descriptorIndex := 62, attributes := #[] }, { accessFlags := 26, nameIndex := 120, descriptorIndex := 62, attributes := #[] }, { accessFlags := 26, nameIndex := 123, descriptorIndex := 62, attributes := #[] }, { accessFlags := 26, nameIndex := 126, descriptorIndex := 62, attributes := #[] }, { accessFlags := 26, nameIndex := 129, descriptorIndex := 62, attributes := #[] }, { accessFlags := 26, nameIndex := 132, descriptorIndex := 62, attributes := #[] }, { accessFlags := 26, nameIndex := 135, descriptorIndex := 62, attributes := #[] }, { accessFlags := 26, nameIndex := 202, descriptorIndex := 62, attributes := #[] }, { accessFlags := 26, nameIndex := 164, descriptorIndex := 52, attributes := #[] }, { accessFlags := 26, nameIndex := 51, descriptorIndex := 52, attributes := #[] }, { accessFlags := 26, nameIndex := 205, descriptorIndex := 52, attributes := #[] }, { accessFlags := 24, nameIndex := 97, descriptorIndex := 52, attributes := #[] }, { accessFlags := 24, nameIndex := 167, descriptorIndex := 52, attributes := #[] }, { accessFlags := 26, nameIndex := 182, descriptorIndex := 183, attributes := #[] }, { accessFlags := 26, nameIndex := 190, descriptorIndex := 183, attributes := #[] }, { accessFlags := 24, nameIndex := 261, descriptorIndex := 262, attributes := #[] }])
  fields := #[{ name := "MODULUS", type := (.object "java/math/BigInteger"), accessFlags := 24, slot := 0, constantValue := 0 }, { name := "BYTES", type := .int, accessFlags := 24, slot := 1, constantValue := 0 }, { name := "LIMBS", type := .int, accessFlags := 24, slot := 2, constantValue := 0 }, { name := "LIMB_BITS", type := .int, accessFlags := 26, slot := 3, constantValue := 0 }, { name := "LIMB_MASK", type := .long, accessFlags := 26, slot := 4, constantValue := 0 }, { name := "P0", type := .long, accessFlags := 26, slot := 5, constantValue := 0 }, { name := "P1", type := .long, accessFlags := 26, slot := 6, constantValue := 0 }, { name := "P2", type := .long, accessFlags := 26, slot := 7, constantValue := 0 }, { name := "P3", type := .long, accessFlags := 26, slot := 8, constantValue := 0 }, { name := "P4", type := .long, accessFlags := 26, slot := 9, constantValue := 0 }, { name := "P5", type := .long, accessFlags := 26, slot := 10, constantValue := 0 }, { name := "P6", type := .long, accessFlags := 26, slot := 11, constantValue := 0 }, { name := "TWO_P0", type := .long, accessFlags := 26, slot := 12, constantValue := 0 }, { name := "TWO_P1", type := .long, accessFlags := 26, slot := 13, constantValue := 0 }, { name := "TWO_P2", type := .long, accessFlags := 26, slot := 14, constantValue := 0 }, { name := "TWO_P3", type := .long, accessFlags := 26, slot := 15, constantValue := 0 }, { name := "TWO_P4", type := .long, accessFlags := 26, slot := 16, constantValue := 0 }, { name := "TWO_P5", type := .long, accessFlags := 26, slot := 17, constantValue := 0 }, { name := "TWO_P6", type := .long, accessFlags := 26, slot := 18, constantValue := 0 }, { name := "P_NEGATED_INVERSE", type := .long, accessFlags := 26, slot := 19, constantValue := 0 }, { name := "PADDING", type := (.array .long), accessFlags := 26, slot := 20, constantValue := 0 }, { name := "R_SQUARED", type := (.array .long), accessFlags := 26, slot := 21, constantValue := 0 }, { name := "PLAIN_ONE", type := (.array .long), accessFlags := 26, slot := 22, constantValue := 0 }, { name := "ZERO", type := (.array .long), accessFlags := 24, slot := 23, constantValue := 0 }, { name := "ONE", type := (.array .long), accessFlags := 24, slot := 24, constantValue := 0 }, { name := "INVERSE_EXPONENT", type := (.array .int), accessFlags := 26, slot := 25, constantValue := 0 }, { name := "SQRT_EXPONENT", type := (.array .int), accessFlags := 26, slot := 26, constantValue := 0 }, { name := "FIELD", type := (.object "com/example/barred_rows/barredrows/crypto/Field"), accessFlags := 24, slot := 27, constantValue := 0 }]
  methods := #[k2m0, k2m1, k2m2]
  instanceTypes := #[]
  staticTypes := #[(.object "java/math/BigInteger"), .int, .int, .int, .long, .long, .long, .long, .long, .long, .long, .long, .long, .long, .long, .long, .long, .long, .long, .long, (.array .long), (.array .long), (.array .long), (.array .long), (.array .long), (.array .int), (.array .int), (.object "com/example/barred_rows/barredrows/crypto/Field")]
  resolved := Array.replicate 296 none
  statics := some 0 }

def pool3 : Array CpInfo := pool [(1, u "java/lang/Cloneable"), (0, .class_ 1), (0, u "java/lang/Object"), (0, .class_ 3)] 3

/-- java/lang/Cloneable -/
def k3 : Class := { plain "java/lang/Cloneable" (some 0) with
  accessFlags := 1537
  interfaces := #[]
  cf := some (fileOf pool3 2 #[] #[] 1537 4 #[] #[])
  fields := #[]
  methods := #[]
  instanceTypes := #[]
  staticTypes := #[]
  resolved := Array.replicate 8 none
  statics := none }

def pool4 : Array CpInfo := pool [(1, u "java/io/Serializable"), (0, .class_ 1), (0, u "java/lang/Object"), (0, .class_ 3)] 3

/-- java/io/Serializable -/
def k4 : Class := { plain "java/io/Serializable" (some 0) with
  accessFlags := 1537
  interfaces := #[]
  cf := some (fileOf pool4 2 #[] #[] 1537 4 #[] #[])
  fields := #[]
  methods := #[]
  instanceTypes := #[]
  staticTypes := #[]
  resolved := Array.replicate 8 none
  statics := none }

/-- the primitive byte -/
def k5 : Class := { plain "byte" none with kind := .primitive 'B', accessFlags := 0x411 }
/-- [B -/
def k6 : Class := { plain "[B" (some 0) with kind := .array 5 .byte, interfaces := #[3, 4], accessFlags := 1041 }

/-- the primitive int -/
def k7 : Class := { plain "int" none with kind := .primitive 'I', accessFlags := 0x411 }
/-- [I -/
def k8 : Class := { plain "[I" (some 0) with kind := .array 7 .int, interfaces := #[3, 4], accessFlags := 1041 }

/-- the primitive long -/
def k9 : Class := { plain "long" none with kind := .primitive 'J', accessFlags := 0x411 }
/-- [J -/
def k10 : Class := { plain "[J" (some 0) with kind := .array 9 .long, interfaces := #[3, 4], accessFlags := 1041 }

def heap : Heap := #[{ cls := 2, slots := #[.null, .int 0, .int 0, .int 0, .long 0, .long 35747322042231467, .long 36025922209447795, .long 1084959616957103, .long 7925923977987733, .long 16551456537884751, .long 23443114579904617, .long 1829881462546425, .long 0, .long 0, .long 0, .long 0, .long 0, .long 0, .long 0, .long 0, .null, .null, .null, .null, .null, .null, .null, .null], vm := .statics 2 }]
def classes : Array Class := #[k0, k1, k2, k3, k4, k5, k6, k7, k8, k9, k10]
def interned : List (Array UInt16 × Addr) := []
def slotsUsed : Nat := 28
def theMethod : MethodId := ⟨1, 5⟩
def args0 : Array Value := #[.long 5, .long 6, .long 7, .long 8, .long 9, .int 3]
def aboutOver (below : List Frame) : State where
  vm := { classes := classes, interned := interned.toArray }
  heap := heap
  slotsUsed := slotsUsed
  threads := #[{ frames := .invoking theMethod args0 :: below }]
def below0 : List Frame := [.native { method := ⟨0, 0⟩, args := #[] }]
def about1 : State := aboutOver below0
def p0 : Program := .bare "" "" ""
def e0 : Env := launch0.env 0 0 0
theorem w_frames : about1.frames = Frame.invoking theMethod args0 :: below0 := rfl
set_option maxRecDepth 65536 in
theorem w_args : argsFit about1.vm theMethod args0 = true := by decide +kernel
set_option maxRecDepth 65536 in
theorem w_heap : heapFits about1 = true := by decide +kernel
set_option maxRecDepth 65536 in
theorem w_runnable : about1.curStatus? = some .runnable := by decide +kernel
set_option maxRecDepth 65536 in
theorem w_alone : about1.alone = true := by decide +kernel
set_option maxRecDepth 65536 in
theorem w_named : about1.methodNamed? x = some theMethod := by decide +kernel
set_option maxRecDepth 65536 in
theorem w_hears : about1.hears theMethod below0 = true := by decide +kernel
set_option maxRecDepth 65536 in
theorem w_ripe : about1.ripe theMethod args0 below0 = true := by decide +kernel
theorem w_running : about1.status = .running := rfl
set_option maxRecDepth 65536 in
theorem w_room : about1.hasRoom e0.platform room_1 = true :=
  launch0.hasRoom_least _ room_1 (by decide +kernel) (by decide +kernel) (by decide +kernel) (by decide +kernel) (by decide +kernel) (by decide +kernel)
theorem allAtoms_all (ts : List Jvm.Cond) (a : Array Jvm.Value) (st : Jvm.State) : (allAtoms ts).before a st = ts.all (fun c => c.before a st) := by
  induction ts with
  | nil => rfl
  | cons c t ih =>
    show (Jvm.Cond.and c (allAtoms t)).before a st = _
    rw [Jvm.Cond.before_and, ih, List.all_cons]
def words1 : List Jvm.Cond := Jvm.Cond.code x code maxLocals ret :: tables_1
/-- a 'code' word, met by the world's own term for the bytes: nothing is compared byte by byte -/
theorem code_word {y : MethodName} {bytes : ByteArray} {mx : Nat} {rt : Option FieldType} {a : Array Value} {s : State} {m : MethodId} {meth : Method} {c : Code} (h1 : s.methodNamed? y = some m) (h2 : s.vm.method? m = some meth) (h3 : meth.code = some c) (h4 : c.code = bytes)
    (h5 : (c.maxLocals == mx && c.exceptionTable.isEmpty && decide (c.maxStack ≤ mostOperands) && decide (meth.sig.returnType = rt) && !meth.locks && decide (parseMethodDescriptor y.desc = some meth.sig)) = true) : (Jvm.Cond.code y bytes mx rt).before a s = true := by
  simp only [Bool.and_eq_true, beq_iff_eq, Bool.not_eq_true', decide_eq_true_eq] at h5
  obtain ⟨⟨⟨⟨⟨g1, g2⟩, g3⟩, g4⟩, g5⟩, g6⟩ := h5
  simp [Cond.before, Cond.holds, Cond.value, h1, h2, h3, h4, g1, g2, g3, g4, g5, g6]
def isCode : Jvm.Cond → Bool
  | .code _ _ _ _ => true
  | _ => false
theorem all_split {L : List Jvm.Cond} {P : Jvm.Cond → Bool} (h1 : L.all (fun c => isCode c || P c) = true) (h2 : ∀ c ∈ L.filter isCode, P c = true) : L.all P = true := by
  refine List.all_eq_true.mpr fun c hc => ?_
  have h := List.all_eq_true.mp h1 c hc
  rcases Bool.eq_false_or_eq_true (isCode c) with hi | hi
  · exact h2 c (List.mem_filter.mpr ⟨hc, hi⟩)
  · simpa [hi] using h
set_option maxRecDepth 65536 in
theorem w_c0 : (Jvm.Cond.code x code maxLocals ret).before args0 about1 = true := code_word (m := ⟨1, 5⟩) (meth := k1m5) (c := k1c5) (by decide +kernel) rfl rfl rfl (by decide +kernel)
set_option maxRecDepth 65536 in
theorem w_c1 : (Jvm.Cond.code ({ cls := "com/example/barred_rows/barredrows/crypto/FpIsZeroPinLaw", name := "modulus", desc := "()[J" } : Jvm.MethodName) method_2_code (15 : Nat) (Option.some (Jvm.ClassFile.FieldType.array Jvm.ClassFile.FieldType.long))).before args0 about1 = true := code_word (m := ⟨1, 1⟩) (meth := k1m1) (c := k1c1) (by decide +kernel) rfl rfl rfl (by decide +kernel)
set_option maxRecDepth 65536 in
theorem w_c2 : (Jvm.Cond.code ({ cls := "com/example/barred_rows/barredrows/crypto/FpIsZeroPinLaw", name := "zeroModP", desc := "([J[J)Z" } : Jvm.MethodName) method_5_code (4 : Nat) (Option.some Jvm.ClassFile.FieldType.boolean)).before args0 about1 = true := code_word (m := ⟨1, 4⟩) (meth := k1m4) (c := k1c4) (by decide +kernel) rfl rfl rfl (by decide +kernel)
set_option maxRecDepth 65536 in
theorem w_c3 : (Jvm.Cond.code ({ cls := "com/example/barred_rows/barredrows/crypto/Fp", name := "isZero", desc := "([JI)Z" } : Jvm.MethodName) prog_7_method_8_code (3 : Nat) (Option.some Jvm.ClassFile.FieldType.boolean)).before args0 about1 = true := code_word (m := ⟨2, 1⟩) (meth := k2m1) (c := k2c1) (by decide +kernel) rfl rfl rfl (by decide +kernel)
set_option maxRecDepth 65536 in
theorem w_c4 : (Jvm.Cond.code ({ cls := "com/example/barred_rows/barredrows/crypto/Fp", name := "canonical", desc := "([J[JI)V" } : Jvm.MethodName) prog_7_method_26_code (21 : Nat) (Option.none : Option Jvm.ClassFile.FieldType)).before args0 about1 = true := code_word (m := ⟨2, 2⟩) (meth := k2m2) (c := k2c2) (by decide +kernel) rfl rfl rfl (by decide +kernel)
set_option maxRecDepth 65536 in
theorem w_c5 : (Jvm.Cond.code ({ cls := "com/example/barred_rows/barredrows/crypto/FpIsZeroPinLaw", name := "add", desc := "([J[J)[J" } : Jvm.MethodName) method_3_code (7 : Nat) (Option.some (Jvm.ClassFile.FieldType.array Jvm.ClassFile.FieldType.long))).before args0 about1 = true := code_word (m := ⟨1, 2⟩) (meth := k1m2) (c := k1c2) (by decide +kernel) rfl rfl rfl (by decide +kernel)
set_option maxRecDepth 65536 in
theorem w_c6 : (Jvm.Cond.code ({ cls := "com/example/barred_rows/barredrows/crypto/FpIsZeroPinLaw", name := "sub", desc := "([J[J)[J" } : Jvm.MethodName) method_4_code (7 : Nat) (Option.some (Jvm.ClassFile.FieldType.array Jvm.ClassFile.FieldType.long))).before args0 about1 = true := code_word (m := ⟨1, 3⟩) (meth := k1m3) (c := k1c3) (by decide +kernel) rfl rfl rfl (by decide +kernel)
def codes1 : List Jvm.Cond := [Jvm.Cond.code x code maxLocals ret, Jvm.Cond.code ({ cls := "com/example/barred_rows/barredrows/crypto/FpIsZeroPinLaw", name := "modulus", desc := "()[J" } : Jvm.MethodName) method_2_code (15 : Nat) (Option.some (Jvm.ClassFile.FieldType.array Jvm.ClassFile.FieldType.long)), Jvm.Cond.code ({ cls := "com/example/barred_rows/barredrows/crypto/FpIsZeroPinLaw", name := "zeroModP", desc := "([J[J)Z" } : Jvm.MethodName) method_5_code (4 : Nat) (Option.some Jvm.ClassFile.FieldType.boolean), Jvm.Cond.code ({ cls := "com/example/barred_rows/barredrows/crypto/Fp", name := "isZero", desc := "([JI)Z" } : Jvm.MethodName) prog_7_method_8_code (3 : Nat) (Option.some Jvm.ClassFile.FieldType.boolean), Jvm.Cond.code ({ cls := "com/example/barred_rows/barredrows/crypto/Fp", name := "canonical", desc := "([J[JI)V" } : Jvm.MethodName) prog_7_method_26_code (21 : Nat) (Option.none : Option Jvm.ClassFile.FieldType), Jvm.Cond.code ({ cls := "com/example/barred_rows/barredrows/crypto/FpIsZeroPinLaw", name := "add", desc := "([J[J)[J" } : Jvm.MethodName) method_3_code (7 : Nat) (Option.some (Jvm.ClassFile.FieldType.array Jvm.ClassFile.FieldType.long)), Jvm.Cond.code ({ cls := "com/example/barred_rows/barredrows/crypto/FpIsZeroPinLaw", name := "sub", desc := "([J[J)[J" } : Jvm.MethodName) method_4_code (7 : Nat) (Option.some (Jvm.ClassFile.FieldType.array Jvm.ClassFile.FieldType.long))]
set_option maxRecDepth 65536 in
theorem codes_eq : words1.filter isCode = codes1 := rfl
theorem w_codes : ∀ c ∈ words1.filter isCode, c.before args0 about1 = true := by
  rw [codes_eq]
  intro c hc
  simp only [codes1, List.mem_cons, List.not_mem_nil, or_false] at hc
  rcases hc with rfl | rfl | rfl | rfl | rfl | rfl | rfl
  · exact w_c0
  · exact w_c1
  · exact w_c2
  · exact w_c3
  · exact w_c4
  · exact w_c5
  · exact w_c6
set_option maxRecDepth 65536 in
theorem w_t1 : (words1.take 24).all (fun c => isCode c || c.before args0 about1) = true := by decide +kernel
set_option maxRecDepth 65536 in
theorem w_t2 : (words1.drop 24).all (fun c => isCode c || c.before args0 about1) = true := by decide +kernel
theorem w_tables : (allAtoms (Jvm.Cond.code x code maxLocals ret :: tables_1)).before args0 about1 = true := by
  rw [allAtoms_all]
  show words1.all (fun c => c.before args0 about1) = true
  refine all_split ?_ w_codes
  rw [← List.take_append_drop 24 words1, List.all_append, w_t1, w_t2]
  rfl
set_option maxRecDepth 65536 in
theorem w_case : (Jvm.Cond.and given_1 narrow_1).before args0 about1 = true := by decide +kernel
theorem w_applies : (headSpec (Jvm.Cond.code x code maxLocals ret :: tables_1) room_1).applies x e0.platform about1 = true :=
  (Spec.applies_iff w_frames).mpr ⟨w_running, w_runnable, w_alone, w_named, w_hears, w_ripe, w_room, w_tables⟩
theorem atStart : AtStart classFile x code maxLocals ret World_1 tables_1 room_1 Calls_1 rest_1 Pre_1 launch0 p0 e0 about1 theMethod args0 below0 :=
  ⟨lists_1, trivial, launch0.admits_env _ _ _, launch0.least_env, fairChoices_fair.cas, fairChoices_fair.clock, w_frames, w_args, w_heap, w_applies, trivial, trivial, w_case⟩
end start1
theorem witness_1 : WitnessClaimed_1 := ⟨start1.p0, start1.e0, start1.about1, start1.theMethod, start1.args0, start1.below0, start1.atStart⟩
end Jvm.Pilot.@@N@@
