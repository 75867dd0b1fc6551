import JvmDerived
import JvmDerived.Pilot.@@N@@Statement
import JvmDerived.Pilot.@@N@@Code
set_option linter.unusedVariables false
set_option linter.unusedSimpArgs false
@@BLOCK:NumsL.lean.txt@@
namespace Jvm.Pilot.@@N@@
open Jvm Jvm.ClassFile Sem Op Lib Jvm.Free Jvm.Stand Jvm.LawKit Jvm.RoadKit Bundle Jvm.Pilot.@@N@@.Jvm.D
/-- two roads that come together: the rest is shown once, for every state and value with which they come -/
theorem own_join {p : Program} {l : Launch} {e : Env} {R : Room} {s : State} {m : MethodId} {args : Array Value} {below : List Frame} {meth : Method} {c : Code} {T : State} {locs : List Loc} {cells slots n0 : Nat} {A : State} {P : State → Outcome → Prop}
    (X : Stand p l e R s m args below meth c T locs cells slots) (N : Fr n0 locs) {ι : Type} (Φ : ι → State → Prop) (B : ι → JFrame)
    (rest : ∀ i T' locs', Stand p l e R s m args below meth c T' locs' cells slots → Fr n0 locs' → Φ i T' → ∃ s₂ o, Steps p.tables e below (T'.setTop (B i)) s₂ ∧ P s₂ o)
    (come : (∀ i T' locs', Stand p l e R s m args below meth c T' locs' cells slots → Fr n0 locs' → Φ i T' → ∃ s₂ o, Steps p.tables e below (T'.setTop (B i)) s₂ ∧ P s₂ o) → ∃ s₂ o, Steps p.tables e below A s₂ ∧ P s₂ o) : ∃ s₂ o, Steps p.tables e below A s₂ ∧ P s₂ o := come rest
theorem own_joinH {p : Program} {l : Launch} {e : Env} {R : Room} {s : State} {m : MethodId} {args : Array Value} {below : List Frame} {meth : Method} {c : Code} {T : State} {locs : List Loc} {cells slots n0 : Nat} {A : State} {P : State → Outcome → Prop}
    (X : Stand p l e R s m args below meth c T locs cells slots) (N : Fr n0 locs) {ι : Type} (cells' slots' : Nat) (Φ : ι → Heap → Prop) (B : ι → JFrame)
    (rest : ∀ i T' locs', Stand p l e R s m args below meth c T' locs' cells' slots' → Fr n0 locs' → Φ i T'.heap → ∃ s₂ o, Steps p.tables e below (T'.setTop (B i)) s₂ ∧ P s₂ o)
    (come : (∀ i T' locs', Stand p l e R s m args below meth c T' locs' cells' slots' → Fr n0 locs' → Φ i T'.heap → ∃ s₂ o, Steps p.tables e below (T'.setTop (B i)) s₂ ∧ P s₂ o) → ∃ s₂ o, Steps p.tables e below A s₂ ∧ P s₂ o) : ∃ s₂ o, Steps p.tables e below A s₂ ∧ P s₂ o := come rest
theorem own_mono {p : Program} {l : Launch} {e : Env} {R : Room} {s : State} {m : MethodId} {args : Array Value} {below : List Frame} {meth : Method} {c : Code} {T : State} {locs : List Loc} {cells slots cells' slots' : Nat}
    (X : Stand p l e R s m args below meth c T locs cells slots) (h1 : cells ≤ cells') (h2 : slots ≤ slots') : Stand p l e R s m args below meth c T locs cells' slots' := { X with same := X.same.mono h1 h2 }
theorem own_sta_keep {Z : State} {h h' : Heap} {C n d : String} {v : Value} {ws : List Addr} (F : Sta Z h C n d v) (K : Keep h h' ws) (q : ∀ x ∈ ws, ∀ c : Cell, h[x]? = some c → c.vm.isStatics = false) : Sta Z h' C n d v := by
  obtain ⟨cf, i, k, f, st, cell, h1, h2, h3, h4, h5, h6, h7⟩ := F
  refine ⟨cf, i, k, f, st, cell, h1, h2, h3, h4, K.2.1 st cell h5 fun hm => ?_, h6, h7⟩
  rw [q st hm cell h5] at h6
  cases h6
theorem own_arr_keep {Z : State} {h h' : Heap} {a : Addr} {c : Cell} {ty : FieldType} {ws : List Addr} (F : Arr Z h a c ty) (K : Keep h h' ws) (q : a ∉ ws) : Arr Z h' a c ty := ⟨K.2.1 _ _ F.1 q, F.2⟩
theorem own_plain_E {Z : State} {h : Heap} {a : Addr} {C : String} (F : Exa Z h a C) : ∀ c : Cell, h[a]? = some c → c.vm.isStatics = false := by
  obtain ⟨cell, k, h1, h2, h3, h4, h5⟩ := F
  intro c hc
  cases h1.symm.trans hc
  exact h4
theorem own_plain_V {Z : State} {h : Heap} {a : Addr} {k : ClassId} {ty : FieldType} {n : Int32} {vs : List Value} {d : Value} (F : Arv Z h a k ty n vs d) : ∀ c : Cell, h[a]? = some c → c.vm.isStatics = false := by
  obtain ⟨cell, A, -⟩ := F
  intro c hc
  cases A.1.symm.trans hc
  exact A.plain
/-- a stretch of the road, then the rest -/
theorem own_go {tb : Tables} {e : Env} {below : List Frame} {A B : State} {P : State → Outcome → Prop} (h : ∀ t, Steps tb e below B t → Steps tb e below A t) (k : ∃ s₂ o, Steps tb e below B s₂ ∧ P s₂ o) : ∃ s₂ o, Steps tb e below A s₂ ∧ P s₂ o := by
  obtain ⟨s₂, o, h1, h2⟩ := k
  exact ⟨s₂, o, h s₂ h1, h2⟩
theorem own_eqI {args : Array Value} {first s : State} {o : Option Outcome} {idx : List Nat} {t : Term} {k : Int32} (h : (Jvm.Cond.eq t (.int k)).value args first o s idx = some true) : t.eval args first o idx s = some (.int k) := by
  simp only [Jvm.Cond.value, Term.eval] at h
  cases ht : t.eval args first o idx s with
  | none => simp [ht] at h
  | some x => cases x <;> simp [ht] at h ⊢; exact h
theorem own_eqJ {args : Array Value} {first s : State} {o : Option Outcome} {idx : List Nat} {t : Term} {k : Int64} (h : (Jvm.Cond.eq t (.long k)).value args first o s idx = some true) : t.eval args first o idx s = some (.long k) := by
  simp only [Jvm.Cond.value, Term.eval] at h
  cases ht : t.eval args first o idx s with
  | none => simp [ht] at h
  | some x => cases x <;> simp [ht] at h ⊢; exact h
theorem own_eqR {args : Array Value} {first s : State} {o : Option Outcome} {idx : List Nat} {t u : Term} {a : Addr} (h : (Jvm.Cond.eq t u).value args first o s idx = some true) (hu : u.eval args first o idx s = some (.ref a)) : t.eval args first o idx s = some (.ref a) := by
  simp only [Jvm.Cond.value] at h
  cases ht : t.eval args first o idx s with
  | none => simp [ht] at h
  | some x => cases x <;> simp [ht, hu] at h ⊢; exact h
def own_sh (l : Int64) : Int64 := ((l.toUInt64 >>> ((63 : Int32) &&& 0x3f).toInt64.toUInt64).toInt64)
theorem own_sh_eq (l : Int64) : own_sh l = if l < 0 then 1 else 0 := by
  have e : ((63 : Int32) &&& 0x3f).toInt64.toUInt64 = 63 := by decide
  show ((l.toUInt64 >>> ((63 : Int32) &&& 0x3f).toInt64.toUInt64).toInt64) = _
  rw [e, ← Int64.toInt_inj]
  have h1 : (l.toUInt64 >>> (63 : UInt64)).toNat = l.toUInt64.toNat / 2 ^ 63 := by
    rw [UInt64.toNat_shiftRight, Nat.shiftRight_eq_div_pow]; rfl
  have h2 : l.toUInt64.toNat < 2 ^ 64 := l.toUInt64.toNat_lt
  have h3 : l.toInt = if l.toUInt64.toNat < 2 ^ 63 then (l.toUInt64.toNat : Int) else (l.toUInt64.toNat : Int) - 2 ^ 64 := by
    show l.toBitVec.toInt = _
    rw [BitVec.toInt_eq_toNat_cond]
    show (if 2 * l.toBitVec.toNat < 2 ^ 64 then (l.toBitVec.toNat : Int) else (l.toBitVec.toNat : Int) - (2 ^ 64 : Nat)) = if l.toBitVec.toNat < 2 ^ 63 then (l.toBitVec.toNat : Int) else (l.toBitVec.toNat : Int) - 2 ^ 64
    split <;> split <;> omega
  have h4 : ((l.toUInt64 >>> (63 : UInt64)).toInt64).toInt = ((l.toUInt64 >>> (63 : UInt64)).toNat : Int) := by
    show (l.toUInt64 >>> (63 : UInt64)).toBitVec.toInt = _
    rw [BitVec.toInt_eq_toNat_cond]
    have : (l.toUInt64 >>> (63 : UInt64)).toBitVec.toNat = (l.toUInt64 >>> (63 : UInt64)).toNat := rfl
    rw [this, if_pos (by omega)]
  have h0 : (0 : Int64).toInt = 0 := rfl
  have h11 : (1 : Int64).toInt = 1 := rfl
  rw [h4, h1]
  by_cases c : l.toUInt64.toNat < 2 ^ 63
  · rw [if_pos c] at h3
    rw [if_neg (by rw [Int64.lt_iff_toInt_lt, h0]; omega), h0]; omega
  · rw [if_neg c] at h3
    rw [if_pos (by rw [Int64.lt_iff_toInt_lt, h0]; omega), h11]; omega
def own_cn (a d l : Int64) : Int64 := ((a &&& (-(own_sh l))) ||| (d &&& ((-(own_sh l)) ^^^ (-1 : Int64))))
theorem own_cn_eq (a d l : Int64) : own_cn a d l = if l < 0 then a else d := by
  show ((a &&& (-(own_sh l))) ||| (d &&& ((-(own_sh l)) ^^^ (-1 : Int64)))) = _
  rw [own_sh_eq]
  by_cases c : l < 0
  · rw [if_pos c, if_pos c]
    rw [← Int64.toBitVec_inj]
    have e1 : (-(1 : Int64)).toBitVec = BitVec.allOnes 64 := by decide
    have e2 : ((-(1 : Int64)) ^^^ (-1 : Int64)) = 0 := by decide
    rw [e2, Int64.toBitVec_or, Int64.toBitVec_and, Int64.toBitVec_and, e1, BitVec.and_allOnes]
    simp
  · rw [if_neg c, if_neg c]
    rw [← Int64.toBitVec_inj]
    have e1 : (-(0 : Int64)) = 0 := by decide
    have e2 : ((-(0 : Int64)) ^^^ (-1 : Int64)).toBitVec = BitVec.allOnes 64 := by decide
    rw [Int64.toBitVec_or, Int64.toBitVec_and, Int64.toBitVec_and, e2, e1, BitVec.and_allOnes]
    simp
theorem own_or0 (a b : Int64) : a ||| b = 0 ↔ a = 0 ∧ b = 0 := by
  simp only [← Int64.toBitVec_inj, Int64.toBitVec_or]
  exact BitVec.or_eq_zero_iff
theorem own_xor0 (a b : Int64) : a ^^^ b = 0 ↔ a = b := by
  simp only [← Int64.toBitVec_inj, Int64.toBitVec_xor]
  exact BitVec.xor_eq_zero_iff
theorem own_sh_int (l : Int64) : (own_sh l).toInt = if l.toInt < 0 then 1 else 0 := by
  rw [own_sh_eq]
  have h0 : (0 : Int64).toInt = 0 := rfl
  by_cases c : l < 0
  · rw [if_pos c, if_pos (by rw [Int64.lt_iff_toInt_lt] at c; exact c)]; rfl
  · rw [if_neg c, if_neg (by rw [Int64.lt_iff_toInt_lt] at c; exact c)]; rfl
theorem own_mask (l : Int64) : (l &&& (36028797018963967 : Int64)).toInt = l.toInt % 36028797018963968 := Jvm.Kit.i64_mask l 36028797018963967 (k := 55) (by decide) (by decide)
/-- one limb's borrow -/
theorem own_bor (n : Int) (h1 : -36028797018963968 ≤ n) (h2 : n < 36028797018963968) : n % 36028797018963968 = n + 36028797018963968 * (if n < 0 then 1 else 0) := by
  split <;> omega
def own_l0 (a0 : Int64) : Int64 := (a0 - (35747322042231467 : Int64))
def own_l1 (a0 a1 : Int64) : Int64 := ((a1 - (36025922209447795 : Int64)) - own_sh (own_l0 a0))
def own_l2 (a0 a1 a2 : Int64) : Int64 := ((a2 - (1084959616957103 : Int64)) - own_sh (own_l1 a0 a1))
def own_l3 (a0 a1 a2 a3 : Int64) : Int64 := ((a3 - (7925923977987733 : Int64)) - own_sh (own_l2 a0 a1 a2))
def own_l4 (a0 a1 a2 a3 a4 : Int64) : Int64 := ((a4 - (16551456537884751 : Int64)) - own_sh (own_l3 a0 a1 a2 a3))
def own_l5 (a0 a1 a2 a3 a4 a5 : Int64) : Int64 := ((a5 - (23443114579904617 : Int64)) - own_sh (own_l4 a0 a1 a2 a3 a4))
def own_l6 (a0 a1 a2 a3 a4 a5 a6 : Int64) : Int64 := ((a6 - (1829881462546425 : Int64)) - own_sh (own_l5 a0 a1 a2 a3 a4 a5))
def own_c0 (a0 a1 a2 a3 a4 a5 a6 : Int64) : Int64 := own_cn a0 (own_l0 a0 &&& (36028797018963967 : Int64)) (own_l6 a0 a1 a2 a3 a4 a5 a6)
def own_c1 (a0 a1 a2 a3 a4 a5 a6 : Int64) : Int64 := own_cn a1 (own_l1 a0 a1 &&& (36028797018963967 : Int64)) (own_l6 a0 a1 a2 a3 a4 a5 a6)
def own_c2 (a0 a1 a2 a3 a4 a5 a6 : Int64) : Int64 := own_cn a2 (own_l2 a0 a1 a2 &&& (36028797018963967 : Int64)) (own_l6 a0 a1 a2 a3 a4 a5 a6)
def own_c3 (a0 a1 a2 a3 a4 a5 a6 : Int64) : Int64 := own_cn a3 (own_l3 a0 a1 a2 a3 &&& (36028797018963967 : Int64)) (own_l6 a0 a1 a2 a3 a4 a5 a6)
def own_c4 (a0 a1 a2 a3 a4 a5 a6 : Int64) : Int64 := own_cn a4 (own_l4 a0 a1 a2 a3 a4 &&& (36028797018963967 : Int64)) (own_l6 a0 a1 a2 a3 a4 a5 a6)
def own_c5 (a0 a1 a2 a3 a4 a5 a6 : Int64) : Int64 := own_cn a5 (own_l5 a0 a1 a2 a3 a4 a5 &&& (36028797018963967 : Int64)) (own_l6 a0 a1 a2 a3 a4 a5 a6)
def own_c6 (a0 a1 a2 a3 a4 a5 a6 : Int64) : Int64 := own_cn a6 (own_l6 a0 a1 a2 a3 a4 a5 a6 &&& (36028797018963967 : Int64)) (own_l6 a0 a1 a2 a3 a4 a5 a6)
theorem own_l0_int {a0 : Int64} (h : 0 ≤ (a0).toInt ∧ (a0).toInt < 36028797018963968) : (own_l0 a0).toInt = a0.toInt - 35747322042231467 := by
  have hp : (35747322042231467 : Int64).toInt = 35747322042231467 := rfl
  show (a0 - (35747322042231467 : Int64)).toInt = _
  rw [Jvm.Kit.i64_sub (by rw [hp]; omega) (by rw [hp]; omega), hp]
theorem own_l1_int {a0 a1 : Int64} (h : 0 ≤ (a1).toInt ∧ (a1).toInt < 36028797018963968) : (own_l1 a0 a1).toInt = a1.toInt - 36025922209447795 - (if (own_l0 a0).toInt < 0 then 1 else 0) := by
  have hp : (36025922209447795 : Int64).toInt = 36025922209447795 := rfl
  have hs := own_sh_int (own_l0 a0)
  have hd : (a1 - (36025922209447795 : Int64)).toInt = a1.toInt - 36025922209447795 := by rw [Jvm.Kit.i64_sub (by rw [hp]; omega) (by rw [hp]; omega), hp]
  have hb : 0 ≤ (if (own_l0 a0).toInt < 0 then (1 : Int) else 0) ∧ (if (own_l0 a0).toInt < 0 then (1 : Int) else 0) ≤ 1 := by split <;> omega
  show ((a1 - (36025922209447795 : Int64)) - own_sh (own_l0 a0)).toInt = _
  rw [Jvm.Kit.i64_sub (by rw [hd, hs]; omega) (by rw [hd, hs]; omega), hd, hs]
theorem own_l2_int {a0 a1 a2 : Int64} (h : 0 ≤ (a2).toInt ∧ (a2).toInt < 36028797018963968) : (own_l2 a0 a1 a2).toInt = a2.toInt - 1084959616957103 - (if (own_l1 a0 a1).toInt < 0 then 1 else 0) := by
  have hp : (1084959616957103 : Int64).toInt = 1084959616957103 := rfl
  have hs := own_sh_int (own_l1 a0 a1)
  have hd : (a2 - (1084959616957103 : Int64)).toInt = a2.toInt - 1084959616957103 := by rw [Jvm.Kit.i64_sub (by rw [hp]; omega) (by rw [hp]; omega), hp]
  have hb : 0 ≤ (if (own_l1 a0 a1).toInt < 0 then (1 : Int) else 0) ∧ (if (own_l1 a0 a1).toInt < 0 then (1 : Int) else 0) ≤ 1 := by split <;> omega
  show ((a2 - (1084959616957103 : Int64)) - own_sh (own_l1 a0 a1)).toInt = _
  rw [Jvm.Kit.i64_sub (by rw [hd, hs]; omega) (by rw [hd, hs]; omega), hd, hs]
theorem own_l3_int {a0 a1 a2 a3 : Int64} (h : 0 ≤ (a3).toInt ∧ (a3).toInt < 36028797018963968) : (own_l3 a0 a1 a2 a3).toInt = a3.toInt - 7925923977987733 - (if (own_l2 a0 a1 a2).toInt < 0 then 1 else 0) := by
  have hp : (7925923977987733 : Int64).toInt = 7925923977987733 := rfl
  have hs := own_sh_int (own_l2 a0 a1 a2)
  have hd : (a3 - (7925923977987733 : Int64)).toInt = a3.toInt - 7925923977987733 := by rw [Jvm.Kit.i64_sub (by rw [hp]; omega) (by rw [hp]; omega), hp]
  have hb : 0 ≤ (if (own_l2 a0 a1 a2).toInt < 0 then (1 : Int) else 0) ∧ (if (own_l2 a0 a1 a2).toInt < 0 then (1 : Int) else 0) ≤ 1 := by split <;> omega
  show ((a3 - (7925923977987733 : Int64)) - own_sh (own_l2 a0 a1 a2)).toInt = _
  rw [Jvm.Kit.i64_sub (by rw [hd, hs]; omega) (by rw [hd, hs]; omega), hd, hs]
theorem own_l4_int {a0 a1 a2 a3 a4 : Int64} (h : 0 ≤ (a4).toInt ∧ (a4).toInt < 36028797018963968) : (own_l4 a0 a1 a2 a3 a4).toInt = a4.toInt - 16551456537884751 - (if (own_l3 a0 a1 a2 a3).toInt < 0 then 1 else 0) := by
  have hp : (16551456537884751 : Int64).toInt = 16551456537884751 := rfl
  have hs := own_sh_int (own_l3 a0 a1 a2 a3)
  have hd : (a4 - (16551456537884751 : Int64)).toInt = a4.toInt - 16551456537884751 := by rw [Jvm.Kit.i64_sub (by rw [hp]; omega) (by rw [hp]; omega), hp]
  have hb : 0 ≤ (if (own_l3 a0 a1 a2 a3).toInt < 0 then (1 : Int) else 0) ∧ (if (own_l3 a0 a1 a2 a3).toInt < 0 then (1 : Int) else 0) ≤ 1 := by split <;> omega
  show ((a4 - (16551456537884751 : Int64)) - own_sh (own_l3 a0 a1 a2 a3)).toInt = _
  rw [Jvm.Kit.i64_sub (by rw [hd, hs]; omega) (by rw [hd, hs]; omega), hd, hs]
theorem own_l5_int {a0 a1 a2 a3 a4 a5 : Int64} (h : 0 ≤ (a5).toInt ∧ (a5).toInt < 36028797018963968) : (own_l5 a0 a1 a2 a3 a4 a5).toInt = a5.toInt - 23443114579904617 - (if (own_l4 a0 a1 a2 a3 a4).toInt < 0 then 1 else 0) := by
  have hp : (23443114579904617 : Int64).toInt = 23443114579904617 := rfl
  have hs := own_sh_int (own_l4 a0 a1 a2 a3 a4)
  have hd : (a5 - (23443114579904617 : Int64)).toInt = a5.toInt - 23443114579904617 := by rw [Jvm.Kit.i64_sub (by rw [hp]; omega) (by rw [hp]; omega), hp]
  have hb : 0 ≤ (if (own_l4 a0 a1 a2 a3 a4).toInt < 0 then (1 : Int) else 0) ∧ (if (own_l4 a0 a1 a2 a3 a4).toInt < 0 then (1 : Int) else 0) ≤ 1 := by split <;> omega
  show ((a5 - (23443114579904617 : Int64)) - own_sh (own_l4 a0 a1 a2 a3 a4)).toInt = _
  rw [Jvm.Kit.i64_sub (by rw [hd, hs]; omega) (by rw [hd, hs]; omega), hd, hs]
theorem own_l6_int {a0 a1 a2 a3 a4 a5 a6 : Int64} (h : 0 ≤ (a6).toInt ∧ (a6).toInt < 36028797018963968) : (own_l6 a0 a1 a2 a3 a4 a5 a6).toInt = a6.toInt - 1829881462546425 - (if (own_l5 a0 a1 a2 a3 a4 a5).toInt < 0 then 1 else 0) := by
  have hp : (1829881462546425 : Int64).toInt = 1829881462546425 := rfl
  have hs := own_sh_int (own_l5 a0 a1 a2 a3 a4 a5)
  have hd : (a6 - (1829881462546425 : Int64)).toInt = a6.toInt - 1829881462546425 := by rw [Jvm.Kit.i64_sub (by rw [hp]; omega) (by rw [hp]; omega), hp]
  have hb : 0 ≤ (if (own_l5 a0 a1 a2 a3 a4 a5).toInt < 0 then (1 : Int) else 0) ∧ (if (own_l5 a0 a1 a2 a3 a4 a5).toInt < 0 then (1 : Int) else 0) ≤ 1 := by split <;> omega
  show ((a6 - (1829881462546425 : Int64)) - own_sh (own_l5 a0 a1 a2 a3 a4 a5)).toInt = _
  rw [Jvm.Kit.i64_sub (by rw [hd, hs]; omega) (by rw [hd, hs]; omega), hd, hs]
theorem own_chain (a0 b0 d0 a1 b1 d1 a2 b2 d2 a3 b3 d3 a4 b4 d4 a5 b5 d5 a6 b6 d6 : Int)
    (hd0 : d0 = a0 - 35747322042231467 + 36028797018963968 * b0) (hr0 : 0 ≤ d0 ∧ d0 < 36028797018963968) (hd1 : d1 = a1 - 36025922209447795 - b0 + 36028797018963968 * b1) (hr1 : 0 ≤ d1 ∧ d1 < 36028797018963968) (hd2 : d2 = a2 - 1084959616957103 - b1 + 36028797018963968 * b2) (hr2 : 0 ≤ d2 ∧ d2 < 36028797018963968) (hd3 : d3 = a3 - 7925923977987733 - b2 + 36028797018963968 * b3) (hr3 : 0 ≤ d3 ∧ d3 < 36028797018963968) (hd4 : d4 = a4 - 16551456537884751 - b3 + 36028797018963968 * b4) (hr4 : 0 ≤ d4 ∧ d4 < 36028797018963968) (hd5 : d5 = a5 - 23443114579904617 - b4 + 36028797018963968 * b5) (hr5 : 0 ≤ d5 ∧ d5 < 36028797018963968) (hd6 : d6 = a6 - 1829881462546425 - b5 + 36028797018963968 * b6) (hr6 : 0 ≤ d6 ∧ d6 < 36028797018963968) :
    (b6 = 1 → a0 + a1 * 36028797018963968 + a2 * 1298074214633706907132624082305024 + a3 * 46768052394588893382517914646921056628989841375232 + a4 * 1684996666696914987166688442938726917102321526408785780068975640576 + a5 * 60708402882054033466233184588234965832575213720379360039119137804340758912662765568 + a6 * 2187250724783011924372502227117621365353169430893212436425770606409952999199375923223513177023053824 < 4002409555221667393417789825735904156556882819939007885332058136124031650490837864442687629129015664037894272559787) ∧ (b6 = 0 → (d0 + d1 * 36028797018963968 + d2 * 1298074214633706907132624082305024 + d3 * 46768052394588893382517914646921056628989841375232 + d4 * 1684996666696914987166688442938726917102321526408785780068975640576 + d5 * 60708402882054033466233184588234965832575213720379360039119137804340758912662765568 + d6 * 2187250724783011924372502227117621365353169430893212436425770606409952999199375923223513177023053824 = a0 + a1 * 36028797018963968 + a2 * 1298074214633706907132624082305024 + a3 * 46768052394588893382517914646921056628989841375232 + a4 * 1684996666696914987166688442938726917102321526408785780068975640576 + a5 * 60708402882054033466233184588234965832575213720379360039119137804340758912662765568 + a6 * 2187250724783011924372502227117621365353169430893212436425770606409952999199375923223513177023053824 - 4002409555221667393417789825735904156556882819939007885332058136124031650490837864442687629129015664037894272559787) ∧ ¬ (a0 + a1 * 36028797018963968 + a2 * 1298074214633706907132624082305024 + a3 * 46768052394588893382517914646921056628989841375232 + a4 * 1684996666696914987166688442938726917102321526408785780068975640576 + a5 * 60708402882054033466233184588234965832575213720379360039119137804340758912662765568 + a6 * 2187250724783011924372502227117621365353169430893212436425770606409952999199375923223513177023053824 < 4002409555221667393417789825735904156556882819939007885332058136124031650490837864442687629129015664037894272559787)) := by
  have key : d0 + d1 * 36028797018963968 + d2 * 1298074214633706907132624082305024 + d3 * 46768052394588893382517914646921056628989841375232 + d4 * 1684996666696914987166688442938726917102321526408785780068975640576 + d5 * 60708402882054033466233184588234965832575213720379360039119137804340758912662765568 + d6 * 2187250724783011924372502227117621365353169430893212436425770606409952999199375923223513177023053824 = a0 + a1 * 36028797018963968 + a2 * 1298074214633706907132624082305024 + a3 * 46768052394588893382517914646921056628989841375232 + a4 * 1684996666696914987166688442938726917102321526408785780068975640576 + a5 * 60708402882054033466233184588234965832575213720379360039119137804340758912662765568 + a6 * 2187250724783011924372502227117621365353169430893212436425770606409952999199375923223513177023053824 - 4002409555221667393417789825735904156556882819939007885332058136124031650490837864442687629129015664037894272559787 + 78804012392788958424558080200287227610159478540930893335896586808491443542994421222828532509769831281613255980613632 * b6 := by omega
  have lo : 0 ≤ d0 + d1 * 36028797018963968 + d2 * 1298074214633706907132624082305024 + d3 * 46768052394588893382517914646921056628989841375232 + d4 * 1684996666696914987166688442938726917102321526408785780068975640576 + d5 * 60708402882054033466233184588234965832575213720379360039119137804340758912662765568 + d6 * 2187250724783011924372502227117621365353169430893212436425770606409952999199375923223513177023053824 := by omega
  have hi : d0 + d1 * 36028797018963968 + d2 * 1298074214633706907132624082305024 + d3 * 46768052394588893382517914646921056628989841375232 + d4 * 1684996666696914987166688442938726917102321526408785780068975640576 + d5 * 60708402882054033466233184588234965832575213720379360039119137804340758912662765568 + d6 * 2187250724783011924372502227117621365353169430893212436425770606409952999199375923223513177023053824 < 78804012392788958424558080200287227610159478540930893335896586808491443542994421222828532509769831281613255980613632 := by omega
  constructor <;> intro h <;> omega
/-- below p the limbs are kept; else p is taken off -/
theorem own_canon {a0 a1 a2 a3 a4 a5 a6 : Int64} (h0 : 0 ≤ (a0).toInt ∧ (a0).toInt < 36028797018963968) (h1 : 0 ≤ (a1).toInt ∧ (a1).toInt < 36028797018963968) (h2 : 0 ≤ (a2).toInt ∧ (a2).toInt < 36028797018963968) (h3 : 0 ≤ (a3).toInt ∧ (a3).toInt < 36028797018963968) (h4 : 0 ≤ (a4).toInt ∧ (a4).toInt < 36028797018963968) (h5 : 0 ≤ (a5).toInt ∧ (a5).toInt < 36028797018963968) (h6 : 0 ≤ (a6).toInt ∧ (a6).toInt < 36028797018963968) : ((a0).toInt + (a1).toInt * 36028797018963968 + (a2).toInt * 1298074214633706907132624082305024 + (a3).toInt * 46768052394588893382517914646921056628989841375232 + (a4).toInt * 1684996666696914987166688442938726917102321526408785780068975640576 + (a5).toInt * 60708402882054033466233184588234965832575213720379360039119137804340758912662765568 + (a6).toInt * 2187250724783011924372502227117621365353169430893212436425770606409952999199375923223513177023053824 < 4002409555221667393417789825735904156556882819939007885332058136124031650490837864442687629129015664037894272559787 ∧ (own_c0 a0 a1 a2 a3 a4 a5 a6) = a0 ∧ (own_c1 a0 a1 a2 a3 a4 a5 a6) = a1 ∧ (own_c2 a0 a1 a2 a3 a4 a5 a6) = a2 ∧ (own_c3 a0 a1 a2 a3 a4 a5 a6) = a3 ∧ (own_c4 a0 a1 a2 a3 a4 a5 a6) = a4 ∧ (own_c5 a0 a1 a2 a3 a4 a5 a6) = a5 ∧ (own_c6 a0 a1 a2 a3 a4 a5 a6) = a6) ∨ (¬ ((a0).toInt + (a1).toInt * 36028797018963968 + (a2).toInt * 1298074214633706907132624082305024 + (a3).toInt * 46768052394588893382517914646921056628989841375232 + (a4).toInt * 1684996666696914987166688442938726917102321526408785780068975640576 + (a5).toInt * 60708402882054033466233184588234965832575213720379360039119137804340758912662765568 + (a6).toInt * 2187250724783011924372502227117621365353169430893212436425770606409952999199375923223513177023053824 < 4002409555221667393417789825735904156556882819939007885332058136124031650490837864442687629129015664037894272559787) ∧ (own_c0 a0 a1 a2 a3 a4 a5 a6).toInt + (own_c1 a0 a1 a2 a3 a4 a5 a6).toInt * 36028797018963968 + (own_c2 a0 a1 a2 a3 a4 a5 a6).toInt * 1298074214633706907132624082305024 + (own_c3 a0 a1 a2 a3 a4 a5 a6).toInt * 46768052394588893382517914646921056628989841375232 + (own_c4 a0 a1 a2 a3 a4 a5 a6).toInt * 1684996666696914987166688442938726917102321526408785780068975640576 + (own_c5 a0 a1 a2 a3 a4 a5 a6).toInt * 60708402882054033466233184588234965832575213720379360039119137804340758912662765568 + (own_c6 a0 a1 a2 a3 a4 a5 a6).toInt * 2187250724783011924372502227117621365353169430893212436425770606409952999199375923223513177023053824 = (a0).toInt + (a1).toInt * 36028797018963968 + (a2).toInt * 1298074214633706907132624082305024 + (a3).toInt * 46768052394588893382517914646921056628989841375232 + (a4).toInt * 1684996666696914987166688442938726917102321526408785780068975640576 + (a5).toInt * 60708402882054033466233184588234965832575213720379360039119137804340758912662765568 + (a6).toInt * 2187250724783011924372502227117621365353169430893212436425770606409952999199375923223513177023053824 - 4002409555221667393417789825735904156556882819939007885332058136124031650490837864442687629129015664037894272559787 ∧ 0 ≤ (own_c0 a0 a1 a2 a3 a4 a5 a6).toInt ∧ 0 ≤ (own_c1 a0 a1 a2 a3 a4 a5 a6).toInt ∧ 0 ≤ (own_c2 a0 a1 a2 a3 a4 a5 a6).toInt ∧ 0 ≤ (own_c3 a0 a1 a2 a3 a4 a5 a6).toInt ∧ 0 ≤ (own_c4 a0 a1 a2 a3 a4 a5 a6).toInt ∧ 0 ≤ (own_c5 a0 a1 a2 a3 a4 a5 a6).toInt ∧ 0 ≤ (own_c6 a0 a1 a2 a3 a4 a5 a6).toInt) := by
  have e0 := own_l0_int h0
  have e1 := own_l1_int (a0 := a0) h1
  have e2 := own_l2_int (a0 := a0) (a1 := a1) h2
  have e3 := own_l3_int (a0 := a0) (a1 := a1) (a2 := a2) h3
  have e4 := own_l4_int (a0 := a0) (a1 := a1) (a2 := a2) (a3 := a3) h4
  have e5 := own_l5_int (a0 := a0) (a1 := a1) (a2 := a2) (a3 := a3) (a4 := a4) h5
  have e6 := own_l6_int (a0 := a0) (a1 := a1) (a2 := a2) (a3 := a3) (a4 := a4) (a5 := a5) h6
  have m0 := own_mask (own_l0 a0)
  have m1 := own_mask (own_l1 a0 a1)
  have m2 := own_mask (own_l2 a0 a1 a2)
  have m3 := own_mask (own_l3 a0 a1 a2 a3)
  have m4 := own_mask (own_l4 a0 a1 a2 a3 a4)
  have m5 := own_mask (own_l5 a0 a1 a2 a3 a4 a5)
  have m6 := own_mask (own_l6 a0 a1 a2 a3 a4 a5 a6)
  have c0 : (own_c0 a0 a1 a2 a3 a4 a5 a6) = if own_l6 a0 a1 a2 a3 a4 a5 a6 < 0 then a0 else (own_l0 a0 &&& (36028797018963967 : Int64)) := own_cn_eq _ _ _
  have c1 : (own_c1 a0 a1 a2 a3 a4 a5 a6) = if own_l6 a0 a1 a2 a3 a4 a5 a6 < 0 then a1 else (own_l1 a0 a1 &&& (36028797018963967 : Int64)) := own_cn_eq _ _ _
  have c2 : (own_c2 a0 a1 a2 a3 a4 a5 a6) = if own_l6 a0 a1 a2 a3 a4 a5 a6 < 0 then a2 else (own_l2 a0 a1 a2 &&& (36028797018963967 : Int64)) := own_cn_eq _ _ _
  have c3 : (own_c3 a0 a1 a2 a3 a4 a5 a6) = if own_l6 a0 a1 a2 a3 a4 a5 a6 < 0 then a3 else (own_l3 a0 a1 a2 a3 &&& (36028797018963967 : Int64)) := own_cn_eq _ _ _
  have c4 : (own_c4 a0 a1 a2 a3 a4 a5 a6) = if own_l6 a0 a1 a2 a3 a4 a5 a6 < 0 then a4 else (own_l4 a0 a1 a2 a3 a4 &&& (36028797018963967 : Int64)) := own_cn_eq _ _ _
  have c5 : (own_c5 a0 a1 a2 a3 a4 a5 a6) = if own_l6 a0 a1 a2 a3 a4 a5 a6 < 0 then a5 else (own_l5 a0 a1 a2 a3 a4 a5 &&& (36028797018963967 : Int64)) := own_cn_eq _ _ _
  have c6 : (own_c6 a0 a1 a2 a3 a4 a5 a6) = if own_l6 a0 a1 a2 a3 a4 a5 a6 < 0 then a6 else (own_l6 a0 a1 a2 a3 a4 a5 a6 &&& (36028797018963967 : Int64)) := own_cn_eq _ _ _
  have hz : (own_l6 a0 a1 a2 a3 a4 a5 a6 < 0) ↔ (own_l6 a0 a1 a2 a3 a4 a5 a6).toInt < 0 := Int64.lt_iff_toInt_lt
  obtain ⟨b0, hb0⟩ : ∃ b : Int, b = (if (own_l0 a0).toInt < 0 then 1 else 0) := ⟨_, rfl⟩
  have r0 : 0 ≤ b0 ∧ b0 ≤ 1 := by rw [hb0]; split <;> omega
  rw [own_bor _ (by omega) (by omega), ← hb0] at m0
  obtain ⟨b1, hb1⟩ : ∃ b : Int, b = (if (own_l1 a0 a1).toInt < 0 then 1 else 0) := ⟨_, rfl⟩
  have r1 : 0 ≤ b1 ∧ b1 ≤ 1 := by rw [hb1]; split <;> omega
  rw [← hb0] at e1
  rw [own_bor _ (by omega) (by omega), ← hb1] at m1
  obtain ⟨b2, hb2⟩ : ∃ b : Int, b = (if (own_l2 a0 a1 a2).toInt < 0 then 1 else 0) := ⟨_, rfl⟩
  have r2 : 0 ≤ b2 ∧ b2 ≤ 1 := by rw [hb2]; split <;> omega
  rw [← hb1] at e2
  rw [own_bor _ (by omega) (by omega), ← hb2] at m2
  obtain ⟨b3, hb3⟩ : ∃ b : Int, b = (if (own_l3 a0 a1 a2 a3).toInt < 0 then 1 else 0) := ⟨_, rfl⟩
  have r3 : 0 ≤ b3 ∧ b3 ≤ 1 := by rw [hb3]; split <;> omega
  rw [← hb2] at e3
  rw [own_bor _ (by omega) (by omega), ← hb3] at m3
  obtain ⟨b4, hb4⟩ : ∃ b : Int, b = (if (own_l4 a0 a1 a2 a3 a4).toInt < 0 then 1 else 0) := ⟨_, rfl⟩
  have r4 : 0 ≤ b4 ∧ b4 ≤ 1 := by rw [hb4]; split <;> omega
  rw [← hb3] at e4
  rw [own_bor _ (by omega) (by omega), ← hb4] at m4
  obtain ⟨b5, hb5⟩ : ∃ b : Int, b = (if (own_l5 a0 a1 a2 a3 a4 a5).toInt < 0 then 1 else 0) := ⟨_, rfl⟩
  have r5 : 0 ≤ b5 ∧ b5 ≤ 1 := by rw [hb5]; split <;> omega
  rw [← hb4] at e5
  rw [own_bor _ (by omega) (by omega), ← hb5] at m5
  obtain ⟨b6, hb6⟩ : ∃ b : Int, b = (if (own_l6 a0 a1 a2 a3 a4 a5 a6).toInt < 0 then 1 else 0) := ⟨_, rfl⟩
  have r6 : 0 ≤ b6 ∧ b6 ≤ 1 := by rw [hb6]; split <;> omega
  rw [← hb5] at e6
  rw [own_bor _ (by omega) (by omega), ← hb6] at m6
  have ch := own_chain a0.toInt b0 (own_l0 a0 &&& (36028797018963967 : Int64)).toInt a1.toInt b1 (own_l1 a0 a1 &&& (36028797018963967 : Int64)).toInt a2.toInt b2 (own_l2 a0 a1 a2 &&& (36028797018963967 : Int64)).toInt a3.toInt b3 (own_l3 a0 a1 a2 a3 &&& (36028797018963967 : Int64)).toInt a4.toInt b4 (own_l4 a0 a1 a2 a3 a4 &&& (36028797018963967 : Int64)).toInt a5.toInt b5 (own_l5 a0 a1 a2 a3 a4 a5 &&& (36028797018963967 : Int64)).toInt a6.toInt b6 (own_l6 a0 a1 a2 a3 a4 a5 a6 &&& (36028797018963967 : Int64)).toInt (by rw [m0, e0]) (by have := own_mask (own_l0 a0); omega) (by rw [m1, e1]) (by have := own_mask (own_l1 a0 a1); omega) (by rw [m2, e2]) (by have := own_mask (own_l2 a0 a1 a2); omega) (by rw [m3, e3]) (by have := own_mask (own_l3 a0 a1 a2 a3); omega) (by rw [m4, e4]) (by have := own_mask (own_l4 a0 a1 a2 a3 a4); omega) (by rw [m5, e5]) (by have := own_mask (own_l5 a0 a1 a2 a3 a4 a5); omega) (by rw [m6, e6]) (by have := own_mask (own_l6 a0 a1 a2 a3 a4 a5 a6); omega)
  by_cases c : own_l6 a0 a1 a2 a3 a4 a5 a6 < 0
  · refine Or.inl ⟨ch.1 (by rw [hb6, if_pos (hz.mp c)]), by rw [c0, if_pos c], by rw [c1, if_pos c], by rw [c2, if_pos c], by rw [c3, if_pos c], by rw [c4, if_pos c], by rw [c5, if_pos c], by rw [c6, if_pos c]⟩
  · refine Or.inr ?_
    rw [c0, if_neg c, c1, if_neg c, c2, if_neg c, c3, if_neg c, c4, if_neg c, c5, if_neg c, c6, if_neg c]
    obtain ⟨q1, q2⟩ := ch.2 (by rw [hb6, if_neg fun q => c (hz.mpr q)])
    exact ⟨q2, q1, (by have := own_mask (own_l0 a0); omega), (by have := own_mask (own_l1 a0 a1); omega), (by have := own_mask (own_l2 a0 a1 a2); omega), (by have := own_mask (own_l3 a0 a1 a2 a3); omega), (by have := own_mask (own_l4 a0 a1 a2 a3 a4); omega), (by have := own_mask (own_l5 a0 a1 a2 a3 a4 a5); omega), (by have := own_mask (own_l6 a0 a1 a2 a3 a4 a5 a6); omega)⟩
def own_sh55 (l : Int64) : Int64 := ((l.toUInt64 >>> ((55 : Int32) &&& 0x3f).toInt64.toUInt64).toInt64)
theorem own_sh55_int (l : Int64) (h : 0 ≤ l.toInt) : (own_sh55 l).toInt = l.toInt / 36028797018963968 := by
  have e : (((55 : Int32) &&& 0x3f).toInt64.toUInt64).toNat = 55 := by decide
  exact Jvm.Kit.i64_lushr (Jvm.Kit.i64_nonneg.mpr h) e (by decide)
def own_s0 (a0 : Int64) : Int64 := (a0 + (35747322042231467 : Int64))
def own_s1 (a0 a1 : Int64) : Int64 := ((a1 + (36025922209447795 : Int64)) + own_sh55 (own_s0 a0))
def own_s2 (a0 a1 a2 : Int64) : Int64 := ((a2 + (1084959616957103 : Int64)) + own_sh55 (own_s1 a0 a1))
def own_s3 (a0 a1 a2 a3 : Int64) : Int64 := ((a3 + (7925923977987733 : Int64)) + own_sh55 (own_s2 a0 a1 a2))
def own_s4 (a0 a1 a2 a3 a4 : Int64) : Int64 := ((a4 + (16551456537884751 : Int64)) + own_sh55 (own_s3 a0 a1 a2 a3))
def own_s5 (a0 a1 a2 a3 a4 a5 : Int64) : Int64 := ((a5 + (23443114579904617 : Int64)) + own_sh55 (own_s4 a0 a1 a2 a3 a4))
def own_s6 (a0 a1 a2 a3 a4 a5 a6 : Int64) : Int64 := ((a6 + (1829881462546425 : Int64)) + own_sh55 (own_s5 a0 a1 a2 a3 a4 a5))
theorem own_s0_int {a0 : Int64} (h : 0 ≤ (a0).toInt ∧ (a0).toInt < 36028797018963968) : (own_s0 a0).toInt = a0.toInt + 35747322042231467 := by
  have hp : (35747322042231467 : Int64).toInt = 35747322042231467 := rfl
  show (a0 + (35747322042231467 : Int64)).toInt = _
  rw [Jvm.Kit.i64_add (by rw [hp]; omega) (by rw [hp]; omega), hp]
theorem own_s1_int {a0 a1 : Int64} (h : 0 ≤ (a1).toInt ∧ (a1).toInt < 36028797018963968) (hs : 0 ≤ (own_s0 a0).toInt ∧ (own_s0 a0).toInt < 2 * 36028797018963968) : (own_s1 a0 a1).toInt = a1.toInt + 36025922209447795 + (own_s0 a0).toInt / 36028797018963968 := by
  have hp : (36025922209447795 : Int64).toInt = 36025922209447795 := rfl
  have hq := own_sh55_int (own_s0 a0) hs.1
  have hd : (a1 + (36025922209447795 : Int64)).toInt = a1.toInt + 36025922209447795 := by rw [Jvm.Kit.i64_add (by rw [hp]; omega) (by rw [hp]; omega), hp]
  show ((a1 + (36025922209447795 : Int64)) + own_sh55 (own_s0 a0)).toInt = _
  rw [Jvm.Kit.i64_add (by rw [hd, hq]; omega) (by rw [hd, hq]; omega), hd, hq]
theorem own_s2_int {a0 a1 a2 : Int64} (h : 0 ≤ (a2).toInt ∧ (a2).toInt < 36028797018963968) (hs : 0 ≤ (own_s1 a0 a1).toInt ∧ (own_s1 a0 a1).toInt < 2 * 36028797018963968) : (own_s2 a0 a1 a2).toInt = a2.toInt + 1084959616957103 + (own_s1 a0 a1).toInt / 36028797018963968 := by
  have hp : (1084959616957103 : Int64).toInt = 1084959616957103 := rfl
  have hq := own_sh55_int (own_s1 a0 a1) hs.1
  have hd : (a2 + (1084959616957103 : Int64)).toInt = a2.toInt + 1084959616957103 := by rw [Jvm.Kit.i64_add (by rw [hp]; omega) (by rw [hp]; omega), hp]
  show ((a2 + (1084959616957103 : Int64)) + own_sh55 (own_s1 a0 a1)).toInt = _
  rw [Jvm.Kit.i64_add (by rw [hd, hq]; omega) (by rw [hd, hq]; omega), hd, hq]
theorem own_s3_int {a0 a1 a2 a3 : Int64} (h : 0 ≤ (a3).toInt ∧ (a3).toInt < 36028797018963968) (hs : 0 ≤ (own_s2 a0 a1 a2).toInt ∧ (own_s2 a0 a1 a2).toInt < 2 * 36028797018963968) : (own_s3 a0 a1 a2 a3).toInt = a3.toInt + 7925923977987733 + (own_s2 a0 a1 a2).toInt / 36028797018963968 := by
  have hp : (7925923977987733 : Int64).toInt = 7925923977987733 := rfl
  have hq := own_sh55_int (own_s2 a0 a1 a2) hs.1
  have hd : (a3 + (7925923977987733 : Int64)).toInt = a3.toInt + 7925923977987733 := by rw [Jvm.Kit.i64_add (by rw [hp]; omega) (by rw [hp]; omega), hp]
  show ((a3 + (7925923977987733 : Int64)) + own_sh55 (own_s2 a0 a1 a2)).toInt = _
  rw [Jvm.Kit.i64_add (by rw [hd, hq]; omega) (by rw [hd, hq]; omega), hd, hq]
theorem own_s4_int {a0 a1 a2 a3 a4 : Int64} (h : 0 ≤ (a4).toInt ∧ (a4).toInt < 36028797018963968) (hs : 0 ≤ (own_s3 a0 a1 a2 a3).toInt ∧ (own_s3 a0 a1 a2 a3).toInt < 2 * 36028797018963968) : (own_s4 a0 a1 a2 a3 a4).toInt = a4.toInt + 16551456537884751 + (own_s3 a0 a1 a2 a3).toInt / 36028797018963968 := by
  have hp : (16551456537884751 : Int64).toInt = 16551456537884751 := rfl
  have hq := own_sh55_int (own_s3 a0 a1 a2 a3) hs.1
  have hd : (a4 + (16551456537884751 : Int64)).toInt = a4.toInt + 16551456537884751 := by rw [Jvm.Kit.i64_add (by rw [hp]; omega) (by rw [hp]; omega), hp]
  show ((a4 + (16551456537884751 : Int64)) + own_sh55 (own_s3 a0 a1 a2 a3)).toInt = _
  rw [Jvm.Kit.i64_add (by rw [hd, hq]; omega) (by rw [hd, hq]; omega), hd, hq]
theorem own_s5_int {a0 a1 a2 a3 a4 a5 : Int64} (h : 0 ≤ (a5).toInt ∧ (a5).toInt < 36028797018963968) (hs : 0 ≤ (own_s4 a0 a1 a2 a3 a4).toInt ∧ (own_s4 a0 a1 a2 a3 a4).toInt < 2 * 36028797018963968) : (own_s5 a0 a1 a2 a3 a4 a5).toInt = a5.toInt + 23443114579904617 + (own_s4 a0 a1 a2 a3 a4).toInt / 36028797018963968 := by
  have hp : (23443114579904617 : Int64).toInt = 23443114579904617 := rfl
  have hq := own_sh55_int (own_s4 a0 a1 a2 a3 a4) hs.1
  have hd : (a5 + (23443114579904617 : Int64)).toInt = a5.toInt + 23443114579904617 := by rw [Jvm.Kit.i64_add (by rw [hp]; omega) (by rw [hp]; omega), hp]
  show ((a5 + (23443114579904617 : Int64)) + own_sh55 (own_s4 a0 a1 a2 a3 a4)).toInt = _
  rw [Jvm.Kit.i64_add (by rw [hd, hq]; omega) (by rw [hd, hq]; omega), hd, hq]
theorem own_s6_int {a0 a1 a2 a3 a4 a5 a6 : Int64} (h : 0 ≤ (a6).toInt ∧ (a6).toInt < 36028797018963968) (hs : 0 ≤ (own_s5 a0 a1 a2 a3 a4 a5).toInt ∧ (own_s5 a0 a1 a2 a3 a4 a5).toInt < 2 * 36028797018963968) : (own_s6 a0 a1 a2 a3 a4 a5 a6).toInt = a6.toInt + 1829881462546425 + (own_s5 a0 a1 a2 a3 a4 a5).toInt / 36028797018963968 := by
  have hp : (1829881462546425 : Int64).toInt = 1829881462546425 := rfl
  have hq := own_sh55_int (own_s5 a0 a1 a2 a3 a4 a5) hs.1
  have hd : (a6 + (1829881462546425 : Int64)).toInt = a6.toInt + 1829881462546425 := by rw [Jvm.Kit.i64_add (by rw [hp]; omega) (by rw [hp]; omega), hp]
  show ((a6 + (1829881462546425 : Int64)) + own_sh55 (own_s5 a0 a1 a2 a3 a4 a5)).toInt = _
  rw [Jvm.Kit.i64_add (by rw [hd, hq]; omega) (by rw [hd, hq]; omega), hd, hq]
theorem own_pstep {a p c v z l b : Int} (ha : 0 ≤ a ∧ a < 36028797018963968) (hp : 0 ≤ p ∧ p < 36028797018963968) (hc : 0 ≤ c ∧ c ≤ 1) (hv : v = a + p + c) (hz : z = v % 36028797018963968) (hl : l = z - p - b) (hb : b = c) :
    (if l < 0 then (1 : Int) else 0) = v / 36028797018963968 ∧ l % 36028797018963968 = a ∧ (0 ≤ v / 36028797018963968 ∧ v / 36028797018963968 ≤ 1) ∧ (0 ≤ z ∧ z < 36028797018963968) ∧ (0 ≤ v ∧ v < 2 * 36028797018963968) := by
  have h : l = a - 36028797018963968 * (v / 36028797018963968) := by omega
  refine ⟨?_, ?_, ?_, ?_, ?_⟩
  · split <;> omega
  · omega
  · omega
  · omega
  · omega
theorem own_ptop {a c z : Int} (ha : 0 ≤ a ∧ a < 36028797018963968) (ht : a < 9007199254740992) (hc : 0 ≤ c ∧ c ≤ 1) (hz : z = a + 1829881462546425 + c) : 0 ≤ z ∧ z < 36028797018963968 := by omega
theorem own_ptop2 (a c : Int) : a + 1829881462546425 + c - 1829881462546425 - c = a := by omega
theorem own_pmask {l : Int64} {a : Int64} (h : l.toInt % 36028797018963968 = a.toInt) : (l &&& (36028797018963967 : Int64)) = a := by
  rw [← Int64.toInt_inj, own_mask]; exact h
theorem own_place {a0 a1 a2 a3 a4 a5 a6 : Int64} (h0 : 0 ≤ (a0).toInt ∧ (a0).toInt < 36028797018963968) (h1 : 0 ≤ (a1).toInt ∧ (a1).toInt < 36028797018963968) (h2 : 0 ≤ (a2).toInt ∧ (a2).toInt < 36028797018963968) (h3 : 0 ≤ (a3).toInt ∧ (a3).toInt < 36028797018963968) (h4 : 0 ≤ (a4).toInt ∧ (a4).toInt < 36028797018963968) (h5 : 0 ≤ (a5).toInt ∧ (a5).toInt < 36028797018963968) (h6 : 0 ≤ (a6).toInt ∧ (a6).toInt < 36028797018963968) (ht : a6.toInt < 9007199254740992) : own_c0 (own_s0 a0 &&& (36028797018963967 : Int64)) (own_s1 a0 a1 &&& (36028797018963967 : Int64)) (own_s2 a0 a1 a2 &&& (36028797018963967 : Int64)) (own_s3 a0 a1 a2 a3 &&& (36028797018963967 : Int64)) (own_s4 a0 a1 a2 a3 a4 &&& (36028797018963967 : Int64)) (own_s5 a0 a1 a2 a3 a4 a5 &&& (36028797018963967 : Int64)) (own_s6 a0 a1 a2 a3 a4 a5 a6) = a0 ∧ own_c1 (own_s0 a0 &&& (36028797018963967 : Int64)) (own_s1 a0 a1 &&& (36028797018963967 : Int64)) (own_s2 a0 a1 a2 &&& (36028797018963967 : Int64)) (own_s3 a0 a1 a2 a3 &&& (36028797018963967 : Int64)) (own_s4 a0 a1 a2 a3 a4 &&& (36028797018963967 : Int64)) (own_s5 a0 a1 a2 a3 a4 a5 &&& (36028797018963967 : Int64)) (own_s6 a0 a1 a2 a3 a4 a5 a6) = a1 ∧ own_c2 (own_s0 a0 &&& (36028797018963967 : Int64)) (own_s1 a0 a1 &&& (36028797018963967 : Int64)) (own_s2 a0 a1 a2 &&& (36028797018963967 : Int64)) (own_s3 a0 a1 a2 a3 &&& (36028797018963967 : Int64)) (own_s4 a0 a1 a2 a3 a4 &&& (36028797018963967 : Int64)) (own_s5 a0 a1 a2 a3 a4 a5 &&& (36028797018963967 : Int64)) (own_s6 a0 a1 a2 a3 a4 a5 a6) = a2 ∧ own_c3 (own_s0 a0 &&& (36028797018963967 : Int64)) (own_s1 a0 a1 &&& (36028797018963967 : Int64)) (own_s2 a0 a1 a2 &&& (36028797018963967 : Int64)) (own_s3 a0 a1 a2 a3 &&& (36028797018963967 : Int64)) (own_s4 a0 a1 a2 a3 a4 &&& (36028797018963967 : Int64)) (own_s5 a0 a1 a2 a3 a4 a5 &&& (36028797018963967 : Int64)) (own_s6 a0 a1 a2 a3 a4 a5 a6) = a3 ∧ own_c4 (own_s0 a0 &&& (36028797018963967 : Int64)) (own_s1 a0 a1 &&& (36028797018963967 : Int64)) (own_s2 a0 a1 a2 &&& (36028797018963967 : Int64)) (own_s3 a0 a1 a2 a3 &&& (36028797018963967 : Int64)) (own_s4 a0 a1 a2 a3 a4 &&& (36028797018963967 : Int64)) (own_s5 a0 a1 a2 a3 a4 a5 &&& (36028797018963967 : Int64)) (own_s6 a0 a1 a2 a3 a4 a5 a6) = a4 ∧ own_c5 (own_s0 a0 &&& (36028797018963967 : Int64)) (own_s1 a0 a1 &&& (36028797018963967 : Int64)) (own_s2 a0 a1 a2 &&& (36028797018963967 : Int64)) (own_s3 a0 a1 a2 a3 &&& (36028797018963967 : Int64)) (own_s4 a0 a1 a2 a3 a4 &&& (36028797018963967 : Int64)) (own_s5 a0 a1 a2 a3 a4 a5 &&& (36028797018963967 : Int64)) (own_s6 a0 a1 a2 a3 a4 a5 a6) = a5 ∧ own_c6 (own_s0 a0 &&& (36028797018963967 : Int64)) (own_s1 a0 a1 &&& (36028797018963967 : Int64)) (own_s2 a0 a1 a2 &&& (36028797018963967 : Int64)) (own_s3 a0 a1 a2 a3 &&& (36028797018963967 : Int64)) (own_s4 a0 a1 a2 a3 a4 &&& (36028797018963967 : Int64)) (own_s5 a0 a1 a2 a3 a4 a5 &&& (36028797018963967 : Int64)) (own_s6 a0 a1 a2 a3 a4 a5 a6) = a6 ∧ (0 ≤ ((own_s0 a0 &&& (36028797018963967 : Int64))).toInt ∧ ((own_s0 a0 &&& (36028797018963967 : Int64))).toInt < 36028797018963968) ∧ (0 ≤ ((own_s1 a0 a1 &&& (36028797018963967 : Int64))).toInt ∧ ((own_s1 a0 a1 &&& (36028797018963967 : Int64))).toInt < 36028797018963968) ∧ (0 ≤ ((own_s2 a0 a1 a2 &&& (36028797018963967 : Int64))).toInt ∧ ((own_s2 a0 a1 a2 &&& (36028797018963967 : Int64))).toInt < 36028797018963968) ∧ (0 ≤ ((own_s3 a0 a1 a2 a3 &&& (36028797018963967 : Int64))).toInt ∧ ((own_s3 a0 a1 a2 a3 &&& (36028797018963967 : Int64))).toInt < 36028797018963968) ∧ (0 ≤ ((own_s4 a0 a1 a2 a3 a4 &&& (36028797018963967 : Int64))).toInt ∧ ((own_s4 a0 a1 a2 a3 a4 &&& (36028797018963967 : Int64))).toInt < 36028797018963968) ∧ (0 ≤ ((own_s5 a0 a1 a2 a3 a4 a5 &&& (36028797018963967 : Int64))).toInt ∧ ((own_s5 a0 a1 a2 a3 a4 a5 &&& (36028797018963967 : Int64))).toInt < 36028797018963968) ∧ (0 ≤ ((own_s6 a0 a1 a2 a3 a4 a5 a6)).toInt ∧ ((own_s6 a0 a1 a2 a3 a4 a5 a6)).toInt < 36028797018963968) := by
  obtain ⟨z0, hz0⟩ : ∃ z, z = (own_s0 a0 &&& (36028797018963967 : Int64)) := ⟨_, rfl⟩
  obtain ⟨z1, hz1⟩ : ∃ z, z = (own_s1 a0 a1 &&& (36028797018963967 : Int64)) := ⟨_, rfl⟩
  obtain ⟨z2, hz2⟩ : ∃ z, z = (own_s2 a0 a1 a2 &&& (36028797018963967 : Int64)) := ⟨_, rfl⟩
  obtain ⟨z3, hz3⟩ : ∃ z, z = (own_s3 a0 a1 a2 a3 &&& (36028797018963967 : Int64)) := ⟨_, rfl⟩
  obtain ⟨z4, hz4⟩ : ∃ z, z = (own_s4 a0 a1 a2 a3 a4 &&& (36028797018963967 : Int64)) := ⟨_, rfl⟩
  obtain ⟨z5, hz5⟩ : ∃ z, z = (own_s5 a0 a1 a2 a3 a4 a5 &&& (36028797018963967 : Int64)) := ⟨_, rfl⟩
  obtain ⟨z6, hz6⟩ : ∃ z, z = (own_s6 a0 a1 a2 a3 a4 a5 a6) := ⟨_, rfl⟩
  rw [← hz0, ← hz1, ← hz2, ← hz3, ← hz4, ← hz5, ← hz6]
  have t0 : z0.toInt = (own_s0 a0).toInt % 36028797018963968 := by rw [hz0]; exact own_mask _
  have s0 : (own_s0 a0).toInt = a0.toInt + 35747322042231467 + 0 := by rw [own_s0_int h0, Int.add_zero]
  have g0 : 0 ≤ (z0).toInt ∧ (z0).toInt < 36028797018963968 := by rw [t0]; exact ⟨Int.emod_nonneg _ (by decide), Int.emod_lt_of_pos _ (by decide)⟩
  have e0 : (own_l0 z0).toInt = z0.toInt - 35747322042231467 - 0 := by rw [own_l0_int g0, Int.sub_zero]
  have q0 := own_pstep h0 (p := 35747322042231467) ⟨by decide, by decide⟩ ⟨by decide, by decide⟩ s0 t0 e0 rfl
  have t1 : z1.toInt = (own_s1 a0 a1).toInt % 36028797018963968 := by rw [hz1]; exact own_mask _
  have s1 := own_s1_int (a0 := a0) h1 q0.2.2.2.2
  have g1 : 0 ≤ (z1).toInt ∧ (z1).toInt < 36028797018963968 := by rw [t1]; exact ⟨Int.emod_nonneg _ (by decide), Int.emod_lt_of_pos _ (by decide)⟩
  have e1 := own_l1_int (a0 := z0) g1
  have q1 := own_pstep h1 (p := 36025922209447795) ⟨by decide, by decide⟩ q0.2.2.1 s1 t1 e1 q0.1
  have t2 : z2.toInt = (own_s2 a0 a1 a2).toInt % 36028797018963968 := by rw [hz2]; exact own_mask _
  have s2 := own_s2_int (a0 := a0) (a1 := a1) h2 q1.2.2.2.2
  have g2 : 0 ≤ (z2).toInt ∧ (z2).toInt < 36028797018963968 := by rw [t2]; exact ⟨Int.emod_nonneg _ (by decide), Int.emod_lt_of_pos _ (by decide)⟩
  have e2 := own_l2_int (a0 := z0) (a1 := z1) g2
  have q2 := own_pstep h2 (p := 1084959616957103) ⟨by decide, by decide⟩ q1.2.2.1 s2 t2 e2 q1.1
  have t3 : z3.toInt = (own_s3 a0 a1 a2 a3).toInt % 36028797018963968 := by rw [hz3]; exact own_mask _
  have s3 := own_s3_int (a0 := a0) (a1 := a1) (a2 := a2) h3 q2.2.2.2.2
  have g3 : 0 ≤ (z3).toInt ∧ (z3).toInt < 36028797018963968 := by rw [t3]; exact ⟨Int.emod_nonneg _ (by decide), Int.emod_lt_of_pos _ (by decide)⟩
  have e3 := own_l3_int (a0 := z0) (a1 := z1) (a2 := z2) g3
  have q3 := own_pstep h3 (p := 7925923977987733) ⟨by decide, by decide⟩ q2.2.2.1 s3 t3 e3 q2.1
  have t4 : z4.toInt = (own_s4 a0 a1 a2 a3 a4).toInt % 36028797018963968 := by rw [hz4]; exact own_mask _
  have s4 := own_s4_int (a0 := a0) (a1 := a1) (a2 := a2) (a3 := a3) h4 q3.2.2.2.2
  have g4 : 0 ≤ (z4).toInt ∧ (z4).toInt < 36028797018963968 := by rw [t4]; exact ⟨Int.emod_nonneg _ (by decide), Int.emod_lt_of_pos _ (by decide)⟩
  have e4 := own_l4_int (a0 := z0) (a1 := z1) (a2 := z2) (a3 := z3) g4
  have q4 := own_pstep h4 (p := 16551456537884751) ⟨by decide, by decide⟩ q3.2.2.1 s4 t4 e4 q3.1
  have t5 : z5.toInt = (own_s5 a0 a1 a2 a3 a4 a5).toInt % 36028797018963968 := by rw [hz5]; exact own_mask _
  have s5 := own_s5_int (a0 := a0) (a1 := a1) (a2 := a2) (a3 := a3) (a4 := a4) h5 q4.2.2.2.2
  have g5 : 0 ≤ (z5).toInt ∧ (z5).toInt < 36028797018963968 := by rw [t5]; exact ⟨Int.emod_nonneg _ (by decide), Int.emod_lt_of_pos _ (by decide)⟩
  have e5 := own_l5_int (a0 := z0) (a1 := z1) (a2 := z2) (a3 := z3) (a4 := z4) g5
  have q5 := own_pstep h5 (p := 23443114579904617) ⟨by decide, by decide⟩ q4.2.2.1 s5 t5 e5 q4.1
  have s6 := own_s6_int (a0 := a0) (a1 := a1) (a2 := a2) (a3 := a3) (a4 := a4) (a5 := a5) h6 q5.2.2.2.2
  have t6 : z6.toInt = a6.toInt + 1829881462546425 + (own_s5 a0 a1 a2 a3 a4 a5).toInt / 36028797018963968 := by rw [hz6]; exact s6
  have g6 : 0 ≤ (z6).toInt ∧ (z6).toInt < 36028797018963968 := own_ptop h6 ht q5.2.2.1 t6
  have e6 := own_l6_int (a0 := z0) (a1 := z1) (a2 := z2) (a3 := z3) (a4 := z4) (a5 := z5) g6
  rw [q5.1, t6] at e6
  have f6 : (own_l6 z0 z1 z2 z3 z4 z5 z6).toInt = a6.toInt := by rw [e6]; exact own_ptop2 _ _
  have hn : ¬ (own_l6 z0 z1 z2 z3 z4 z5 z6 < 0) := by rw [Int64.lt_iff_toInt_lt, f6]; exact Int.not_lt.mpr h6.1
  have m6 : (own_l6 z0 z1 z2 z3 z4 z5 z6).toInt % 36028797018963968 = a6.toInt := by rw [f6]; exact Int.emod_eq_of_lt h6.1 h6.2
  have k0 : own_c0 z0 z1 z2 z3 z4 z5 z6 = a0 := by rw [show own_c0 z0 z1 z2 z3 z4 z5 z6 = if own_l6 z0 z1 z2 z3 z4 z5 z6 < 0 then z0 else (own_l0 z0 &&& (36028797018963967 : Int64)) from own_cn_eq _ _ _, if_neg hn]; exact own_pmask q0.2.1
  have k1 : own_c1 z0 z1 z2 z3 z4 z5 z6 = a1 := by rw [show own_c1 z0 z1 z2 z3 z4 z5 z6 = if own_l6 z0 z1 z2 z3 z4 z5 z6 < 0 then z1 else (own_l1 z0 z1 &&& (36028797018963967 : Int64)) from own_cn_eq _ _ _, if_neg hn]; exact own_pmask q1.2.1
  have k2 : own_c2 z0 z1 z2 z3 z4 z5 z6 = a2 := by rw [show own_c2 z0 z1 z2 z3 z4 z5 z6 = if own_l6 z0 z1 z2 z3 z4 z5 z6 < 0 then z2 else (own_l2 z0 z1 z2 &&& (36028797018963967 : Int64)) from own_cn_eq _ _ _, if_neg hn]; exact own_pmask q2.2.1
  have k3 : own_c3 z0 z1 z2 z3 z4 z5 z6 = a3 := by rw [show own_c3 z0 z1 z2 z3 z4 z5 z6 = if own_l6 z0 z1 z2 z3 z4 z5 z6 < 0 then z3 else (own_l3 z0 z1 z2 z3 &&& (36028797018963967 : Int64)) from own_cn_eq _ _ _, if_neg hn]; exact own_pmask q3.2.1
  have k4 : own_c4 z0 z1 z2 z3 z4 z5 z6 = a4 := by rw [show own_c4 z0 z1 z2 z3 z4 z5 z6 = if own_l6 z0 z1 z2 z3 z4 z5 z6 < 0 then z4 else (own_l4 z0 z1 z2 z3 z4 &&& (36028797018963967 : Int64)) from own_cn_eq _ _ _, if_neg hn]; exact own_pmask q4.2.1
  have k5 : own_c5 z0 z1 z2 z3 z4 z5 z6 = a5 := by rw [show own_c5 z0 z1 z2 z3 z4 z5 z6 = if own_l6 z0 z1 z2 z3 z4 z5 z6 < 0 then z5 else (own_l5 z0 z1 z2 z3 z4 z5 &&& (36028797018963967 : Int64)) from own_cn_eq _ _ _, if_neg hn]; exact own_pmask q5.2.1
  have k6 : own_c6 z0 z1 z2 z3 z4 z5 z6 = a6 := by rw [show own_c6 z0 z1 z2 z3 z4 z5 z6 = if own_l6 z0 z1 z2 z3 z4 z5 z6 < 0 then z6 else (own_l6 z0 z1 z2 z3 z4 z5 z6 &&& (36028797018963967 : Int64)) from own_cn_eq _ _ _, if_neg hn]; exact own_pmask m6
  exact ⟨k0, k1, k2, k3, k4, k5, k6, g0, g1, g2, g3, g4, g5, g6⟩
/-- equal canonical limbs: the two numbers are the same, or p apart -/
theorem own_apart {a0 a1 a2 a3 a4 a5 a6 y0 y1 y2 y3 y4 y5 y6 : Int64} (h0 : 0 ≤ (a0).toInt ∧ (a0).toInt < 36028797018963968) (h1 : 0 ≤ (a1).toInt ∧ (a1).toInt < 36028797018963968) (h2 : 0 ≤ (a2).toInt ∧ (a2).toInt < 36028797018963968) (h3 : 0 ≤ (a3).toInt ∧ (a3).toInt < 36028797018963968) (h4 : 0 ≤ (a4).toInt ∧ (a4).toInt < 36028797018963968) (h5 : 0 ≤ (a5).toInt ∧ (a5).toInt < 36028797018963968) (h6 : 0 ≤ (a6).toInt ∧ (a6).toInt < 36028797018963968) (g0 : 0 ≤ (y0).toInt ∧ (y0).toInt < 36028797018963968) (g1 : 0 ≤ (y1).toInt ∧ (y1).toInt < 36028797018963968) (g2 : 0 ≤ (y2).toInt ∧ (y2).toInt < 36028797018963968) (g3 : 0 ≤ (y3).toInt ∧ (y3).toInt < 36028797018963968) (g4 : 0 ≤ (y4).toInt ∧ (y4).toInt < 36028797018963968) (g5 : 0 ≤ (y5).toInt ∧ (y5).toInt < 36028797018963968) (g6 : 0 ≤ (y6).toInt ∧ (y6).toInt < 36028797018963968) (h : ((((((((own_c0 a0 a1 a2 a3 a4 a5 a6) ^^^ (own_c0 y0 y1 y2 y3 y4 y5 y6)) ||| ((own_c1 a0 a1 a2 a3 a4 a5 a6) ^^^ (own_c1 y0 y1 y2 y3 y4 y5 y6))) ||| ((own_c2 a0 a1 a2 a3 a4 a5 a6) ^^^ (own_c2 y0 y1 y2 y3 y4 y5 y6))) ||| ((own_c3 a0 a1 a2 a3 a4 a5 a6) ^^^ (own_c3 y0 y1 y2 y3 y4 y5 y6))) ||| ((own_c4 a0 a1 a2 a3 a4 a5 a6) ^^^ (own_c4 y0 y1 y2 y3 y4 y5 y6))) ||| ((own_c5 a0 a1 a2 a3 a4 a5 a6) ^^^ (own_c5 y0 y1 y2 y3 y4 y5 y6))) ||| ((own_c6 a0 a1 a2 a3 a4 a5 a6) ^^^ (own_c6 y0 y1 y2 y3 y4 y5 y6))) = (0 : Int64)) : ((a0).toInt + (a1).toInt * 36028797018963968 + (a2).toInt * 1298074214633706907132624082305024 + (a3).toInt * 46768052394588893382517914646921056628989841375232 + (a4).toInt * 1684996666696914987166688442938726917102321526408785780068975640576 + (a5).toInt * 60708402882054033466233184588234965832575213720379360039119137804340758912662765568 + (a6).toInt * 2187250724783011924372502227117621365353169430893212436425770606409952999199375923223513177023053824) - ((y0).toInt + (y1).toInt * 36028797018963968 + (y2).toInt * 1298074214633706907132624082305024 + (y3).toInt * 46768052394588893382517914646921056628989841375232 + (y4).toInt * 1684996666696914987166688442938726917102321526408785780068975640576 + (y5).toInt * 60708402882054033466233184588234965832575213720379360039119137804340758912662765568 + (y6).toInt * 2187250724783011924372502227117621365353169430893212436425770606409952999199375923223513177023053824) = 0 ∨ ((a0).toInt + (a1).toInt * 36028797018963968 + (a2).toInt * 1298074214633706907132624082305024 + (a3).toInt * 46768052394588893382517914646921056628989841375232 + (a4).toInt * 1684996666696914987166688442938726917102321526408785780068975640576 + (a5).toInt * 60708402882054033466233184588234965832575213720379360039119137804340758912662765568 + (a6).toInt * 2187250724783011924372502227117621365353169430893212436425770606409952999199375923223513177023053824) - ((y0).toInt + (y1).toInt * 36028797018963968 + (y2).toInt * 1298074214633706907132624082305024 + (y3).toInt * 46768052394588893382517914646921056628989841375232 + (y4).toInt * 1684996666696914987166688442938726917102321526408785780068975640576 + (y5).toInt * 60708402882054033466233184588234965832575213720379360039119137804340758912662765568 + (y6).toInt * 2187250724783011924372502227117621365353169430893212436425770606409952999199375923223513177023053824) = 4002409555221667393417789825735904156556882819939007885332058136124031650490837864442687629129015664037894272559787 ∨ ((a0).toInt + (a1).toInt * 36028797018963968 + (a2).toInt * 1298074214633706907132624082305024 + (a3).toInt * 46768052394588893382517914646921056628989841375232 + (a4).toInt * 1684996666696914987166688442938726917102321526408785780068975640576 + (a5).toInt * 60708402882054033466233184588234965832575213720379360039119137804340758912662765568 + (a6).toInt * 2187250724783011924372502227117621365353169430893212436425770606409952999199375923223513177023053824) - ((y0).toInt + (y1).toInt * 36028797018963968 + (y2).toInt * 1298074214633706907132624082305024 + (y3).toInt * 46768052394588893382517914646921056628989841375232 + (y4).toInt * 1684996666696914987166688442938726917102321526408785780068975640576 + (y5).toInt * 60708402882054033466233184588234965832575213720379360039119137804340758912662765568 + (y6).toInt * 2187250724783011924372502227117621365353169430893212436425770606409952999199375923223513177023053824) = -4002409555221667393417789825735904156556882819939007885332058136124031650490837864442687629129015664037894272559787 := by
  simp only [own_or0, own_xor0] at h
  obtain ⟨⟨⟨⟨⟨⟨j0, j1⟩, j2⟩, j3⟩, j4⟩, j5⟩, j6⟩ := h
  have p := own_canon h0 h1 h2 h3 h4 h5 h6
  have q := own_canon g0 g1 g2 g3 g4 g5 g6
  rw [j0, j1, j2, j3, j4, j5, j6] at p
  rcases p with ⟨p, k0, k1, k2, k3, k4, k5, k6⟩ | ⟨p, pv, -⟩ <;> rcases q with ⟨q, n0, n1, n2, n3, n4, n5, n6⟩ | ⟨q, qv, -⟩
  · left; rw [← k0, n0, ← k1, n1, ← k2, n2, ← k3, n3, ← k4, n4, ← k5, n5, ← k6, n6]; omega
  · rw [k0, k1, k2, k3, k4, k5, k6] at qv; right; right; omega
  · rw [n0, n1, n2, n3, n4, n5, n6] at pv; right; left; omega
  · left; omega
theorem own_eq0 {a0 a1 a2 a3 a4 a5 a6 : Int64} (h0 : 0 ≤ (a0).toInt ∧ (a0).toInt < 36028797018963968) (h1 : 0 ≤ (a1).toInt ∧ (a1).toInt < 36028797018963968) (h2 : 0 ≤ (a2).toInt ∧ (a2).toInt < 36028797018963968) (h3 : 0 ≤ (a3).toInt ∧ (a3).toInt < 36028797018963968) (h4 : 0 ≤ (a4).toInt ∧ (a4).toInt < 36028797018963968) (h5 : 0 ≤ (a5).toInt ∧ (a5).toInt < 36028797018963968) (h6 : 0 ≤ (a6).toInt ∧ (a6).toInt < 36028797018963968) : ((((((((own_c0 a0 a1 a2 a3 a4 a5 a6) ^^^ (own_c0 (0 : Int64) a1 a2 a3 a4 a5 a6)) ||| ((own_c1 a0 a1 a2 a3 a4 a5 a6) ^^^ (own_c1 (0 : Int64) a1 a2 a3 a4 a5 a6))) ||| ((own_c2 a0 a1 a2 a3 a4 a5 a6) ^^^ (own_c2 (0 : Int64) a1 a2 a3 a4 a5 a6))) ||| ((own_c3 a0 a1 a2 a3 a4 a5 a6) ^^^ (own_c3 (0 : Int64) a1 a2 a3 a4 a5 a6))) ||| ((own_c4 a0 a1 a2 a3 a4 a5 a6) ^^^ (own_c4 (0 : Int64) a1 a2 a3 a4 a5 a6))) ||| ((own_c5 a0 a1 a2 a3 a4 a5 a6) ^^^ (own_c5 (0 : Int64) a1 a2 a3 a4 a5 a6))) ||| ((own_c6 a0 a1 a2 a3 a4 a5 a6) ^^^ (own_c6 (0 : Int64) a1 a2 a3 a4 a5 a6))) = (0 : Int64) ↔ a0 = (0 : Int64) := by
  constructor
  · intro h
    have q := own_apart h0 h1 h2 h3 h4 h5 h6 ⟨by decide, by decide⟩ h1 h2 h3 h4 h5 h6 h
    have z0 : (0 : Int64).toInt = 0 := rfl
    rw [z0] at q
    rw [← Int64.toInt_inj, z0]
    omega
  · intro h
    rw [h]
    simp only [own_or0, own_xor0, and_self]
theorem own_eq1 {a0 a1 a2 a3 a4 a5 a6 : Int64} (h0 : 0 ≤ (a0).toInt ∧ (a0).toInt < 36028797018963968) (h1 : 0 ≤ (a1).toInt ∧ (a1).toInt < 36028797018963968) (h2 : 0 ≤ (a2).toInt ∧ (a2).toInt < 36028797018963968) (h3 : 0 ≤ (a3).toInt ∧ (a3).toInt < 36028797018963968) (h4 : 0 ≤ (a4).toInt ∧ (a4).toInt < 36028797018963968) (h5 : 0 ≤ (a5).toInt ∧ (a5).toInt < 36028797018963968) (h6 : 0 ≤ (a6).toInt ∧ (a6).toInt < 36028797018963968) : ((((((((own_c0 a0 a1 a2 a3 a4 a5 a6) ^^^ (own_c0 a0 (0 : Int64) a2 a3 a4 a5 a6)) ||| ((own_c1 a0 a1 a2 a3 a4 a5 a6) ^^^ (own_c1 a0 (0 : Int64) a2 a3 a4 a5 a6))) ||| ((own_c2 a0 a1 a2 a3 a4 a5 a6) ^^^ (own_c2 a0 (0 : Int64) a2 a3 a4 a5 a6))) ||| ((own_c3 a0 a1 a2 a3 a4 a5 a6) ^^^ (own_c3 a0 (0 : Int64) a2 a3 a4 a5 a6))) ||| ((own_c4 a0 a1 a2 a3 a4 a5 a6) ^^^ (own_c4 a0 (0 : Int64) a2 a3 a4 a5 a6))) ||| ((own_c5 a0 a1 a2 a3 a4 a5 a6) ^^^ (own_c5 a0 (0 : Int64) a2 a3 a4 a5 a6))) ||| ((own_c6 a0 a1 a2 a3 a4 a5 a6) ^^^ (own_c6 a0 (0 : Int64) a2 a3 a4 a5 a6))) = (0 : Int64) ↔ a1 = (0 : Int64) := by
  constructor
  · intro h
    have q := own_apart h0 h1 h2 h3 h4 h5 h6 h0 ⟨by decide, by decide⟩ h2 h3 h4 h5 h6 h
    have z0 : (0 : Int64).toInt = 0 := rfl
    rw [z0] at q
    rw [← Int64.toInt_inj, z0]
    omega
  · intro h
    rw [h]
    simp only [own_or0, own_xor0, and_self]
theorem own_eq2 {a0 a1 a2 a3 a4 a5 a6 : Int64} (h0 : 0 ≤ (a0).toInt ∧ (a0).toInt < 36028797018963968) (h1 : 0 ≤ (a1).toInt ∧ (a1).toInt < 36028797018963968) (h2 : 0 ≤ (a2).toInt ∧ (a2).toInt < 36028797018963968) (h3 : 0 ≤ (a3).toInt ∧ (a3).toInt < 36028797018963968) (h4 : 0 ≤ (a4).toInt ∧ (a4).toInt < 36028797018963968) (h5 : 0 ≤ (a5).toInt ∧ (a5).toInt < 36028797018963968) (h6 : 0 ≤ (a6).toInt ∧ (a6).toInt < 36028797018963968) : ((((((((own_c0 a0 a1 a2 a3 a4 a5 a6) ^^^ (own_c0 a0 a1 (0 : Int64) a3 a4 a5 a6)) ||| ((own_c1 a0 a1 a2 a3 a4 a5 a6) ^^^ (own_c1 a0 a1 (0 : Int64) a3 a4 a5 a6))) ||| ((own_c2 a0 a1 a2 a3 a4 a5 a6) ^^^ (own_c2 a0 a1 (0 : Int64) a3 a4 a5 a6))) ||| ((own_c3 a0 a1 a2 a3 a4 a5 a6) ^^^ (own_c3 a0 a1 (0 : Int64) a3 a4 a5 a6))) ||| ((own_c4 a0 a1 a2 a3 a4 a5 a6) ^^^ (own_c4 a0 a1 (0 : Int64) a3 a4 a5 a6))) ||| ((own_c5 a0 a1 a2 a3 a4 a5 a6) ^^^ (own_c5 a0 a1 (0 : Int64) a3 a4 a5 a6))) ||| ((own_c6 a0 a1 a2 a3 a4 a5 a6) ^^^ (own_c6 a0 a1 (0 : Int64) a3 a4 a5 a6))) = (0 : Int64) ↔ a2 = (0 : Int64) := by
  constructor
  · intro h
    have q := own_apart h0 h1 h2 h3 h4 h5 h6 h0 h1 ⟨by decide, by decide⟩ h3 h4 h5 h6 h
    have z0 : (0 : Int64).toInt = 0 := rfl
    rw [z0] at q
    rw [← Int64.toInt_inj, z0]
    omega
  · intro h
    rw [h]
    simp only [own_or0, own_xor0, and_self]
theorem own_eq3 {a0 a1 a2 a3 a4 a5 a6 : Int64} (h0 : 0 ≤ (a0).toInt ∧ (a0).toInt < 36028797018963968) (h1 : 0 ≤ (a1).toInt ∧ (a1).toInt < 36028797018963968) (h2 : 0 ≤ (a2).toInt ∧ (a2).toInt < 36028797018963968) (h3 : 0 ≤ (a3).toInt ∧ (a3).toInt < 36028797018963968) (h4 : 0 ≤ (a4).toInt ∧ (a4).toInt < 36028797018963968) (h5 : 0 ≤ (a5).toInt ∧ (a5).toInt < 36028797018963968) (h6 : 0 ≤ (a6).toInt ∧ (a6).toInt < 36028797018963968) : ((((((((own_c0 a0 a1 a2 a3 a4 a5 a6) ^^^ (own_c0 a0 a1 a2 (0 : Int64) a4 a5 a6)) ||| ((own_c1 a0 a1 a2 a3 a4 a5 a6) ^^^ (own_c1 a0 a1 a2 (0 : Int64) a4 a5 a6))) ||| ((own_c2 a0 a1 a2 a3 a4 a5 a6) ^^^ (own_c2 a0 a1 a2 (0 : Int64) a4 a5 a6))) ||| ((own_c3 a0 a1 a2 a3 a4 a5 a6) ^^^ (own_c3 a0 a1 a2 (0 : Int64) a4 a5 a6))) ||| ((own_c4 a0 a1 a2 a3 a4 a5 a6) ^^^ (own_c4 a0 a1 a2 (0 : Int64) a4 a5 a6))) ||| ((own_c5 a0 a1 a2 a3 a4 a5 a6) ^^^ (own_c5 a0 a1 a2 (0 : Int64) a4 a5 a6))) ||| ((own_c6 a0 a1 a2 a3 a4 a5 a6) ^^^ (own_c6 a0 a1 a2 (0 : Int64) a4 a5 a6))) = (0 : Int64) ↔ a3 = (0 : Int64) := by
  constructor
  · intro h
    have q := own_apart h0 h1 h2 h3 h4 h5 h6 h0 h1 h2 ⟨by decide, by decide⟩ h4 h5 h6 h
    have z0 : (0 : Int64).toInt = 0 := rfl
    rw [z0] at q
    rw [← Int64.toInt_inj, z0]
    omega
  · intro h
    rw [h]
    simp only [own_or0, own_xor0, and_self]
theorem own_eq4 {a0 a1 a2 a3 a4 a5 a6 : Int64} (h0 : 0 ≤ (a0).toInt ∧ (a0).toInt < 36028797018963968) (h1 : 0 ≤ (a1).toInt ∧ (a1).toInt < 36028797018963968) (h2 : 0 ≤ (a2).toInt ∧ (a2).toInt < 36028797018963968) (h3 : 0 ≤ (a3).toInt ∧ (a3).toInt < 36028797018963968) (h4 : 0 ≤ (a4).toInt ∧ (a4).toInt < 36028797018963968) (h5 : 0 ≤ (a5).toInt ∧ (a5).toInt < 36028797018963968) (h6 : 0 ≤ (a6).toInt ∧ (a6).toInt < 36028797018963968) : ((((((((own_c0 a0 a1 a2 a3 a4 a5 a6) ^^^ (own_c0 a0 a1 a2 a3 (0 : Int64) a5 a6)) ||| ((own_c1 a0 a1 a2 a3 a4 a5 a6) ^^^ (own_c1 a0 a1 a2 a3 (0 : Int64) a5 a6))) ||| ((own_c2 a0 a1 a2 a3 a4 a5 a6) ^^^ (own_c2 a0 a1 a2 a3 (0 : Int64) a5 a6))) ||| ((own_c3 a0 a1 a2 a3 a4 a5 a6) ^^^ (own_c3 a0 a1 a2 a3 (0 : Int64) a5 a6))) ||| ((own_c4 a0 a1 a2 a3 a4 a5 a6) ^^^ (own_c4 a0 a1 a2 a3 (0 : Int64) a5 a6))) ||| ((own_c5 a0 a1 a2 a3 a4 a5 a6) ^^^ (own_c5 a0 a1 a2 a3 (0 : Int64) a5 a6))) ||| ((own_c6 a0 a1 a2 a3 a4 a5 a6) ^^^ (own_c6 a0 a1 a2 a3 (0 : Int64) a5 a6))) = (0 : Int64) ↔ a4 = (0 : Int64) := by
  constructor
  · intro h
    have q := own_apart h0 h1 h2 h3 h4 h5 h6 h0 h1 h2 h3 ⟨by decide, by decide⟩ h5 h6 h
    have z0 : (0 : Int64).toInt = 0 := rfl
    rw [z0] at q
    rw [← Int64.toInt_inj, z0]
    omega
  · intro h
    rw [h]
    simp only [own_or0, own_xor0, and_self]
theorem own_eq5 {a0 a1 a2 a3 a4 a5 a6 : Int64} (h0 : 0 ≤ (a0).toInt ∧ (a0).toInt < 36028797018963968) (h1 : 0 ≤ (a1).toInt ∧ (a1).toInt < 36028797018963968) (h2 : 0 ≤ (a2).toInt ∧ (a2).toInt < 36028797018963968) (h3 : 0 ≤ (a3).toInt ∧ (a3).toInt < 36028797018963968) (h4 : 0 ≤ (a4).toInt ∧ (a4).toInt < 36028797018963968) (h5 : 0 ≤ (a5).toInt ∧ (a5).toInt < 36028797018963968) (h6 : 0 ≤ (a6).toInt ∧ (a6).toInt < 36028797018963968) : ((((((((own_c0 a0 a1 a2 a3 a4 a5 a6) ^^^ (own_c0 a0 a1 a2 a3 a4 (0 : Int64) a6)) ||| ((own_c1 a0 a1 a2 a3 a4 a5 a6) ^^^ (own_c1 a0 a1 a2 a3 a4 (0 : Int64) a6))) ||| ((own_c2 a0 a1 a2 a3 a4 a5 a6) ^^^ (own_c2 a0 a1 a2 a3 a4 (0 : Int64) a6))) ||| ((own_c3 a0 a1 a2 a3 a4 a5 a6) ^^^ (own_c3 a0 a1 a2 a3 a4 (0 : Int64) a6))) ||| ((own_c4 a0 a1 a2 a3 a4 a5 a6) ^^^ (own_c4 a0 a1 a2 a3 a4 (0 : Int64) a6))) ||| ((own_c5 a0 a1 a2 a3 a4 a5 a6) ^^^ (own_c5 a0 a1 a2 a3 a4 (0 : Int64) a6))) ||| ((own_c6 a0 a1 a2 a3 a4 a5 a6) ^^^ (own_c6 a0 a1 a2 a3 a4 (0 : Int64) a6))) = (0 : Int64) ↔ a5 = (0 : Int64) := by
  constructor
  · intro h
    have q := own_apart h0 h1 h2 h3 h4 h5 h6 h0 h1 h2 h3 h4 ⟨by decide, by decide⟩ h6 h
    have z0 : (0 : Int64).toInt = 0 := rfl
    rw [z0] at q
    rw [← Int64.toInt_inj, z0]
    omega
  · intro h
    rw [h]
    simp only [own_or0, own_xor0, and_self]
theorem own_eq6 {a0 a1 a2 a3 a4 a5 a6 : Int64} (h0 : 0 ≤ (a0).toInt ∧ (a0).toInt < 36028797018963968) (h1 : 0 ≤ (a1).toInt ∧ (a1).toInt < 36028797018963968) (h2 : 0 ≤ (a2).toInt ∧ (a2).toInt < 36028797018963968) (h3 : 0 ≤ (a3).toInt ∧ (a3).toInt < 36028797018963968) (h4 : 0 ≤ (a4).toInt ∧ (a4).toInt < 36028797018963968) (h5 : 0 ≤ (a5).toInt ∧ (a5).toInt < 36028797018963968) (h6 : 0 ≤ (a6).toInt ∧ (a6).toInt < 36028797018963968) : ((((((((own_c0 a0 a1 a2 a3 a4 a5 a6) ^^^ (own_c0 a0 a1 a2 a3 a4 a5 (0 : Int64))) ||| ((own_c1 a0 a1 a2 a3 a4 a5 a6) ^^^ (own_c1 a0 a1 a2 a3 a4 a5 (0 : Int64)))) ||| ((own_c2 a0 a1 a2 a3 a4 a5 a6) ^^^ (own_c2 a0 a1 a2 a3 a4 a5 (0 : Int64)))) ||| ((own_c3 a0 a1 a2 a3 a4 a5 a6) ^^^ (own_c3 a0 a1 a2 a3 a4 a5 (0 : Int64)))) ||| ((own_c4 a0 a1 a2 a3 a4 a5 a6) ^^^ (own_c4 a0 a1 a2 a3 a4 a5 (0 : Int64)))) ||| ((own_c5 a0 a1 a2 a3 a4 a5 a6) ^^^ (own_c5 a0 a1 a2 a3 a4 a5 (0 : Int64)))) ||| ((own_c6 a0 a1 a2 a3 a4 a5 a6) ^^^ (own_c6 a0 a1 a2 a3 a4 a5 (0 : Int64)))) = (0 : Int64) ↔ a6 = (0 : Int64) := by
  constructor
  · intro h
    have q := own_apart h0 h1 h2 h3 h4 h5 h6 h0 h1 h2 h3 h4 h5 ⟨by decide, by decide⟩ h
    have z0 : (0 : Int64).toInt = 0 := rfl
    rw [z0] at q
    rw [← Int64.toInt_inj, z0]
    omega
  · intro h
    rw [h]
    simp only [own_or0, own_xor0, and_self]
theorem own_eqx (a0 a1 a2 a3 a4 a5 a6 : Int64) : ((((((((own_c0 a0 a1 a2 a3 a4 a5 a6) ^^^ (own_c0 a0 a1 a2 a3 a4 a5 a6)) ||| ((own_c1 a0 a1 a2 a3 a4 a5 a6) ^^^ (own_c1 a0 a1 a2 a3 a4 a5 a6))) ||| ((own_c2 a0 a1 a2 a3 a4 a5 a6) ^^^ (own_c2 a0 a1 a2 a3 a4 a5 a6))) ||| ((own_c3 a0 a1 a2 a3 a4 a5 a6) ^^^ (own_c3 a0 a1 a2 a3 a4 a5 a6))) ||| ((own_c4 a0 a1 a2 a3 a4 a5 a6) ^^^ (own_c4 a0 a1 a2 a3 a4 a5 a6))) ||| ((own_c5 a0 a1 a2 a3 a4 a5 a6) ^^^ (own_c5 a0 a1 a2 a3 a4 a5 a6))) ||| ((own_c6 a0 a1 a2 a3 a4 a5 a6) ^^^ (own_c6 a0 a1 a2 a3 a4 a5 a6))) = (0 : Int64) := by
  simp only [own_or0, own_xor0, and_self]
theorem own_mrng (x : Int64) : 0 ≤ ((x &&& (36028797018963967 : Int64))).toInt ∧ ((x &&& (36028797018963967 : Int64))).toInt < 36028797018963968 := by
  have := own_mask x
  omega
theorem own_orlt {a b : Int64} (ha : a.toBitVec.toNat < 2 ^ 51) (hb : b.toBitVec.toNat < 2 ^ 51) : (a ||| b).toBitVec.toNat < 2 ^ 51 := by
  rw [Int64.toBitVec_or, BitVec.toNat_or]
  exact Nat.or_lt_two_pow ha hb
theorem own_hi (w : Int64) : ((w.toUInt64 >>> ((55 : Int32) &&& 0x3f).toInt64.toUInt64).toInt64).toBitVec.toNat < 2 ^ 9 := by
  have e : ((55 : Int32) &&& 0x3f).toInt64.toUInt64 = 55 := by decide
  rw [e]
  show (w.toUInt64 >>> (55 : UInt64)).toNat < 2 ^ 9
  rw [UInt64.toNat_shiftRight, Nat.shiftRight_eq_div_pow]
  have h2 : w.toUInt64.toNat < 2 ^ 64 := w.toUInt64.toNat_lt
  have h3 : (55 : UInt64).toNat % 64 = 55 := by decide
  rw [h3]
  omega
theorem own_shl {a : Int64} {n : Int64} {j k : Nat} (ha : a.toBitVec.toNat < 2 ^ j) (hn : (n.toBitVec.smod 64).toNat = k) (hk : j + k ≤ 51) : (a <<< n).toBitVec.toNat < 2 ^ 51 := by
  have e : (a <<< n).toBitVec.toNat = a.toBitVec.toNat <<< k % 2 ^ 64 := by
    rw [Int64.toBitVec_shiftLeft, BitVec.shiftLeft_eq', BitVec.toNat_shiftLeft, hn]
  rw [e, Nat.shiftLeft_eq]
  have h1 : a.toBitVec.toNat * 2 ^ k < 2 ^ 51 := by
    calc a.toBitVec.toNat * 2 ^ k < 2 ^ j * 2 ^ k := Nat.mul_lt_mul_of_pos_right ha (Nat.two_pow_pos k)
      _ = 2 ^ (j + k) := (Nat.pow_add 2 j k).symm
      _ ≤ 2 ^ 51 := Nat.pow_le_pow_right (by decide) hk
  exact Nat.lt_of_le_of_lt (Nat.mod_le _ _) h1
theorem own_and6 (w : Int64) : (w &&& (63 : Int64)).toBitVec.toNat < 2 ^ 6 := by
  rw [Int64.toBitVec_and, BitVec.toNat_and]
  have e : ((63 : Int64).toBitVec.toNat) = 63 := by decide
  rw [e]
  exact Nat.lt_of_le_of_lt Nat.and_le_right (by decide)
theorem own_toInt51 {a : Int64} (h : a.toBitVec.toNat < 2 ^ 51) : 0 ≤ a.toInt ∧ a.toInt < 2251799813685248 := by
  show 0 ≤ a.toBitVec.toInt ∧ a.toBitVec.toInt < 2251799813685248
  rw [BitVec.toInt_eq_toNat_cond, if_pos (by omega)]
  omega
theorem own_k7 {x : Int64} (h : 0 ≤ x.toInt) : ((x - (x / (7 : Int64)) * (7 : Int64)).toInt32) = (0 : Int32) ∨ ((x - (x / (7 : Int64)) * (7 : Int64)).toInt32) = (1 : Int32) ∨ ((x - (x / (7 : Int64)) * (7 : Int64)).toInt32) = (2 : Int32) ∨ ((x - (x / (7 : Int64)) * (7 : Int64)).toInt32) = (3 : Int32) ∨ ((x - (x / (7 : Int64)) * (7 : Int64)).toInt32) = (4 : Int32) ∨ ((x - (x / (7 : Int64)) * (7 : Int64)).toInt32) = (5 : Int32) ∨ ((x - (x / (7 : Int64)) * (7 : Int64)).toInt32) = (6 : Int32) := by
  have hr := Jvm.Kit.i64_rem_nonneg (x := x) (y := (7 : Int64)) h
  have hp : (7 : Int64).toInt = 7 := rfl
  rw [hp] at hr
  have hi := Jvm.Kit.i32_of_i64 (x := (x - (x / (7 : Int64)) * (7 : Int64))) (by omega) (by omega)
  rw [hr] at hi
  simp only [← Int32.toInt_inj, hi, Int32.reduceToInt]
  omega
theorem own_ite {A B : Prop} [Decidable A] [Decidable B] (h : A ↔ B) : (if A then (1 : Int32) else (0 : Int32)) = (if B then (1 : Int32) else (0 : Int32)) := by
  by_cases a : A
  · rw [if_pos a, if_pos (h.mp a)]
  · rw [if_neg a, if_neg fun q => a (h.mpr q)]
theorem ef_1 (m : MethodId)  : entryFrame m #[] 15 = mkF m 0 #[.unset, .unset, .unset, .unset, .unset, .unset, .unset, .unset, .unset, .unset, .unset, .unset, .unset, .unset, .unset] [] := by first | (simp [entryFrame, mkF, argsToLocals, Value.category]; done) | rfl
theorem pn_1 : plainName "com/example/barred_rows/barredrows/crypto/FpEqualPinLaw" = true := by first | (simp [plainName, overriddenIn]; done) | decide +kernel
abbrev LS_uuuuuuuuuuuuuuu  : Array Slot := #[.unset, .unset, .unset, .unset, .unset, .unset, .unset, .unset, .unset, .unset, .unset, .unset, .unset, .unset, .unset]
theorem d1_0 : decode method_3_code 0 = .ok (.ldc2_w 7, 3) := by decide +kernel
theorem d1_3 : decode method_3_code 3 = .ok (.lstore_n 0, 1) := by decide +kernel
abbrev LS_Jsuuuuuuuuuuuuu (a0 : Int64) : Array Slot := #[.val (.long a0), .second, .unset, .unset, .unset, .unset, .unset, .unset, .unset, .unset, .unset, .unset, .unset, .unset, .unset]
theorem d1_4 : decode method_3_code 4 = .ok (.ldc2_w 33, 3) := by decide +kernel
theorem d1_7 : decode method_3_code 7 = .ok (.lstore_n 2, 1) := by decide +kernel
abbrev LS_JsJsuuuuuuuuuuu (a0 : Int64) (a1 : Int64) : Array Slot := #[.val (.long a0), .second, .val (.long a1), .second, .unset, .unset, .unset, .unset, .unset, .unset, .unset, .unset, .unset, .unset, .unset]
theorem d1_8 : decode method_3_code 8 = .ok (.ldc2_w 35, 3) := by decide +kernel
theorem d1_11 : decode method_3_code 11 = .ok (.lstore 4, 2) := by decide +kernel
abbrev LS_JsJsJsuuuuuuuuu (a0 : Int64) (a1 : Int64) (a2 : Int64) : Array Slot := #[.val (.long a0), .second, .val (.long a1), .second, .val (.long a2), .second, .unset, .unset, .unset, .unset, .unset, .unset, .unset, .unset, .unset]
theorem d1_13 : decode method_3_code 13 = .ok (.ldc2_w 37, 3) := by decide +kernel
theorem d1_16 : decode method_3_code 16 = .ok (.lstore 6, 2) := by decide +kernel
abbrev LS_JsJsJsJsuuuuuuu (a0 : Int64) (a1 : Int64) (a2 : Int64) (a3 : Int64) : Array Slot := #[.val (.long a0), .second, .val (.long a1), .second, .val (.long a2), .second, .val (.long a3), .second, .unset, .unset, .unset, .unset, .unset, .unset, .unset]
theorem d1_18 : decode method_3_code 18 = .ok (.ldc2_w 39, 3) := by decide +kernel
theorem d1_21 : decode method_3_code 21 = .ok (.lstore 8, 2) := by decide +kernel
abbrev LS_JsJsJsJsJsuuuuu (a0 : Int64) (a1 : Int64) (a2 : Int64) (a3 : Int64) (a4 : Int64) : Array Slot := #[.val (.long a0), .second, .val (.long a1), .second, .val (.long a2), .second, .val (.long a3), .second, .val (.long a4), .second, .unset, .unset, .unset, .unset, .unset]
theorem d1_23 : decode method_3_code 23 = .ok (.ldc2_w 41, 3) := by decide +kernel
theorem d1_26 : decode method_3_code 26 = .ok (.lstore 10, 2) := by decide +kernel
abbrev LS_JsJsJsJsJsJsuuu (a0 : Int64) (a1 : Int64) (a2 : Int64) (a3 : Int64) (a4 : Int64) (a5 : Int64) : Array Slot := #[.val (.long a0), .second, .val (.long a1), .second, .val (.long a2), .second, .val (.long a3), .second, .val (.long a4), .second, .val (.long a5), .second, .unset, .unset, .unset]
theorem d1_28 : decode method_3_code 28 = .ok (.ldc2_w 43, 3) := by decide +kernel
theorem d1_31 : decode method_3_code 31 = .ok (.lstore 12, 2) := by decide +kernel
abbrev LS_JsJsJsJsJsJsJsu (a0 : Int64) (a1 : Int64) (a2 : Int64) (a3 : Int64) (a4 : Int64) (a5 : Int64) (a6 : Int64) : Array Slot := #[.val (.long a0), .second, .val (.long a1), .second, .val (.long a2), .second, .val (.long a3), .second, .val (.long a4), .second, .val (.long a5), .second, .val (.long a6), .second, .unset]
theorem d1_33 : decode method_3_code 33 = .ok (.bipush 7, 2) := by decide +kernel
theorem d1_35 : decode method_3_code 35 = .ok (.newarray .long, 2) := by decide +kernel
theorem d1_37 : decode method_3_code 37 = .ok (.astore 14, 2) := by decide +kernel
abbrev LS_JsJsJsJsJsJsJsR (a0 : Int64) (a1 : Int64) (a2 : Int64) (a3 : Int64) (a4 : Int64) (a5 : Int64) (a6 : Int64) (a7 : Addr) : Array Slot := #[.val (.long a0), .second, .val (.long a1), .second, .val (.long a2), .second, .val (.long a3), .second, .val (.long a4), .second, .val (.long a5), .second, .val (.long a6), .second, .val (.ref a7)]
theorem d1_39 : decode method_3_code 39 = .ok (.aload 14, 2) := by decide +kernel
theorem d1_41 : decode method_3_code 41 = .ok (.iconst 0, 1) := by decide +kernel
theorem d1_42 : decode method_3_code 42 = .ok (.lload_n 2, 1) := by decide +kernel
theorem d1_43 : decode method_3_code 43 = .ok (.lload_n 0, 1) := by decide +kernel
theorem d1_44 : decode method_3_code 44 = .ok (.land, 1) := by decide +kernel
theorem d1_45 : decode method_3_code 45 = .ok (.lastore, 1) := by decide +kernel
theorem d1_46 : decode method_3_code 46 = .ok (.aload 14, 2) := by decide +kernel
theorem d1_48 : decode method_3_code 48 = .ok (.iconst 1, 1) := by decide +kernel
theorem d1_49 : decode method_3_code 49 = .ok (.lload_n 2, 1) := by decide +kernel
theorem d1_50 : decode method_3_code 50 = .ok (.bipush 55, 2) := by decide +kernel
theorem d1_52 : decode method_3_code 52 = .ok (.lushr, 1) := by decide +kernel
theorem d1_53 : decode method_3_code 53 = .ok (.lload 4, 2) := by decide +kernel
theorem d1_55 : decode method_3_code 55 = .ok (.bipush 9, 2) := by decide +kernel
theorem d1_57 : decode method_3_code 57 = .ok (.lshl, 1) := by decide +kernel
theorem d1_58 : decode method_3_code 58 = .ok (.lor, 1) := by decide +kernel
theorem d1_59 : decode method_3_code 59 = .ok (.lload_n 0, 1) := by decide +kernel
theorem d1_60 : decode method_3_code 60 = .ok (.land, 1) := by decide +kernel
theorem d1_61 : decode method_3_code 61 = .ok (.lastore, 1) := by decide +kernel
theorem d1_62 : decode method_3_code 62 = .ok (.aload 14, 2) := by decide +kernel
theorem d1_64 : decode method_3_code 64 = .ok (.iconst 2, 1) := by decide +kernel
theorem d1_65 : decode method_3_code 65 = .ok (.lload 4, 2) := by decide +kernel
theorem d1_67 : decode method_3_code 67 = .ok (.bipush 46, 2) := by decide +kernel
theorem d1_69 : decode method_3_code 69 = .ok (.lushr, 1) := by decide +kernel
theorem d1_70 : decode method_3_code 70 = .ok (.lload 6, 2) := by decide +kernel
theorem d1_72 : decode method_3_code 72 = .ok (.bipush 18, 2) := by decide +kernel
theorem d1_74 : decode method_3_code 74 = .ok (.lshl, 1) := by decide +kernel
theorem d1_75 : decode method_3_code 75 = .ok (.lor, 1) := by decide +kernel
theorem d1_76 : decode method_3_code 76 = .ok (.lload_n 0, 1) := by decide +kernel
theorem d1_77 : decode method_3_code 77 = .ok (.land, 1) := by decide +kernel
theorem d1_78 : decode method_3_code 78 = .ok (.lastore, 1) := by decide +kernel
theorem d1_79 : decode method_3_code 79 = .ok (.aload 14, 2) := by decide +kernel
theorem d1_81 : decode method_3_code 81 = .ok (.iconst 3, 1) := by decide +kernel
theorem d1_82 : decode method_3_code 82 = .ok (.lload 6, 2) := by decide +kernel
theorem d1_84 : decode method_3_code 84 = .ok (.bipush 37, 2) := by decide +kernel
theorem d1_86 : decode method_3_code 86 = .ok (.lushr, 1) := by decide +kernel
theorem d1_87 : decode method_3_code 87 = .ok (.lload 8, 2) := by decide +kernel
theorem d1_89 : decode method_3_code 89 = .ok (.bipush 27, 2) := by decide +kernel
theorem d1_91 : decode method_3_code 91 = .ok (.lshl, 1) := by decide +kernel
theorem d1_92 : decode method_3_code 92 = .ok (.lor, 1) := by decide +kernel
theorem d1_93 : decode method_3_code 93 = .ok (.lload_n 0, 1) := by decide +kernel
theorem d1_94 : decode method_3_code 94 = .ok (.land, 1) := by decide +kernel
theorem d1_95 : decode method_3_code 95 = .ok (.lastore, 1) := by decide +kernel
theorem d1_96 : decode method_3_code 96 = .ok (.aload 14, 2) := by decide +kernel
theorem d1_98 : decode method_3_code 98 = .ok (.iconst 4, 1) := by decide +kernel
theorem d1_99 : decode method_3_code 99 = .ok (.lload 8, 2) := by decide +kernel
theorem d1_101 : decode method_3_code 101 = .ok (.bipush 28, 2) := by decide +kernel
theorem d1_103 : decode method_3_code 103 = .ok (.lushr, 1) := by decide +kernel
theorem d1_104 : decode method_3_code 104 = .ok (.lload 10, 2) := by decide +kernel
theorem d1_106 : decode method_3_code 106 = .ok (.bipush 36, 2) := by decide +kernel
theorem d1_108 : decode method_3_code 108 = .ok (.lshl, 1) := by decide +kernel
theorem d1_109 : decode method_3_code 109 = .ok (.lor, 1) := by decide +kernel
theorem d1_110 : decode method_3_code 110 = .ok (.lload_n 0, 1) := by decide +kernel
theorem d1_111 : decode method_3_code 111 = .ok (.land, 1) := by decide +kernel
theorem d1_112 : decode method_3_code 112 = .ok (.lastore, 1) := by decide +kernel
theorem d1_113 : decode method_3_code 113 = .ok (.aload 14, 2) := by decide +kernel
theorem d1_115 : decode method_3_code 115 = .ok (.iconst 5, 1) := by decide +kernel
theorem d1_116 : decode method_3_code 116 = .ok (.lload 10, 2) := by decide +kernel
theorem d1_118 : decode method_3_code 118 = .ok (.bipush 19, 2) := by decide +kernel
theorem d1_120 : decode method_3_code 120 = .ok (.lushr, 1) := by decide +kernel
theorem d1_121 : decode method_3_code 121 = .ok (.lload 12, 2) := by decide +kernel
theorem d1_123 : decode method_3_code 123 = .ok (.bipush 45, 2) := by decide +kernel
theorem d1_125 : decode method_3_code 125 = .ok (.lshl, 1) := by decide +kernel
theorem d1_126 : decode method_3_code 126 = .ok (.lor, 1) := by decide +kernel
theorem d1_127 : decode method_3_code 127 = .ok (.lload_n 0, 1) := by decide +kernel
theorem d1_128 : decode method_3_code 128 = .ok (.land, 1) := by decide +kernel
theorem d1_129 : decode method_3_code 129 = .ok (.lastore, 1) := by decide +kernel
theorem d1_130 : decode method_3_code 130 = .ok (.aload 14, 2) := by decide +kernel
theorem d1_132 : decode method_3_code 132 = .ok (.bipush 6, 2) := by decide +kernel
theorem d1_134 : decode method_3_code 134 = .ok (.lload 12, 2) := by decide +kernel
theorem d1_136 : decode method_3_code 136 = .ok (.bipush 10, 2) := by decide +kernel
theorem d1_138 : decode method_3_code 138 = .ok (.lushr, 1) := by decide +kernel
theorem d1_139 : decode method_3_code 139 = .ok (.lastore, 1) := by decide +kernel
theorem d1_140 : decode method_3_code 140 = .ok (.aload 14, 2) := by decide +kernel
theorem d1_142 : decode method_3_code 142 = .ok (.areturn, 1) := by decide +kernel
def Q1 (Z : State)  (h0 : Heap) (n0 : Nat) (v : Option Value) (h : Heap) (L : List Loc) : Prop := ∃ (r : Addr) (k : ClassId), v = some (.ref r) ∧ Fr n0 L ∧ h0.size ≤ r ∧ Keep h0 h [] ∧ Arv Z h r k .long (7 : Int32) [(.long (35747322042231467 : Int64)), (.long (36025922209447795 : Int64)), (.long (1084959616957103 : Int64)), (.long (7925923977987733 : Int64)), (.long (16551456537884751 : Int64)), (.long (23443114579904617 : Int64)), (.long (1829881462546425 : Int64))] (.long (0 : Int64))
set_option maxRecDepth 65536 in
set_option maxHeartbeats 40000000 in
theorem rm1 (l : Launch) (Z : State) (a0 : Array Value) (hw : ∀ d ∈ tables_1, d.before a0 Z = true) (ws : List Jvm.Cond)  (h0 : Heap) (n0 : Nat) (Z0 : n0 ≤ h0.size) :
    MetFree l (⟨"com/example/barred_rows/barredrows/crypto/FpEqualPinLaw", "prime", "()[J"⟩ : MethodName) (head1 (Jvm.Cond.code (⟨"com/example/barred_rows/barredrows/crypto/FpEqualPinLaw", "prime", "()[J"⟩ : MethodName) method_3_code 15 (some (.array .long)) :: ws) ({ frames := 0, cells := 1, slots := 7, locals := 0 } : Room)) (fun a U => a = #[] ∧ Z.Warmed39 U.vm ∧ U.heap = h0) (fun _ _ _ _ _ => True) (fun _ U o U' => ∃ v L, o = .returned v ∧ Q1 Z  h0 n0 v U'.heap L ∧ FrameEnd U o U' L ({ frames := 0, cells := 1, slots := 7, locals := 0 } : Room).cells ({ frames := 0, cells := 1, slots := 7, locals := 0 } : Room).slots) := by
  refine MetFree.of_bodySF (plainFor_of_name pn_1) hisR ?_
  intro p e s m args below meth c s₁ Bd hml0 hP hK
  obtain ⟨rfl, hZ, hh⟩ := hP
  have hx := Bd.exec
  have hby := Bd.bytes
  have hml : c.maxLocals = 15 := hml0
  have hown : s.vm.findClass "com/example/barred_rows/barredrows/crypto/FpEqualPinLaw" = some m.cls := findClass_of_methodNamed Bd.named
  have hnm := (name_of_methodNamed Bd.named Bd.method).1
  have X0 : Stand p l e ({ frames := 0, cells := 1, slots := 7, locals := 0 } : Room) s m #[] below meth c s₁ [] 0 0 := Stand.of_body Bd
  have e0 : s₁.heap = h0 := by rw [← hh, Bd.state]; rfl
  have N0 := Fr.nil n0
  refine own_go (B := s₁.setTop (mkF m 0 LS_uuuuuuuuuuuuuuu [])) (fun t k => castTop (ef_1 m ) k) ?_
  have K0 : Keep h0 h0 [] := Keep.refl _ _
  refine own_go (B := s₁.setTop (mkF m 35 (LS_JsJsJsJsJsJsJsu (36028797018963967 : Int64) (-5044313057631688021 : Int64) (2210141511517208575 : Int64) (7435674573564081700 : Int64) (7239337960414712511 : Int64) (5412103778470702295 : Int64) (1873798617647539866 : Int64)) [(.int (7 : Int32))])) (fun t k => ?_) ?_
  · show Steps p.tables e below (s₁.setTop (mkF m 0 LS_uuuuuuuuuuuuuuu [])) _
    refine X0.ldc2Long hx hown (mvT hZ (hw _ (List.mem_of_getElem? (i := 0) rfl))) (g := (mkF m 0 LS_uuuuuuuuuuuuuuu [])) rfl (hb hby d1_0) _ ?_
    show Steps p.tables e below (s₁.setTop (mkF m 3 LS_uuuuuuuuuuuuuuu [(.long (36028797018963967 : Int64))])) _
    refine XS.lstoreN X0.here hx rfl (hb hby d1_3) rfl (l' := (LS_Jsuuuuuuuuuuuuu (36028797018963967 : Int64))) rfl ?_
    show Steps p.tables e below (s₁.setTop (mkF m 4 (LS_Jsuuuuuuuuuuuuu (36028797018963967 : Int64)) [])) _
    refine X0.ldc2Long hx hown (mvT hZ (hw _ (List.mem_of_getElem? (i := 8) rfl))) (g := (mkF m 4 (LS_Jsuuuuuuuuuuuuu (36028797018963967 : Int64)) [])) rfl (hb hby d1_4) _ ?_
    show Steps p.tables e below (s₁.setTop (mkF m 7 (LS_Jsuuuuuuuuuuuuu (36028797018963967 : Int64)) [(.long (-5044313057631688021 : Int64))])) _
    refine XS.lstoreN X0.here hx rfl (hb hby d1_7) rfl (l' := (LS_JsJsuuuuuuuuuuu (36028797018963967 : Int64) (-5044313057631688021 : Int64))) rfl ?_
    show Steps p.tables e below (s₁.setTop (mkF m 8 (LS_JsJsuuuuuuuuuuu (36028797018963967 : Int64) (-5044313057631688021 : Int64)) [])) _
    refine X0.ldc2Long hx hown (mvT hZ (hw _ (List.mem_of_getElem? (i := 9) rfl))) (g := (mkF m 8 (LS_JsJsuuuuuuuuuuu (36028797018963967 : Int64) (-5044313057631688021 : Int64)) [])) rfl (hb hby d1_8) _ ?_
    show Steps p.tables e below (s₁.setTop (mkF m 11 (LS_JsJsuuuuuuuuuuu (36028797018963967 : Int64) (-5044313057631688021 : Int64)) [(.long (2210141511517208575 : Int64))])) _
    refine XS.lstore X0.here hx rfl (hb hby d1_11) rfl (l' := (LS_JsJsJsuuuuuuuuu (36028797018963967 : Int64) (-5044313057631688021 : Int64) (2210141511517208575 : Int64))) rfl ?_
    show Steps p.tables e below (s₁.setTop (mkF m 13 (LS_JsJsJsuuuuuuuuu (36028797018963967 : Int64) (-5044313057631688021 : Int64) (2210141511517208575 : Int64)) [])) _
    refine X0.ldc2Long hx hown (mvT hZ (hw _ (List.mem_of_getElem? (i := 10) rfl))) (g := (mkF m 13 (LS_JsJsJsuuuuuuuuu (36028797018963967 : Int64) (-5044313057631688021 : Int64) (2210141511517208575 : Int64)) [])) rfl (hb hby d1_13) _ ?_
    show Steps p.tables e below (s₁.setTop (mkF m 16 (LS_JsJsJsuuuuuuuuu (36028797018963967 : Int64) (-5044313057631688021 : Int64) (2210141511517208575 : Int64)) [(.long (7435674573564081700 : Int64))])) _
    refine XS.lstore X0.here hx rfl (hb hby d1_16) rfl (l' := (LS_JsJsJsJsuuuuuuu (36028797018963967 : Int64) (-5044313057631688021 : Int64) (2210141511517208575 : Int64) (7435674573564081700 : Int64))) rfl ?_
    show Steps p.tables e below (s₁.setTop (mkF m 18 (LS_JsJsJsJsuuuuuuu (36028797018963967 : Int64) (-5044313057631688021 : Int64) (2210141511517208575 : Int64) (7435674573564081700 : Int64)) [])) _
    refine X0.ldc2Long hx hown (mvT hZ (hw _ (List.mem_of_getElem? (i := 11) rfl))) (g := (mkF m 18 (LS_JsJsJsJsuuuuuuu (36028797018963967 : Int64) (-5044313057631688021 : Int64) (2210141511517208575 : Int64) (7435674573564081700 : Int64)) [])) rfl (hb hby d1_18) _ ?_
    show Steps p.tables e below (s₁.setTop (mkF m 21 (LS_JsJsJsJsuuuuuuu (36028797018963967 : Int64) (-5044313057631688021 : Int64) (2210141511517208575 : Int64) (7435674573564081700 : Int64)) [(.long (7239337960414712511 : Int64))])) _
    refine XS.lstore X0.here hx rfl (hb hby d1_21) rfl (l' := (LS_JsJsJsJsJsuuuuu (36028797018963967 : Int64) (-5044313057631688021 : Int64) (2210141511517208575 : Int64) (7435674573564081700 : Int64) (7239337960414712511 : Int64))) rfl ?_
    show Steps p.tables e below (s₁.setTop (mkF m 23 (LS_JsJsJsJsJsuuuuu (36028797018963967 : Int64) (-5044313057631688021 : Int64) (2210141511517208575 : Int64) (7435674573564081700 : Int64) (7239337960414712511 : Int64)) [])) _
    refine X0.ldc2Long hx hown (mvT hZ (hw _ (List.mem_of_getElem? (i := 12) rfl))) (g := (mkF m 23 (LS_JsJsJsJsJsuuuuu (36028797018963967 : Int64) (-5044313057631688021 : Int64) (2210141511517208575 : Int64) (7435674573564081700 : Int64) (7239337960414712511 : Int64)) [])) rfl (hb hby d1_23) _ ?_
    show Steps p.tables e below (s₁.setTop (mkF m 26 (LS_JsJsJsJsJsuuuuu (36028797018963967 : Int64) (-5044313057631688021 : Int64) (2210141511517208575 : Int64) (7435674573564081700 : Int64) (7239337960414712511 : Int64)) [(.long (5412103778470702295 : Int64))])) _
    refine XS.lstore X0.here hx rfl (hb hby d1_26) rfl (l' := (LS_JsJsJsJsJsJsuuu (36028797018963967 : Int64) (-5044313057631688021 : Int64) (2210141511517208575 : Int64) (7435674573564081700 : Int64) (7239337960414712511 : Int64) (5412103778470702295 : Int64))) rfl ?_
    show Steps p.tables e below (s₁.setTop (mkF m 28 (LS_JsJsJsJsJsJsuuu (36028797018963967 : Int64) (-5044313057631688021 : Int64) (2210141511517208575 : Int64) (7435674573564081700 : Int64) (7239337960414712511 : Int64) (5412103778470702295 : Int64)) [])) _
    refine X0.ldc2Long hx hown (mvT hZ (hw _ (List.mem_of_getElem? (i := 13) rfl))) (g := (mkF m 28 (LS_JsJsJsJsJsJsuuu (36028797018963967 : Int64) (-5044313057631688021 : Int64) (2210141511517208575 : Int64) (7435674573564081700 : Int64) (7239337960414712511 : Int64) (5412103778470702295 : Int64)) [])) rfl (hb hby d1_28) _ ?_
    show Steps p.tables e below (s₁.setTop (mkF m 31 (LS_JsJsJsJsJsJsuuu (36028797018963967 : Int64) (-5044313057631688021 : Int64) (2210141511517208575 : Int64) (7435674573564081700 : Int64) (7239337960414712511 : Int64) (5412103778470702295 : Int64)) [(.long (1873798617647539866 : Int64))])) _
    refine XS.lstore X0.here hx rfl (hb hby d1_31) rfl (l' := (LS_JsJsJsJsJsJsJsu (36028797018963967 : Int64) (-5044313057631688021 : Int64) (2210141511517208575 : Int64) (7435674573564081700 : Int64) (7239337960414712511 : Int64) (5412103778470702295 : Int64) (1873798617647539866 : Int64))) rfl ?_
    show Steps p.tables e below (s₁.setTop (mkF m 33 (LS_JsJsJsJsJsJsJsu (36028797018963967 : Int64) (-5044313057631688021 : Int64) (2210141511517208575 : Int64) (7435674573564081700 : Int64) (7239337960414712511 : Int64) (5412103778470702295 : Int64) (1873798617647539866 : Int64)) [])) _
    refine XS.bipush X0.here hx rfl (hb hby d1_33) ?_
    exact k
  obtain ⟨T1, h1, k1, X1, e1, E1, A1, st1⟩ := newP X0 hx hZ (hw _ (List.mem_of_getElem? (i := 1) rfl)) e0 (g := (mkF m 35 (LS_JsJsJsJsJsJsJsu (36028797018963967 : Int64) (-5044313057631688021 : Int64) (2210141511517208575 : Int64) (7435674573564081700 : Int64) (7239337960414712511 : Int64) (5412103778470702295 : Int64) (1873798617647539866 : Int64)) [(.int (7 : Int32))])) rfl (hb hby d1_35) rfl (by decide) (cap := 7) (by decide) (by decide) (by decide) (by decide)
  obtain ⟨b1, g1⟩ : ∃ z, z = h0.size := ⟨_, rfl⟩
  rw [← g1] at A1 st1
  have g_b1 : n0 ≤ b1 := Nat.le_trans Z0 (Nat.le_of_eq g1.symm)
  have sz_b1 : h0.size ≤ b1 := Nat.le_trans K0.1 (Nat.le_of_eq g1.symm)
  have V1 : Arv Z h1 b1 k1 .long (7 : Int32) [(.long (0 : Int64)), (.long (0 : Int64)), (.long (0 : Int64)), (.long (0 : Int64)), (.long (0 : Int64)), (.long (0 : Int64)), (.long (0 : Int64))] (.long (0 : Int64)) := (Arv.new A1 (by decide)).pad (pad_rep [] (.long (0 : Int64)) 7)
  refine own_go (B := T1.setTop (mkF m 37 (LS_JsJsJsJsJsJsJsu (36028797018963967 : Int64) (-5044313057631688021 : Int64) (2210141511517208575 : Int64) (7435674573564081700 : Int64) (7239337960414712511 : Int64) (5412103778470702295 : Int64) (1873798617647539866 : Int64)) [(.ref b1)])) (fun t k => st1 _ k) ?_
  refine own_go (B := T1.setTop (mkF m 45 (LS_JsJsJsJsJsJsJsR (36028797018963967 : Int64) (-5044313057631688021 : Int64) (2210141511517208575 : Int64) (7435674573564081700 : Int64) (7239337960414712511 : Int64) (5412103778470702295 : Int64) (1873798617647539866 : Int64) b1) [(.long (35747322042231467 : Int64)), (.int (0 : Int32)), (.ref b1)])) (fun t k => ?_) ?_
  · show Steps p.tables e below (T1.setTop (mkF m 37 (LS_JsJsJsJsJsJsJsu (36028797018963967 : Int64) (-5044313057631688021 : Int64) (2210141511517208575 : Int64) (7435674573564081700 : Int64) (7239337960414712511 : Int64) (5412103778470702295 : Int64) (1873798617647539866 : Int64)) [(.ref b1)])) _
    refine XS.astore X1.here hx rfl (hb hby d1_37) rfl rfl (l' := (LS_JsJsJsJsJsJsJsR (36028797018963967 : Int64) (-5044313057631688021 : Int64) (2210141511517208575 : Int64) (7435674573564081700 : Int64) (7239337960414712511 : Int64) (5412103778470702295 : Int64) (1873798617647539866 : Int64) b1)) rfl ?_
    show Steps p.tables e below (T1.setTop (mkF m 39 (LS_JsJsJsJsJsJsJsR (36028797018963967 : Int64) (-5044313057631688021 : Int64) (2210141511517208575 : Int64) (7435674573564081700 : Int64) (7239337960414712511 : Int64) (5412103778470702295 : Int64) (1873798617647539866 : Int64) b1) [])) _
    refine XS.aload X1.here hx rfl (hb hby d1_39) rfl rfl ?_
    show Steps p.tables e below (T1.setTop (mkF m 41 (LS_JsJsJsJsJsJsJsR (36028797018963967 : Int64) (-5044313057631688021 : Int64) (2210141511517208575 : Int64) (7435674573564081700 : Int64) (7239337960414712511 : Int64) (5412103778470702295 : Int64) (1873798617647539866 : Int64) b1) [(.ref b1)])) _
    refine XS.iconst X1.here hx rfl (hb hby d1_41) ?_
    show Steps p.tables e below (T1.setTop (mkF m 42 (LS_JsJsJsJsJsJsJsR (36028797018963967 : Int64) (-5044313057631688021 : Int64) (2210141511517208575 : Int64) (7435674573564081700 : Int64) (7239337960414712511 : Int64) (5412103778470702295 : Int64) (1873798617647539866 : Int64) b1) [(.int (0 : Int32)), (.ref b1)])) _
    refine XS.lloadN X1.here hx rfl (hb hby d1_42) rfl ?_
    show Steps p.tables e below (T1.setTop (mkF m 43 (LS_JsJsJsJsJsJsJsR (36028797018963967 : Int64) (-5044313057631688021 : Int64) (2210141511517208575 : Int64) (7435674573564081700 : Int64) (7239337960414712511 : Int64) (5412103778470702295 : Int64) (1873798617647539866 : Int64) b1) [(.long (-5044313057631688021 : Int64)), (.int (0 : Int32)), (.ref b1)])) _
    refine XS.lloadN X1.here hx rfl (hb hby d1_43) rfl ?_
    show Steps p.tables e below (T1.setTop (mkF m 44 (LS_JsJsJsJsJsJsJsR (36028797018963967 : Int64) (-5044313057631688021 : Int64) (2210141511517208575 : Int64) (7435674573564081700 : Int64) (7239337960414712511 : Int64) (5412103778470702295 : Int64) (1873798617647539866 : Int64) b1) [(.long (36028797018963967 : Int64)), (.long (-5044313057631688021 : Int64)), (.int (0 : Int32)), (.ref b1)])) _
    refine XS.land X1.here hx rfl (hb hby d1_44) rfl ?_
    rw [show ((-5044313057631688021 : Int64) &&& (36028797018963967 : Int64)) = (35747322042231467 : Int64) from by decide]
    exact k
  obtain ⟨cl2, Ar2, qa2, Sa2, Na2, Ha2, Ga2⟩ := id V1
  have hin3 : ¬ ((0 : Int32) < 0 ∨ cl2.slots.size ≤ ((0 : Int32)).toNatClampNeg) := inb_of Sa2 ⟨by decide, by decide⟩
  obtain ⟨T3, h3, X3, e3, W3, st3⟩ := stJ X1 hx hZ e1 Ar2 (j := (0 : Int32)) hin3 (g := (mkF m 45 (LS_JsJsJsJsJsJsJsR (36028797018963967 : Int64) (-5044313057631688021 : Int64) (2210141511517208575 : Int64) (7435674573564081700 : Int64) (7239337960414712511 : Int64) (5412103778470702295 : Int64) (1873798617647539866 : Int64) b1) [(.long (35747322042231467 : Int64)), (.int (0 : Int32)), (.ref b1)])) rfl rfl (hb hby d1_45)
  have N3 := Fr.snoc X3 N0 g_b1
  have V3 : Arv Z h3 b1 k1 .long (7 : Int32) [(.long (35747322042231467 : Int64)), (.long (0 : Int64)), (.long (0 : Int64)), (.long (0 : Int64)), (.long (0 : Int64)), (.long (0 : Int64)), (.long (0 : Int64))] (.long (0 : Int64)) := Arv.set Ar2 qa2 Sa2 Na2 Ha2 Ga2 rfl W3 0 rfl (Nat.le_of_ble_eq_true rfl)
  refine own_go (B := T3.setTop (mkF m 46 (LS_JsJsJsJsJsJsJsR (36028797018963967 : Int64) (-5044313057631688021 : Int64) (2210141511517208575 : Int64) (7435674573564081700 : Int64) (7239337960414712511 : Int64) (5412103778470702295 : Int64) (1873798617647539866 : Int64) b1) [])) (fun t k => st3 _ k) ?_
  refine own_go (B := T3.setTop (mkF m 61 (LS_JsJsJsJsJsJsJsR (36028797018963967 : Int64) (-5044313057631688021 : Int64) (2210141511517208575 : Int64) (7435674573564081700 : Int64) (7239337960414712511 : Int64) (5412103778470702295 : Int64) (1873798617647539866 : Int64) b1) [(.long (36025922209447795 : Int64)), (.int (1 : Int32)), (.ref b1)])) (fun t k => ?_) ?_
  · show Steps p.tables e below (T3.setTop (mkF m 46 (LS_JsJsJsJsJsJsJsR (36028797018963967 : Int64) (-5044313057631688021 : Int64) (2210141511517208575 : Int64) (7435674573564081700 : Int64) (7239337960414712511 : Int64) (5412103778470702295 : Int64) (1873798617647539866 : Int64) b1) [])) _
    refine XS.aload X3.here hx rfl (hb hby d1_46) rfl rfl ?_
    show Steps p.tables e below (T3.setTop (mkF m 48 (LS_JsJsJsJsJsJsJsR (36028797018963967 : Int64) (-5044313057631688021 : Int64) (2210141511517208575 : Int64) (7435674573564081700 : Int64) (7239337960414712511 : Int64) (5412103778470702295 : Int64) (1873798617647539866 : Int64) b1) [(.ref b1)])) _
    refine XS.iconst X3.here hx rfl (hb hby d1_48) ?_
    show Steps p.tables e below (T3.setTop (mkF m 49 (LS_JsJsJsJsJsJsJsR (36028797018963967 : Int64) (-5044313057631688021 : Int64) (2210141511517208575 : Int64) (7435674573564081700 : Int64) (7239337960414712511 : Int64) (5412103778470702295 : Int64) (1873798617647539866 : Int64) b1) [(.int (1 : Int32)), (.ref b1)])) _
    refine XS.lloadN X3.here hx rfl (hb hby d1_49) rfl ?_
    show Steps p.tables e below (T3.setTop (mkF m 50 (LS_JsJsJsJsJsJsJsR (36028797018963967 : Int64) (-5044313057631688021 : Int64) (2210141511517208575 : Int64) (7435674573564081700 : Int64) (7239337960414712511 : Int64) (5412103778470702295 : Int64) (1873798617647539866 : Int64) b1) [(.long (-5044313057631688021 : Int64)), (.int (1 : Int32)), (.ref b1)])) _
    refine XS.bipush X3.here hx rfl (hb hby d1_50) ?_
    show Steps p.tables e below (T3.setTop (mkF m 52 (LS_JsJsJsJsJsJsJsR (36028797018963967 : Int64) (-5044313057631688021 : Int64) (2210141511517208575 : Int64) (7435674573564081700 : Int64) (7239337960414712511 : Int64) (5412103778470702295 : Int64) (1873798617647539866 : Int64) b1) [(.int (55 : Int32)), (.long (-5044313057631688021 : Int64)), (.int (1 : Int32)), (.ref b1)])) _
    refine XS.lushr X3.here hx rfl (hb hby d1_52) rfl ?_
    rw [show (((-5044313057631688021 : Int64).toUInt64 >>> ((55 : Int32) &&& 0x3f).toInt64.toUInt64).toInt64) = (371 : Int64) from by decide]
    show Steps p.tables e below (T3.setTop (mkF m 53 (LS_JsJsJsJsJsJsJsR (36028797018963967 : Int64) (-5044313057631688021 : Int64) (2210141511517208575 : Int64) (7435674573564081700 : Int64) (7239337960414712511 : Int64) (5412103778470702295 : Int64) (1873798617647539866 : Int64) b1) [(.long (371 : Int64)), (.int (1 : Int32)), (.ref b1)])) _
    refine XS.lload X3.here hx rfl (hb hby d1_53) rfl ?_
    show Steps p.tables e below (T3.setTop (mkF m 55 (LS_JsJsJsJsJsJsJsR (36028797018963967 : Int64) (-5044313057631688021 : Int64) (2210141511517208575 : Int64) (7435674573564081700 : Int64) (7239337960414712511 : Int64) (5412103778470702295 : Int64) (1873798617647539866 : Int64) b1) [(.long (2210141511517208575 : Int64)), (.long (371 : Int64)), (.int (1 : Int32)), (.ref b1)])) _
    refine XS.bipush X3.here hx rfl (hb hby d1_55) ?_
    show Steps p.tables e below (T3.setTop (mkF m 57 (LS_JsJsJsJsJsJsJsR (36028797018963967 : Int64) (-5044313057631688021 : Int64) (2210141511517208575 : Int64) (7435674573564081700 : Int64) (7239337960414712511 : Int64) (5412103778470702295 : Int64) (1873798617647539866 : Int64) b1) [(.int (9 : Int32)), (.long (2210141511517208575 : Int64)), (.long (371 : Int64)), (.int (1 : Int32)), (.ref b1)])) _
    refine XS.lshl X3.here hx rfl (hb hby d1_57) rfl ?_
    rw [show ((2210141511517208575 : Int64) <<< ((9 : Int32) &&& 0x3f).toInt64) = (6341065400528141824 : Int64) from by decide]
    show Steps p.tables e below (T3.setTop (mkF m 58 (LS_JsJsJsJsJsJsJsR (36028797018963967 : Int64) (-5044313057631688021 : Int64) (2210141511517208575 : Int64) (7435674573564081700 : Int64) (7239337960414712511 : Int64) (5412103778470702295 : Int64) (1873798617647539866 : Int64) b1) [(.long (6341065400528141824 : Int64)), (.long (371 : Int64)), (.int (1 : Int32)), (.ref b1)])) _
    refine XS.lor X3.here hx rfl (hb hby d1_58) rfl ?_
    rw [show ((371 : Int64) ||| (6341065400528141824 : Int64)) = (6341065400528142195 : Int64) from by decide]
    show Steps p.tables e below (T3.setTop (mkF m 59 (LS_JsJsJsJsJsJsJsR (36028797018963967 : Int64) (-5044313057631688021 : Int64) (2210141511517208575 : Int64) (7435674573564081700 : Int64) (7239337960414712511 : Int64) (5412103778470702295 : Int64) (1873798617647539866 : Int64) b1) [(.long (6341065400528142195 : Int64)), (.int (1 : Int32)), (.ref b1)])) _
    refine XS.lloadN X3.here hx rfl (hb hby d1_59) rfl ?_
    show Steps p.tables e below (T3.setTop (mkF m 60 (LS_JsJsJsJsJsJsJsR (36028797018963967 : Int64) (-5044313057631688021 : Int64) (2210141511517208575 : Int64) (7435674573564081700 : Int64) (7239337960414712511 : Int64) (5412103778470702295 : Int64) (1873798617647539866 : Int64) b1) [(.long (36028797018963967 : Int64)), (.long (6341065400528142195 : Int64)), (.int (1 : Int32)), (.ref b1)])) _
    refine XS.land X3.here hx rfl (hb hby d1_60) rfl ?_
    rw [show ((6341065400528142195 : Int64) &&& (36028797018963967 : Int64)) = (36025922209447795 : Int64) from by decide]
    exact k
  obtain ⟨cl4, Ar4, qa4, Sa4, Na4, Ha4, Ga4⟩ := id V3
  have hin5 : ¬ ((1 : Int32) < 0 ∨ cl4.slots.size ≤ ((1 : Int32)).toNatClampNeg) := inb_of Sa4 ⟨by decide, by decide⟩
  obtain ⟨T5, h5, X5, e5, W5, st5⟩ := stJ X3 hx hZ e3 Ar4 (j := (1 : Int32)) hin5 (g := (mkF m 61 (LS_JsJsJsJsJsJsJsR (36028797018963967 : Int64) (-5044313057631688021 : Int64) (2210141511517208575 : Int64) (7435674573564081700 : Int64) (7239337960414712511 : Int64) (5412103778470702295 : Int64) (1873798617647539866 : Int64) b1) [(.long (36025922209447795 : Int64)), (.int (1 : Int32)), (.ref b1)])) rfl rfl (hb hby d1_61)
  have N5 := Fr.snoc X5 N3 g_b1
  have V5 : Arv Z h5 b1 k1 .long (7 : Int32) [(.long (35747322042231467 : Int64)), (.long (36025922209447795 : Int64)), (.long (0 : Int64)), (.long (0 : Int64)), (.long (0 : Int64)), (.long (0 : Int64)), (.long (0 : Int64))] (.long (0 : Int64)) := Arv.set Ar4 qa4 Sa4 Na4 Ha4 Ga4 rfl W5 1 rfl (Nat.le_of_ble_eq_true rfl)
  refine own_go (B := T5.setTop (mkF m 62 (LS_JsJsJsJsJsJsJsR (36028797018963967 : Int64) (-5044313057631688021 : Int64) (2210141511517208575 : Int64) (7435674573564081700 : Int64) (7239337960414712511 : Int64) (5412103778470702295 : Int64) (1873798617647539866 : Int64) b1) [])) (fun t k => st5 _ k) ?_
  refine own_go (B := T5.setTop (mkF m 78 (LS_JsJsJsJsJsJsJsR (36028797018963967 : Int64) (-5044313057631688021 : Int64) (2210141511517208575 : Int64) (7435674573564081700 : Int64) (7239337960414712511 : Int64) (5412103778470702295 : Int64) (1873798617647539866 : Int64) b1) [(.long (1084959616957103 : Int64)), (.int (2 : Int32)), (.ref b1)])) (fun t k => ?_) ?_
  · show Steps p.tables e below (T5.setTop (mkF m 62 (LS_JsJsJsJsJsJsJsR (36028797018963967 : Int64) (-5044313057631688021 : Int64) (2210141511517208575 : Int64) (7435674573564081700 : Int64) (7239337960414712511 : Int64) (5412103778470702295 : Int64) (1873798617647539866 : Int64) b1) [])) _
    refine XS.aload X5.here hx rfl (hb hby d1_62) rfl rfl ?_
    show Steps p.tables e below (T5.setTop (mkF m 64 (LS_JsJsJsJsJsJsJsR (36028797018963967 : Int64) (-5044313057631688021 : Int64) (2210141511517208575 : Int64) (7435674573564081700 : Int64) (7239337960414712511 : Int64) (5412103778470702295 : Int64) (1873798617647539866 : Int64) b1) [(.ref b1)])) _
    refine XS.iconst X5.here hx rfl (hb hby d1_64) ?_
    show Steps p.tables e below (T5.setTop (mkF m 65 (LS_JsJsJsJsJsJsJsR (36028797018963967 : Int64) (-5044313057631688021 : Int64) (2210141511517208575 : Int64) (7435674573564081700 : Int64) (7239337960414712511 : Int64) (5412103778470702295 : Int64) (1873798617647539866 : Int64) b1) [(.int (2 : Int32)), (.ref b1)])) _
    refine XS.lload X5.here hx rfl (hb hby d1_65) rfl ?_
    show Steps p.tables e below (T5.setTop (mkF m 67 (LS_JsJsJsJsJsJsJsR (36028797018963967 : Int64) (-5044313057631688021 : Int64) (2210141511517208575 : Int64) (7435674573564081700 : Int64) (7239337960414712511 : Int64) (5412103778470702295 : Int64) (1873798617647539866 : Int64) b1) [(.long (2210141511517208575 : Int64)), (.int (2 : Int32)), (.ref b1)])) _
    refine XS.bipush X5.here hx rfl (hb hby d1_67) ?_
    show Steps p.tables e below (T5.setTop (mkF m 69 (LS_JsJsJsJsJsJsJsR (36028797018963967 : Int64) (-5044313057631688021 : Int64) (2210141511517208575 : Int64) (7435674573564081700 : Int64) (7239337960414712511 : Int64) (5412103778470702295 : Int64) (1873798617647539866 : Int64) b1) [(.int (46 : Int32)), (.long (2210141511517208575 : Int64)), (.int (2 : Int32)), (.ref b1)])) _
    refine XS.lushr X5.here hx rfl (hb hby d1_69) rfl ?_
    rw [show (((2210141511517208575 : Int64).toUInt64 >>> ((46 : Int32) &&& 0x3f).toInt64.toUInt64).toInt64) = (31407 : Int64) from by decide]
    show Steps p.tables e below (T5.setTop (mkF m 70 (LS_JsJsJsJsJsJsJsR (36028797018963967 : Int64) (-5044313057631688021 : Int64) (2210141511517208575 : Int64) (7435674573564081700 : Int64) (7239337960414712511 : Int64) (5412103778470702295 : Int64) (1873798617647539866 : Int64) b1) [(.long (31407 : Int64)), (.int (2 : Int32)), (.ref b1)])) _
    refine XS.lload X5.here hx rfl (hb hby d1_70) rfl ?_
    show Steps p.tables e below (T5.setTop (mkF m 72 (LS_JsJsJsJsJsJsJsR (36028797018963967 : Int64) (-5044313057631688021 : Int64) (2210141511517208575 : Int64) (7435674573564081700 : Int64) (7239337960414712511 : Int64) (5412103778470702295 : Int64) (1873798617647539866 : Int64) b1) [(.long (7435674573564081700 : Int64)), (.long (31407 : Int64)), (.int (2 : Int32)), (.ref b1)])) _
    refine XS.bipush X5.here hx rfl (hb hby d1_72) ?_
    show Steps p.tables e below (T5.setTop (mkF m 74 (LS_JsJsJsJsJsJsJsR (36028797018963967 : Int64) (-5044313057631688021 : Int64) (2210141511517208575 : Int64) (7435674573564081700 : Int64) (7239337960414712511 : Int64) (5412103778470702295 : Int64) (1873798617647539866 : Int64) b1) [(.int (18 : Int32)), (.long (7435674573564081700 : Int64)), (.long (31407 : Int64)), (.int (2 : Int32)), (.ref b1)])) _
    refine XS.lshl X5.here hx rfl (hb hby d1_74) rfl ?_
    rw [show ((7435674573564081700 : Int64) <<< ((18 : Int32) &&& 0x3f).toInt64) = (5369375715442556928 : Int64) from by decide]
    show Steps p.tables e below (T5.setTop (mkF m 75 (LS_JsJsJsJsJsJsJsR (36028797018963967 : Int64) (-5044313057631688021 : Int64) (2210141511517208575 : Int64) (7435674573564081700 : Int64) (7239337960414712511 : Int64) (5412103778470702295 : Int64) (1873798617647539866 : Int64) b1) [(.long (5369375715442556928 : Int64)), (.long (31407 : Int64)), (.int (2 : Int32)), (.ref b1)])) _
    refine XS.lor X5.here hx rfl (hb hby d1_75) rfl ?_
    rw [show ((31407 : Int64) ||| (5369375715442556928 : Int64)) = (5369375715442588335 : Int64) from by decide]
    show Steps p.tables e below (T5.setTop (mkF m 76 (LS_JsJsJsJsJsJsJsR (36028797018963967 : Int64) (-5044313057631688021 : Int64) (2210141511517208575 : Int64) (7435674573564081700 : Int64) (7239337960414712511 : Int64) (5412103778470702295 : Int64) (1873798617647539866 : Int64) b1) [(.long (5369375715442588335 : Int64)), (.int (2 : Int32)), (.ref b1)])) _
    refine XS.lloadN X5.here hx rfl (hb hby d1_76) rfl ?_
    show Steps p.tables e below (T5.setTop (mkF m 77 (LS_JsJsJsJsJsJsJsR (36028797018963967 : Int64) (-5044313057631688021 : Int64) (2210141511517208575 : Int64) (7435674573564081700 : Int64) (7239337960414712511 : Int64) (5412103778470702295 : Int64) (1873798617647539866 : Int64) b1) [(.long (36028797018963967 : Int64)), (.long (5369375715442588335 : Int64)), (.int (2 : Int32)), (.ref b1)])) _
    refine XS.land X5.here hx rfl (hb hby d1_77) rfl ?_
    rw [show ((5369375715442588335 : Int64) &&& (36028797018963967 : Int64)) = (1084959616957103 : Int64) from by decide]
    exact k
  obtain ⟨cl6, Ar6, qa6, Sa6, Na6, Ha6, Ga6⟩ := id V5
  have hin7 : ¬ ((2 : Int32) < 0 ∨ cl6.slots.size ≤ ((2 : Int32)).toNatClampNeg) := inb_of Sa6 ⟨by decide, by decide⟩
  obtain ⟨T7, h7, X7, e7, W7, st7⟩ := stJ X5 hx hZ e5 Ar6 (j := (2 : Int32)) hin7 (g := (mkF m 78 (LS_JsJsJsJsJsJsJsR (36028797018963967 : Int64) (-5044313057631688021 : Int64) (2210141511517208575 : Int64) (7435674573564081700 : Int64) (7239337960414712511 : Int64) (5412103778470702295 : Int64) (1873798617647539866 : Int64) b1) [(.long (1084959616957103 : Int64)), (.int (2 : Int32)), (.ref b1)])) rfl rfl (hb hby d1_78)
  have N7 := Fr.snoc X7 N5 g_b1
  have V7 : Arv Z h7 b1 k1 .long (7 : Int32) [(.long (35747322042231467 : Int64)), (.long (36025922209447795 : Int64)), (.long (1084959616957103 : Int64)), (.long (0 : Int64)), (.long (0 : Int64)), (.long (0 : Int64)), (.long (0 : Int64))] (.long (0 : Int64)) := Arv.set Ar6 qa6 Sa6 Na6 Ha6 Ga6 rfl W7 2 rfl (Nat.le_of_ble_eq_true rfl)
  refine own_go (B := T7.setTop (mkF m 79 (LS_JsJsJsJsJsJsJsR (36028797018963967 : Int64) (-5044313057631688021 : Int64) (2210141511517208575 : Int64) (7435674573564081700 : Int64) (7239337960414712511 : Int64) (5412103778470702295 : Int64) (1873798617647539866 : Int64) b1) [])) (fun t k => st7 _ k) ?_
  refine own_go (B := T7.setTop (mkF m 95 (LS_JsJsJsJsJsJsJsR (36028797018963967 : Int64) (-5044313057631688021 : Int64) (2210141511517208575 : Int64) (7435674573564081700 : Int64) (7239337960414712511 : Int64) (5412103778470702295 : Int64) (1873798617647539866 : Int64) b1) [(.long (7925923977987733 : Int64)), (.int (3 : Int32)), (.ref b1)])) (fun t k => ?_) ?_
  · show Steps p.tables e below (T7.setTop (mkF m 79 (LS_JsJsJsJsJsJsJsR (36028797018963967 : Int64) (-5044313057631688021 : Int64) (2210141511517208575 : Int64) (7435674573564081700 : Int64) (7239337960414712511 : Int64) (5412103778470702295 : Int64) (1873798617647539866 : Int64) b1) [])) _
    refine XS.aload X7.here hx rfl (hb hby d1_79) rfl rfl ?_
    show Steps p.tables e below (T7.setTop (mkF m 81 (LS_JsJsJsJsJsJsJsR (36028797018963967 : Int64) (-5044313057631688021 : Int64) (2210141511517208575 : Int64) (7435674573564081700 : Int64) (7239337960414712511 : Int64) (5412103778470702295 : Int64) (1873798617647539866 : Int64) b1) [(.ref b1)])) _
    refine XS.iconst X7.here hx rfl (hb hby d1_81) ?_
    show Steps p.tables e below (T7.setTop (mkF m 82 (LS_JsJsJsJsJsJsJsR (36028797018963967 : Int64) (-5044313057631688021 : Int64) (2210141511517208575 : Int64) (7435674573564081700 : Int64) (7239337960414712511 : Int64) (5412103778470702295 : Int64) (1873798617647539866 : Int64) b1) [(.int (3 : Int32)), (.ref b1)])) _
    refine XS.lload X7.here hx rfl (hb hby d1_82) rfl ?_
    show Steps p.tables e below (T7.setTop (mkF m 84 (LS_JsJsJsJsJsJsJsR (36028797018963967 : Int64) (-5044313057631688021 : Int64) (2210141511517208575 : Int64) (7435674573564081700 : Int64) (7239337960414712511 : Int64) (5412103778470702295 : Int64) (1873798617647539866 : Int64) b1) [(.long (7435674573564081700 : Int64)), (.int (3 : Int32)), (.ref b1)])) _
    refine XS.bipush X7.here hx rfl (hb hby d1_84) ?_
    show Steps p.tables e below (T7.setTop (mkF m 86 (LS_JsJsJsJsJsJsJsR (36028797018963967 : Int64) (-5044313057631688021 : Int64) (2210141511517208575 : Int64) (7435674573564081700 : Int64) (7239337960414712511 : Int64) (5412103778470702295 : Int64) (1873798617647539866 : Int64) b1) [(.int (37 : Int32)), (.long (7435674573564081700 : Int64)), (.int (3 : Int32)), (.ref b1)])) _
    refine XS.lushr X7.here hx rfl (hb hby d1_86) rfl ?_
    rw [show (((7435674573564081700 : Int64).toUInt64 >>> ((37 : Int32) &&& 0x3f).toInt64.toUInt64).toInt64) = (54101653 : Int64) from by decide]
    show Steps p.tables e below (T7.setTop (mkF m 87 (LS_JsJsJsJsJsJsJsR (36028797018963967 : Int64) (-5044313057631688021 : Int64) (2210141511517208575 : Int64) (7435674573564081700 : Int64) (7239337960414712511 : Int64) (5412103778470702295 : Int64) (1873798617647539866 : Int64) b1) [(.long (54101653 : Int64)), (.int (3 : Int32)), (.ref b1)])) _
    refine XS.lload X7.here hx rfl (hb hby d1_87) rfl ?_
    show Steps p.tables e below (T7.setTop (mkF m 89 (LS_JsJsJsJsJsJsJsR (36028797018963967 : Int64) (-5044313057631688021 : Int64) (2210141511517208575 : Int64) (7435674573564081700 : Int64) (7239337960414712511 : Int64) (5412103778470702295 : Int64) (1873798617647539866 : Int64) b1) [(.long (7239337960414712511 : Int64)), (.long (54101653 : Int64)), (.int (3 : Int32)), (.ref b1)])) _
    refine XS.bipush X7.here hx rfl (hb hby d1_89) ?_
    show Steps p.tables e below (T7.setTop (mkF m 91 (LS_JsJsJsJsJsJsJsR (36028797018963967 : Int64) (-5044313057631688021 : Int64) (2210141511517208575 : Int64) (7435674573564081700 : Int64) (7239337960414712511 : Int64) (5412103778470702295 : Int64) (1873798617647539866 : Int64) b1) [(.int (27 : Int32)), (.long (7239337960414712511 : Int64)), (.long (54101653 : Int64)), (.int (3 : Int32)), (.ref b1)])) _
    refine XS.lshl X7.here hx rfl (hb hby d1_91) rfl ?_
    rw [show ((7239337960414712511 : Int64) <<< ((27 : Int32) &&& 0x3f).toInt64) = (2854200888422039552 : Int64) from by decide]
    show Steps p.tables e below (T7.setTop (mkF m 92 (LS_JsJsJsJsJsJsJsR (36028797018963967 : Int64) (-5044313057631688021 : Int64) (2210141511517208575 : Int64) (7435674573564081700 : Int64) (7239337960414712511 : Int64) (5412103778470702295 : Int64) (1873798617647539866 : Int64) b1) [(.long (2854200888422039552 : Int64)), (.long (54101653 : Int64)), (.int (3 : Int32)), (.ref b1)])) _
    refine XS.lor X7.here hx rfl (hb hby d1_92) rfl ?_
    rw [show ((54101653 : Int64) ||| (2854200888422039552 : Int64)) = (2854200888476141205 : Int64) from by decide]
    show Steps p.tables e below (T7.setTop (mkF m 93 (LS_JsJsJsJsJsJsJsR (36028797018963967 : Int64) (-5044313057631688021 : Int64) (2210141511517208575 : Int64) (7435674573564081700 : Int64) (7239337960414712511 : Int64) (5412103778470702295 : Int64) (1873798617647539866 : Int64) b1) [(.long (2854200888476141205 : Int64)), (.int (3 : Int32)), (.ref b1)])) _
    refine XS.lloadN X7.here hx rfl (hb hby d1_93) rfl ?_
    show Steps p.tables e below (T7.setTop (mkF m 94 (LS_JsJsJsJsJsJsJsR (36028797018963967 : Int64) (-5044313057631688021 : Int64) (2210141511517208575 : Int64) (7435674573564081700 : Int64) (7239337960414712511 : Int64) (5412103778470702295 : Int64) (1873798617647539866 : Int64) b1) [(.long (36028797018963967 : Int64)), (.long (2854200888476141205 : Int64)), (.int (3 : Int32)), (.ref b1)])) _
    refine XS.land X7.here hx rfl (hb hby d1_94) rfl ?_
    rw [show ((2854200888476141205 : Int64) &&& (36028797018963967 : Int64)) = (7925923977987733 : Int64) from by decide]
    exact k
  obtain ⟨cl8, Ar8, qa8, Sa8, Na8, Ha8, Ga8⟩ := id V7
  have hin9 : ¬ ((3 : Int32) < 0 ∨ cl8.slots.size ≤ ((3 : Int32)).toNatClampNeg) := inb_of Sa8 ⟨by decide, by decide⟩
  obtain ⟨T9, h9, X9, e9, W9, st9⟩ := stJ X7 hx hZ e7 Ar8 (j := (3 : Int32)) hin9 (g := (mkF m 95 (LS_JsJsJsJsJsJsJsR (36028797018963967 : Int64) (-5044313057631688021 : Int64) (2210141511517208575 : Int64) (7435674573564081700 : Int64) (7239337960414712511 : Int64) (5412103778470702295 : Int64) (1873798617647539866 : Int64) b1) [(.long (7925923977987733 : Int64)), (.int (3 : Int32)), (.ref b1)])) rfl rfl (hb hby d1_95)
  have N9 := Fr.snoc X9 N7 g_b1
  have V9 : Arv Z h9 b1 k1 .long (7 : Int32) [(.long (35747322042231467 : Int64)), (.long (36025922209447795 : Int64)), (.long (1084959616957103 : Int64)), (.long (7925923977987733 : Int64)), (.long (0 : Int64)), (.long (0 : Int64)), (.long (0 : Int64))] (.long (0 : Int64)) := Arv.set Ar8 qa8 Sa8 Na8 Ha8 Ga8 rfl W9 3 rfl (Nat.le_of_ble_eq_true rfl)
  refine own_go (B := T9.setTop (mkF m 96 (LS_JsJsJsJsJsJsJsR (36028797018963967 : Int64) (-5044313057631688021 : Int64) (2210141511517208575 : Int64) (7435674573564081700 : Int64) (7239337960414712511 : Int64) (5412103778470702295 : Int64) (1873798617647539866 : Int64) b1) [])) (fun t k => st9 _ k) ?_
  refine own_go (B := T9.setTop (mkF m 112 (LS_JsJsJsJsJsJsJsR (36028797018963967 : Int64) (-5044313057631688021 : Int64) (2210141511517208575 : Int64) (7435674573564081700 : Int64) (7239337960414712511 : Int64) (5412103778470702295 : Int64) (1873798617647539866 : Int64) b1) [(.long (16551456537884751 : Int64)), (.int (4 : Int32)), (.ref b1)])) (fun t k => ?_) ?_
  · show Steps p.tables e below (T9.setTop (mkF m 96 (LS_JsJsJsJsJsJsJsR (36028797018963967 : Int64) (-5044313057631688021 : Int64) (2210141511517208575 : Int64) (7435674573564081700 : Int64) (7239337960414712511 : Int64) (5412103778470702295 : Int64) (1873798617647539866 : Int64) b1) [])) _
    refine XS.aload X9.here hx rfl (hb hby d1_96) rfl rfl ?_
    show Steps p.tables e below (T9.setTop (mkF m 98 (LS_JsJsJsJsJsJsJsR (36028797018963967 : Int64) (-5044313057631688021 : Int64) (2210141511517208575 : Int64) (7435674573564081700 : Int64) (7239337960414712511 : Int64) (5412103778470702295 : Int64) (1873798617647539866 : Int64) b1) [(.ref b1)])) _
    refine XS.iconst X9.here hx rfl (hb hby d1_98) ?_
    show Steps p.tables e below (T9.setTop (mkF m 99 (LS_JsJsJsJsJsJsJsR (36028797018963967 : Int64) (-5044313057631688021 : Int64) (2210141511517208575 : Int64) (7435674573564081700 : Int64) (7239337960414712511 : Int64) (5412103778470702295 : Int64) (1873798617647539866 : Int64) b1) [(.int (4 : Int32)), (.ref b1)])) _
    refine XS.lload X9.here hx rfl (hb hby d1_99) rfl ?_
    show Steps p.tables e below (T9.setTop (mkF m 101 (LS_JsJsJsJsJsJsJsR (36028797018963967 : Int64) (-5044313057631688021 : Int64) (2210141511517208575 : Int64) (7435674573564081700 : Int64) (7239337960414712511 : Int64) (5412103778470702295 : Int64) (1873798617647539866 : Int64) b1) [(.long (7239337960414712511 : Int64)), (.int (4 : Int32)), (.ref b1)])) _
    refine XS.bipush X9.here hx rfl (hb hby d1_101) ?_
    show Steps p.tables e below (T9.setTop (mkF m 103 (LS_JsJsJsJsJsJsJsR (36028797018963967 : Int64) (-5044313057631688021 : Int64) (2210141511517208575 : Int64) (7435674573564081700 : Int64) (7239337960414712511 : Int64) (5412103778470702295 : Int64) (1873798617647539866 : Int64) b1) [(.int (28 : Int32)), (.long (7239337960414712511 : Int64)), (.int (4 : Int32)), (.ref b1)])) _
    refine XS.lushr X9.here hx rfl (hb hby d1_103) rfl ?_
    rw [show (((7239337960414712511 : Int64).toUInt64 >>> ((28 : Int32) &&& 0x3f).toInt64.toUInt64).toInt64) = (26968635471 : Int64) from by decide]
    show Steps p.tables e below (T9.setTop (mkF m 104 (LS_JsJsJsJsJsJsJsR (36028797018963967 : Int64) (-5044313057631688021 : Int64) (2210141511517208575 : Int64) (7435674573564081700 : Int64) (7239337960414712511 : Int64) (5412103778470702295 : Int64) (1873798617647539866 : Int64) b1) [(.long (26968635471 : Int64)), (.int (4 : Int32)), (.ref b1)])) _
    refine XS.lload X9.here hx rfl (hb hby d1_104) rfl ?_
    show Steps p.tables e below (T9.setTop (mkF m 106 (LS_JsJsJsJsJsJsJsR (36028797018963967 : Int64) (-5044313057631688021 : Int64) (2210141511517208575 : Int64) (7435674573564081700 : Int64) (7239337960414712511 : Int64) (5412103778470702295 : Int64) (1873798617647539866 : Int64) b1) [(.long (5412103778470702295 : Int64)), (.long (26968635471 : Int64)), (.int (4 : Int32)), (.ref b1)])) _
    refine XS.bipush X9.here hx rfl (hb hby d1_106) ?_
    show Steps p.tables e below (T9.setTop (mkF m 108 (LS_JsJsJsJsJsJsJsR (36028797018963967 : Int64) (-5044313057631688021 : Int64) (2210141511517208575 : Int64) (7435674573564081700 : Int64) (7239337960414712511 : Int64) (5412103778470702295 : Int64) (1873798617647539866 : Int64) b1) [(.int (36 : Int32)), (.long (5412103778470702295 : Int64)), (.long (26968635471 : Int64)), (.int (4 : Int32)), (.ref b1)])) _
    refine XS.lshl X9.here hx rfl (hb hby d1_108) rfl ?_
    rw [show ((5412103778470702295 : Int64) <<< ((36 : Int32) &&& 0x3f).toInt64) = (3799575116560465920 : Int64) from by decide]
    show Steps p.tables e below (T9.setTop (mkF m 109 (LS_JsJsJsJsJsJsJsR (36028797018963967 : Int64) (-5044313057631688021 : Int64) (2210141511517208575 : Int64) (7435674573564081700 : Int64) (7239337960414712511 : Int64) (5412103778470702295 : Int64) (1873798617647539866 : Int64) b1) [(.long (3799575116560465920 : Int64)), (.long (26968635471 : Int64)), (.int (4 : Int32)), (.ref b1)])) _
    refine XS.lor X9.here hx rfl (hb hby d1_109) rfl ?_
    rw [show ((26968635471 : Int64) ||| (3799575116560465920 : Int64)) = (3799575143529101391 : Int64) from by decide]
    show Steps p.tables e below (T9.setTop (mkF m 110 (LS_JsJsJsJsJsJsJsR (36028797018963967 : Int64) (-5044313057631688021 : Int64) (2210141511517208575 : Int64) (7435674573564081700 : Int64) (7239337960414712511 : Int64) (5412103778470702295 : Int64) (1873798617647539866 : Int64) b1) [(.long (3799575143529101391 : Int64)), (.int (4 : Int32)), (.ref b1)])) _
    refine XS.lloadN X9.here hx rfl (hb hby d1_110) rfl ?_
    show Steps p.tables e below (T9.setTop (mkF m 111 (LS_JsJsJsJsJsJsJsR (36028797018963967 : Int64) (-5044313057631688021 : Int64) (2210141511517208575 : Int64) (7435674573564081700 : Int64) (7239337960414712511 : Int64) (5412103778470702295 : Int64) (1873798617647539866 : Int64) b1) [(.long (36028797018963967 : Int64)), (.long (3799575143529101391 : Int64)), (.int (4 : Int32)), (.ref b1)])) _
    refine XS.land X9.here hx rfl (hb hby d1_111) rfl ?_
    rw [show ((3799575143529101391 : Int64) &&& (36028797018963967 : Int64)) = (16551456537884751 : Int64) from by decide]
    exact k
  obtain ⟨cl10, Ar10, qa10, Sa10, Na10, Ha10, Ga10⟩ := id V9
  have hin11 : ¬ ((4 : Int32) < 0 ∨ cl10.slots.size ≤ ((4 : Int32)).toNatClampNeg) := inb_of Sa10 ⟨by decide, by decide⟩
  obtain ⟨T11, h11, X11, e11, W11, st11⟩ := stJ X9 hx hZ e9 Ar10 (j := (4 : Int32)) hin11 (g := (mkF m 112 (LS_JsJsJsJsJsJsJsR (36028797018963967 : Int64) (-5044313057631688021 : Int64) (2210141511517208575 : Int64) (7435674573564081700 : Int64) (7239337960414712511 : Int64) (5412103778470702295 : Int64) (1873798617647539866 : Int64) b1) [(.long (16551456537884751 : Int64)), (.int (4 : Int32)), (.ref b1)])) rfl rfl (hb hby d1_112)
  have N11 := Fr.snoc X11 N9 g_b1
  have V11 : Arv Z h11 b1 k1 .long (7 : Int32) [(.long (35747322042231467 : Int64)), (.long (36025922209447795 : Int64)), (.long (1084959616957103 : Int64)), (.long (7925923977987733 : Int64)), (.long (16551456537884751 : Int64)), (.long (0 : Int64)), (.long (0 : Int64))] (.long (0 : Int64)) := Arv.set Ar10 qa10 Sa10 Na10 Ha10 Ga10 rfl W11 4 rfl (Nat.le_of_ble_eq_true rfl)
  refine own_go (B := T11.setTop (mkF m 113 (LS_JsJsJsJsJsJsJsR (36028797018963967 : Int64) (-5044313057631688021 : Int64) (2210141511517208575 : Int64) (7435674573564081700 : Int64) (7239337960414712511 : Int64) (5412103778470702295 : Int64) (1873798617647539866 : Int64) b1) [])) (fun t k => st11 _ k) ?_
  refine own_go (B := T11.setTop (mkF m 129 (LS_JsJsJsJsJsJsJsR (36028797018963967 : Int64) (-5044313057631688021 : Int64) (2210141511517208575 : Int64) (7435674573564081700 : Int64) (7239337960414712511 : Int64) (5412103778470702295 : Int64) (1873798617647539866 : Int64) b1) [(.long (23443114579904617 : Int64)), (.int (5 : Int32)), (.ref b1)])) (fun t k => ?_) ?_
  · show Steps p.tables e below (T11.setTop (mkF m 113 (LS_JsJsJsJsJsJsJsR (36028797018963967 : Int64) (-5044313057631688021 : Int64) (2210141511517208575 : Int64) (7435674573564081700 : Int64) (7239337960414712511 : Int64) (5412103778470702295 : Int64) (1873798617647539866 : Int64) b1) [])) _
    refine XS.aload X11.here hx rfl (hb hby d1_113) rfl rfl ?_
    show Steps p.tables e below (T11.setTop (mkF m 115 (LS_JsJsJsJsJsJsJsR (36028797018963967 : Int64) (-5044313057631688021 : Int64) (2210141511517208575 : Int64) (7435674573564081700 : Int64) (7239337960414712511 : Int64) (5412103778470702295 : Int64) (1873798617647539866 : Int64) b1) [(.ref b1)])) _
    refine XS.iconst X11.here hx rfl (hb hby d1_115) ?_
    show Steps p.tables e below (T11.setTop (mkF m 116 (LS_JsJsJsJsJsJsJsR (36028797018963967 : Int64) (-5044313057631688021 : Int64) (2210141511517208575 : Int64) (7435674573564081700 : Int64) (7239337960414712511 : Int64) (5412103778470702295 : Int64) (1873798617647539866 : Int64) b1) [(.int (5 : Int32)), (.ref b1)])) _
    refine XS.lload X11.here hx rfl (hb hby d1_116) rfl ?_
    show Steps p.tables e below (T11.setTop (mkF m 118 (LS_JsJsJsJsJsJsJsR (36028797018963967 : Int64) (-5044313057631688021 : Int64) (2210141511517208575 : Int64) (7435674573564081700 : Int64) (7239337960414712511 : Int64) (5412103778470702295 : Int64) (1873798617647539866 : Int64) b1) [(.long (5412103778470702295 : Int64)), (.int (5 : Int32)), (.ref b1)])) _
    refine XS.bipush X11.here hx rfl (hb hby d1_118) ?_
    show Steps p.tables e below (T11.setTop (mkF m 120 (LS_JsJsJsJsJsJsJsR (36028797018963967 : Int64) (-5044313057631688021 : Int64) (2210141511517208575 : Int64) (7435674573564081700 : Int64) (7239337960414712511 : Int64) (5412103778470702295 : Int64) (1873798617647539866 : Int64) b1) [(.int (19 : Int32)), (.long (5412103778470702295 : Int64)), (.int (5 : Int32)), (.ref b1)])) _
    refine XS.lushr X11.here hx rfl (hb hby d1_120) rfl ?_
    rw [show (((5412103778470702295 : Int64).toUInt64 >>> ((19 : Int32) &&& 0x3f).toInt64.toUInt64).toInt64) = (10322768742505 : Int64) from by decide]
    show Steps p.tables e below (T11.setTop (mkF m 121 (LS_JsJsJsJsJsJsJsR (36028797018963967 : Int64) (-5044313057631688021 : Int64) (2210141511517208575 : Int64) (7435674573564081700 : Int64) (7239337960414712511 : Int64) (5412103778470702295 : Int64) (1873798617647539866 : Int64) b1) [(.long (10322768742505 : Int64)), (.int (5 : Int32)), (.ref b1)])) _
    refine XS.lload X11.here hx rfl (hb hby d1_121) rfl ?_
    show Steps p.tables e below (T11.setTop (mkF m 123 (LS_JsJsJsJsJsJsJsR (36028797018963967 : Int64) (-5044313057631688021 : Int64) (2210141511517208575 : Int64) (7435674573564081700 : Int64) (7239337960414712511 : Int64) (5412103778470702295 : Int64) (1873798617647539866 : Int64) b1) [(.long (1873798617647539866 : Int64)), (.long (10322768742505 : Int64)), (.int (5 : Int32)), (.ref b1)])) _
    refine XS.bipush X11.here hx rfl (hb hby d1_123) ?_
    show Steps p.tables e below (T11.setTop (mkF m 125 (LS_JsJsJsJsJsJsJsR (36028797018963967 : Int64) (-5044313057631688021 : Int64) (2210141511517208575 : Int64) (7435674573564081700 : Int64) (7239337960414712511 : Int64) (5412103778470702295 : Int64) (1873798617647539866 : Int64) b1) [(.int (45 : Int32)), (.long (1873798617647539866 : Int64)), (.long (10322768742505 : Int64)), (.int (5 : Int32)), (.ref b1)])) _
    refine XS.lshl X11.here hx rfl (hb hby d1_125) rfl ?_
    rw [show ((1873798617647539866 : Int64) <<< ((45 : Int32) &&& 0x3f).toInt64) = (-228768787321585664 : Int64) from by decide]
    show Steps p.tables e below (T11.setTop (mkF m 126 (LS_JsJsJsJsJsJsJsR (36028797018963967 : Int64) (-5044313057631688021 : Int64) (2210141511517208575 : Int64) (7435674573564081700 : Int64) (7239337960414712511 : Int64) (5412103778470702295 : Int64) (1873798617647539866 : Int64) b1) [(.long (-228768787321585664 : Int64)), (.long (10322768742505 : Int64)), (.int (5 : Int32)), (.ref b1)])) _
    refine XS.lor X11.here hx rfl (hb hby d1_126) rfl ?_
    rw [show ((10322768742505 : Int64) ||| (-228768787321585664 : Int64)) = (-228758464552843159 : Int64) from by decide]
    show Steps p.tables e below (T11.setTop (mkF m 127 (LS_JsJsJsJsJsJsJsR (36028797018963967 : Int64) (-5044313057631688021 : Int64) (2210141511517208575 : Int64) (7435674573564081700 : Int64) (7239337960414712511 : Int64) (5412103778470702295 : Int64) (1873798617647539866 : Int64) b1) [(.long (-228758464552843159 : Int64)), (.int (5 : Int32)), (.ref b1)])) _
    refine XS.lloadN X11.here hx rfl (hb hby d1_127) rfl ?_
    show Steps p.tables e below (T11.setTop (mkF m 128 (LS_JsJsJsJsJsJsJsR (36028797018963967 : Int64) (-5044313057631688021 : Int64) (2210141511517208575 : Int64) (7435674573564081700 : Int64) (7239337960414712511 : Int64) (5412103778470702295 : Int64) (1873798617647539866 : Int64) b1) [(.long (36028797018963967 : Int64)), (.long (-228758464552843159 : Int64)), (.int (5 : Int32)), (.ref b1)])) _
    refine XS.land X11.here hx rfl (hb hby d1_128) rfl ?_
    rw [show ((-228758464552843159 : Int64) &&& (36028797018963967 : Int64)) = (23443114579904617 : Int64) from by decide]
    exact k
  obtain ⟨cl12, Ar12, qa12, Sa12, Na12, Ha12, Ga12⟩ := id V11
  have hin13 : ¬ ((5 : Int32) < 0 ∨ cl12.slots.size ≤ ((5 : Int32)).toNatClampNeg) := inb_of Sa12 ⟨by decide, by decide⟩
  obtain ⟨T13, h13, X13, e13, W13, st13⟩ := stJ X11 hx hZ e11 Ar12 (j := (5 : Int32)) hin13 (g := (mkF m 129 (LS_JsJsJsJsJsJsJsR (36028797018963967 : Int64) (-5044313057631688021 : Int64) (2210141511517208575 : Int64) (7435674573564081700 : Int64) (7239337960414712511 : Int64) (5412103778470702295 : Int64) (1873798617647539866 : Int64) b1) [(.long (23443114579904617 : Int64)), (.int (5 : Int32)), (.ref b1)])) rfl rfl (hb hby d1_129)
  have N13 := Fr.snoc X13 N11 g_b1
  have V13 : Arv Z h13 b1 k1 .long (7 : Int32) [(.long (35747322042231467 : Int64)), (.long (36025922209447795 : Int64)), (.long (1084959616957103 : Int64)), (.long (7925923977987733 : Int64)), (.long (16551456537884751 : Int64)), (.long (23443114579904617 : Int64)), (.long (0 : Int64))] (.long (0 : Int64)) := Arv.set Ar12 qa12 Sa12 Na12 Ha12 Ga12 rfl W13 5 rfl (Nat.le_of_ble_eq_true rfl)
  refine own_go (B := T13.setTop (mkF m 130 (LS_JsJsJsJsJsJsJsR (36028797018963967 : Int64) (-5044313057631688021 : Int64) (2210141511517208575 : Int64) (7435674573564081700 : Int64) (7239337960414712511 : Int64) (5412103778470702295 : Int64) (1873798617647539866 : Int64) b1) [])) (fun t k => st13 _ k) ?_
  refine own_go (B := T13.setTop (mkF m 139 (LS_JsJsJsJsJsJsJsR (36028797018963967 : Int64) (-5044313057631688021 : Int64) (2210141511517208575 : Int64) (7435674573564081700 : Int64) (7239337960414712511 : Int64) (5412103778470702295 : Int64) (1873798617647539866 : Int64) b1) [(.long (1829881462546425 : Int64)), (.int (6 : Int32)), (.ref b1)])) (fun t k => ?_) ?_
  · show Steps p.tables e below (T13.setTop (mkF m 130 (LS_JsJsJsJsJsJsJsR (36028797018963967 : Int64) (-5044313057631688021 : Int64) (2210141511517208575 : Int64) (7435674573564081700 : Int64) (7239337960414712511 : Int64) (5412103778470702295 : Int64) (1873798617647539866 : Int64) b1) [])) _
    refine XS.aload X13.here hx rfl (hb hby d1_130) rfl rfl ?_
    show Steps p.tables e below (T13.setTop (mkF m 132 (LS_JsJsJsJsJsJsJsR (36028797018963967 : Int64) (-5044313057631688021 : Int64) (2210141511517208575 : Int64) (7435674573564081700 : Int64) (7239337960414712511 : Int64) (5412103778470702295 : Int64) (1873798617647539866 : Int64) b1) [(.ref b1)])) _
    refine XS.bipush X13.here hx rfl (hb hby d1_132) ?_
    show Steps p.tables e below (T13.setTop (mkF m 134 (LS_JsJsJsJsJsJsJsR (36028797018963967 : Int64) (-5044313057631688021 : Int64) (2210141511517208575 : Int64) (7435674573564081700 : Int64) (7239337960414712511 : Int64) (5412103778470702295 : Int64) (1873798617647539866 : Int64) b1) [(.int (6 : Int32)), (.ref b1)])) _
    refine XS.lload X13.here hx rfl (hb hby d1_134) rfl ?_
    show Steps p.tables e below (T13.setTop (mkF m 136 (LS_JsJsJsJsJsJsJsR (36028797018963967 : Int64) (-5044313057631688021 : Int64) (2210141511517208575 : Int64) (7435674573564081700 : Int64) (7239337960414712511 : Int64) (5412103778470702295 : Int64) (1873798617647539866 : Int64) b1) [(.long (1873798617647539866 : Int64)), (.int (6 : Int32)), (.ref b1)])) _
    refine XS.bipush X13.here hx rfl (hb hby d1_136) ?_
    show Steps p.tables e below (T13.setTop (mkF m 138 (LS_JsJsJsJsJsJsJsR (36028797018963967 : Int64) (-5044313057631688021 : Int64) (2210141511517208575 : Int64) (7435674573564081700 : Int64) (7239337960414712511 : Int64) (5412103778470702295 : Int64) (1873798617647539866 : Int64) b1) [(.int (10 : Int32)), (.long (1873798617647539866 : Int64)), (.int (6 : Int32)), (.ref b1)])) _
    refine XS.lushr X13.here hx rfl (hb hby d1_138) rfl ?_
    rw [show (((1873798617647539866 : Int64).toUInt64 >>> ((10 : Int32) &&& 0x3f).toInt64.toUInt64).toInt64) = (1829881462546425 : Int64) from by decide]
    exact k
  obtain ⟨cl14, Ar14, qa14, Sa14, Na14, Ha14, Ga14⟩ := id V13
  have hin15 : ¬ ((6 : Int32) < 0 ∨ cl14.slots.size ≤ ((6 : Int32)).toNatClampNeg) := inb_of Sa14 ⟨by decide, by decide⟩
  obtain ⟨T15, h15, X15, e15, W15, st15⟩ := stJ X13 hx hZ e13 Ar14 (j := (6 : Int32)) hin15 (g := (mkF m 139 (LS_JsJsJsJsJsJsJsR (36028797018963967 : Int64) (-5044313057631688021 : Int64) (2210141511517208575 : Int64) (7435674573564081700 : Int64) (7239337960414712511 : Int64) (5412103778470702295 : Int64) (1873798617647539866 : Int64) b1) [(.long (1829881462546425 : Int64)), (.int (6 : Int32)), (.ref b1)])) rfl rfl (hb hby d1_139)
  have N15 := Fr.snoc X15 N13 g_b1
  have V15 : Arv Z h15 b1 k1 .long (7 : Int32) [(.long (35747322042231467 : Int64)), (.long (36025922209447795 : Int64)), (.long (1084959616957103 : Int64)), (.long (7925923977987733 : Int64)), (.long (16551456537884751 : Int64)), (.long (23443114579904617 : Int64)), (.long (1829881462546425 : Int64))] (.long (0 : Int64)) := Arv.set Ar14 qa14 Sa14 Na14 Ha14 Ga14 rfl W15 6 rfl (Nat.le_of_ble_eq_true rfl)
  refine own_go (B := T15.setTop (mkF m 140 (LS_JsJsJsJsJsJsJsR (36028797018963967 : Int64) (-5044313057631688021 : Int64) (2210141511517208575 : Int64) (7435674573564081700 : Int64) (7239337960414712511 : Int64) (5412103778470702295 : Int64) (1873798617647539866 : Int64) b1) [])) (fun t k => st15 _ k) ?_
  refine own_go (B := T15.setTop (mkF m 142 (LS_JsJsJsJsJsJsJsR (36028797018963967 : Int64) (-5044313057631688021 : Int64) (2210141511517208575 : Int64) (7435674573564081700 : Int64) (7239337960414712511 : Int64) (5412103778470702295 : Int64) (1873798617647539866 : Int64) b1) [(.ref b1)])) (fun t k => ?_) ?_
  · show Steps p.tables e below (T15.setTop (mkF m 140 (LS_JsJsJsJsJsJsJsR (36028797018963967 : Int64) (-5044313057631688021 : Int64) (2210141511517208575 : Int64) (7435674573564081700 : Int64) (7239337960414712511 : Int64) (5412103778470702295 : Int64) (1873798617647539866 : Int64) b1) [])) _
    refine XS.aload X15.here hx rfl (hb hby d1_140) rfl rfl ?_
    exact k
  obtain ⟨fs, hr, hrun, hended, hW, hsame⟩ := X15.leave (v := some (.ref b1)) (fun h => by rw [Bd.returns] at h; cases h)
  refine ⟨_, _, ?_, hrun, hended, _, _, rfl, ?_, ⟨_, rfl⟩, hW, hsame.mono (by decide) (by decide)⟩
  · show Steps p.tables e below (T15.setTop (mkF m 142 (LS_JsJsJsJsJsJsJsR (36028797018963967 : Int64) (-5044313057631688021 : Int64) (2210141511517208575 : Int64) (7435674573564081700 : Int64) (7239337960414712511 : Int64) (5412103778470702295 : Int64) (1873798617647539866 : Int64) b1) [(.ref b1)])) _
    exact retOut X15 hx Bd.returns rfl (Or.inr (Or.inr (Or.inr (Or.inr ⟨rfl, rfl, rfl⟩)))) (hb hby d1_142) hr
  · show Q1 Z  h0 n0 _ T15.heap _
    rw [e15]
    have K0_v16 := K0.ext E1
    have K0_v17 := K0_v16.wr W3 (Or.inr sz_b1)
    have K0_v18 := K0_v17.wr W5 (Or.inr sz_b1)
    have K0_v19 := K0_v18.wr W7 (Or.inr sz_b1)
    have K0_v20 := K0_v19.wr W9 (Or.inr sz_b1)
    have K0_v21 := K0_v20.wr W11 (Or.inr sz_b1)
    have K0_v22 := K0_v21.wr W13 (Or.inr sz_b1)
    have K0_v23 := K0_v22.wr W15 (Or.inr sz_b1)
    exact ⟨b1, k1, rfl, N15, sz_b1, K0_v23, V15⟩
theorem ef_3 (m : MethodId) (r0 : Addr) (r1 : Addr) : entryFrame m #[(.ref r0), (.ref r1)] 2 = mkF m 0 #[.val (.ref r0), .val (.ref r1)] [] := by first | (simp [entryFrame, mkF, argsToLocals, Value.category]; done) | rfl
theorem pn_3 : plainName "com/example/barred_rows/barredrows/crypto/FpEqualPinLaw" = true := by first | (simp [plainName, overriddenIn]; done) | decide +kernel
abbrev LS_RR (a0 : Addr) (a1 : Addr) : Array Slot := #[.val (.ref a0), .val (.ref a1)]
theorem d3_0 : decode method_4_code 0 = .ok (.aload_n 0, 1) := by decide +kernel
theorem d3_1 : decode method_4_code 1 = .ok (.bipush 6, 2) := by decide +kernel
theorem d3_3 : decode method_4_code 3 = .ok (.laload, 1) := by decide +kernel
theorem d3_4 : decode method_4_code 4 = .ok (.aload_n 1, 1) := by decide +kernel
theorem d3_5 : decode method_4_code 5 = .ok (.bipush 6, 2) := by decide +kernel
theorem d3_7 : decode method_4_code 7 = .ok (.laload, 1) := by decide +kernel
theorem d3_8 : decode method_4_code 8 = .ok (.lcmp, 1) := by decide +kernel
theorem d3_9 : decode method_4_code 9 = .ok (.ifCond .eq 21, 3) := by decide +kernel
theorem d3_30 : decode method_4_code 30 = .ok (.aload_n 0, 1) := by decide +kernel
theorem d3_31 : decode method_4_code 31 = .ok (.iconst 5, 1) := by decide +kernel
theorem d3_32 : decode method_4_code 32 = .ok (.laload, 1) := by decide +kernel
theorem d3_33 : decode method_4_code 33 = .ok (.aload_n 1, 1) := by decide +kernel
theorem d3_34 : decode method_4_code 34 = .ok (.iconst 5, 1) := by decide +kernel
theorem d3_35 : decode method_4_code 35 = .ok (.laload, 1) := by decide +kernel
theorem d3_36 : decode method_4_code 36 = .ok (.lcmp, 1) := by decide +kernel
theorem d3_37 : decode method_4_code 37 = .ok (.ifCond .eq 19, 3) := by decide +kernel
theorem d3_56 : decode method_4_code 56 = .ok (.aload_n 0, 1) := by decide +kernel
theorem d3_57 : decode method_4_code 57 = .ok (.iconst 4, 1) := by decide +kernel
theorem d3_58 : decode method_4_code 58 = .ok (.laload, 1) := by decide +kernel
theorem d3_59 : decode method_4_code 59 = .ok (.aload_n 1, 1) := by decide +kernel
theorem d3_60 : decode method_4_code 60 = .ok (.iconst 4, 1) := by decide +kernel
theorem d3_61 : decode method_4_code 61 = .ok (.laload, 1) := by decide +kernel
theorem d3_62 : decode method_4_code 62 = .ok (.lcmp, 1) := by decide +kernel
theorem d3_63 : decode method_4_code 63 = .ok (.ifCond .eq 19, 3) := by decide +kernel
theorem d3_82 : decode method_4_code 82 = .ok (.aload_n 0, 1) := by decide +kernel
theorem d3_83 : decode method_4_code 83 = .ok (.iconst 3, 1) := by decide +kernel
theorem d3_84 : decode method_4_code 84 = .ok (.laload, 1) := by decide +kernel
theorem d3_85 : decode method_4_code 85 = .ok (.aload_n 1, 1) := by decide +kernel
theorem d3_86 : decode method_4_code 86 = .ok (.iconst 3, 1) := by decide +kernel
theorem d3_87 : decode method_4_code 87 = .ok (.laload, 1) := by decide +kernel
theorem d3_88 : decode method_4_code 88 = .ok (.lcmp, 1) := by decide +kernel
theorem d3_89 : decode method_4_code 89 = .ok (.ifCond .eq 19, 3) := by decide +kernel
theorem d3_108 : decode method_4_code 108 = .ok (.aload_n 0, 1) := by decide +kernel
theorem d3_109 : decode method_4_code 109 = .ok (.iconst 2, 1) := by decide +kernel
theorem d3_110 : decode method_4_code 110 = .ok (.laload, 1) := by decide +kernel
theorem d3_111 : decode method_4_code 111 = .ok (.aload_n 1, 1) := by decide +kernel
theorem d3_112 : decode method_4_code 112 = .ok (.iconst 2, 1) := by decide +kernel
theorem d3_113 : decode method_4_code 113 = .ok (.laload, 1) := by decide +kernel
theorem d3_114 : decode method_4_code 114 = .ok (.lcmp, 1) := by decide +kernel
theorem d3_115 : decode method_4_code 115 = .ok (.ifCond .eq 19, 3) := by decide +kernel
theorem d3_134 : decode method_4_code 134 = .ok (.aload_n 0, 1) := by decide +kernel
theorem d3_135 : decode method_4_code 135 = .ok (.iconst 1, 1) := by decide +kernel
theorem d3_136 : decode method_4_code 136 = .ok (.laload, 1) := by decide +kernel
theorem d3_137 : decode method_4_code 137 = .ok (.aload_n 1, 1) := by decide +kernel
theorem d3_138 : decode method_4_code 138 = .ok (.iconst 1, 1) := by decide +kernel
theorem d3_139 : decode method_4_code 139 = .ok (.laload, 1) := by decide +kernel
theorem d3_140 : decode method_4_code 140 = .ok (.lcmp, 1) := by decide +kernel
theorem d3_141 : decode method_4_code 141 = .ok (.ifCond .eq 19, 3) := by decide +kernel
theorem d3_160 : decode method_4_code 160 = .ok (.aload_n 0, 1) := by decide +kernel
theorem d3_161 : decode method_4_code 161 = .ok (.iconst 0, 1) := by decide +kernel
theorem d3_162 : decode method_4_code 162 = .ok (.laload, 1) := by decide +kernel
theorem d3_163 : decode method_4_code 163 = .ok (.aload_n 1, 1) := by decide +kernel
theorem d3_164 : decode method_4_code 164 = .ok (.iconst 0, 1) := by decide +kernel
theorem d3_165 : decode method_4_code 165 = .ok (.laload, 1) := by decide +kernel
theorem d3_166 : decode method_4_code 166 = .ok (.lcmp, 1) := by decide +kernel
theorem d3_167 : decode method_4_code 167 = .ok (.ifCond .eq 19, 3) := by decide +kernel
theorem d3_186 : decode method_4_code 186 = .ok (.iconst 0, 1) := by decide +kernel
theorem d3_187 : decode method_4_code 187 = .ok (.ireturn, 1) := by decide +kernel
theorem d3_170 : decode method_4_code 170 = .ok (.aload_n 0, 1) := by decide +kernel
theorem d3_171 : decode method_4_code 171 = .ok (.iconst 0, 1) := by decide +kernel
theorem d3_172 : decode method_4_code 172 = .ok (.laload, 1) := by decide +kernel
theorem d3_173 : decode method_4_code 173 = .ok (.aload_n 1, 1) := by decide +kernel
theorem d3_174 : decode method_4_code 174 = .ok (.iconst 0, 1) := by decide +kernel
theorem d3_175 : decode method_4_code 175 = .ok (.laload, 1) := by decide +kernel
theorem d3_176 : decode method_4_code 176 = .ok (.lcmp, 1) := by decide +kernel
theorem d3_177 : decode method_4_code 177 = .ok (.ifCond .ge 7, 3) := by decide +kernel
theorem d3_180 : decode method_4_code 180 = .ok (.iconst 1, 1) := by decide +kernel
theorem d3_181 : decode method_4_code 181 = .ok (.goto 4, 3) := by decide +kernel
theorem d3_185 : decode method_4_code 185 = .ok (.ireturn, 1) := by decide +kernel
theorem d3_184 : decode method_4_code 184 = .ok (.iconst 0, 1) := by decide +kernel
theorem d3_144 : decode method_4_code 144 = .ok (.aload_n 0, 1) := by decide +kernel
theorem d3_145 : decode method_4_code 145 = .ok (.iconst 1, 1) := by decide +kernel
theorem d3_146 : decode method_4_code 146 = .ok (.laload, 1) := by decide +kernel
theorem d3_147 : decode method_4_code 147 = .ok (.aload_n 1, 1) := by decide +kernel
theorem d3_148 : decode method_4_code 148 = .ok (.iconst 1, 1) := by decide +kernel
theorem d3_149 : decode method_4_code 149 = .ok (.laload, 1) := by decide +kernel
theorem d3_150 : decode method_4_code 150 = .ok (.lcmp, 1) := by decide +kernel
theorem d3_151 : decode method_4_code 151 = .ok (.ifCond .ge 7, 3) := by decide +kernel
theorem d3_154 : decode method_4_code 154 = .ok (.iconst 1, 1) := by decide +kernel
theorem d3_155 : decode method_4_code 155 = .ok (.goto 4, 3) := by decide +kernel
theorem d3_159 : decode method_4_code 159 = .ok (.ireturn, 1) := by decide +kernel
theorem d3_158 : decode method_4_code 158 = .ok (.iconst 0, 1) := by decide +kernel
theorem d3_118 : decode method_4_code 118 = .ok (.aload_n 0, 1) := by decide +kernel
theorem d3_119 : decode method_4_code 119 = .ok (.iconst 2, 1) := by decide +kernel
theorem d3_120 : decode method_4_code 120 = .ok (.laload, 1) := by decide +kernel
theorem d3_121 : decode method_4_code 121 = .ok (.aload_n 1, 1) := by decide +kernel
theorem d3_122 : decode method_4_code 122 = .ok (.iconst 2, 1) := by decide +kernel
theorem d3_123 : decode method_4_code 123 = .ok (.laload, 1) := by decide +kernel
theorem d3_124 : decode method_4_code 124 = .ok (.lcmp, 1) := by decide +kernel
theorem d3_125 : decode method_4_code 125 = .ok (.ifCond .ge 7, 3) := by decide +kernel
theorem d3_128 : decode method_4_code 128 = .ok (.iconst 1, 1) := by decide +kernel
theorem d3_129 : decode method_4_code 129 = .ok (.goto 4, 3) := by decide +kernel
theorem d3_133 : decode method_4_code 133 = .ok (.ireturn, 1) := by decide +kernel
theorem d3_132 : decode method_4_code 132 = .ok (.iconst 0, 1) := by decide +kernel
theorem d3_92 : decode method_4_code 92 = .ok (.aload_n 0, 1) := by decide +kernel
theorem d3_93 : decode method_4_code 93 = .ok (.iconst 3, 1) := by decide +kernel
theorem d3_94 : decode method_4_code 94 = .ok (.laload, 1) := by decide +kernel
theorem d3_95 : decode method_4_code 95 = .ok (.aload_n 1, 1) := by decide +kernel
theorem d3_96 : decode method_4_code 96 = .ok (.iconst 3, 1) := by decide +kernel
theorem d3_97 : decode method_4_code 97 = .ok (.laload, 1) := by decide +kernel
theorem d3_98 : decode method_4_code 98 = .ok (.lcmp, 1) := by decide +kernel
theorem d3_99 : decode method_4_code 99 = .ok (.ifCond .ge 7, 3) := by decide +kernel
theorem d3_102 : decode method_4_code 102 = .ok (.iconst 1, 1) := by decide +kernel
theorem d3_103 : decode method_4_code 103 = .ok (.goto 4, 3) := by decide +kernel
theorem d3_107 : decode method_4_code 107 = .ok (.ireturn, 1) := by decide +kernel
theorem d3_106 : decode method_4_code 106 = .ok (.iconst 0, 1) := by decide +kernel
theorem d3_66 : decode method_4_code 66 = .ok (.aload_n 0, 1) := by decide +kernel
theorem d3_67 : decode method_4_code 67 = .ok (.iconst 4, 1) := by decide +kernel
theorem d3_68 : decode method_4_code 68 = .ok (.laload, 1) := by decide +kernel
theorem d3_69 : decode method_4_code 69 = .ok (.aload_n 1, 1) := by decide +kernel
theorem d3_70 : decode method_4_code 70 = .ok (.iconst 4, 1) := by decide +kernel
theorem d3_71 : decode method_4_code 71 = .ok (.laload, 1) := by decide +kernel
theorem d3_72 : decode method_4_code 72 = .ok (.lcmp, 1) := by decide +kernel
theorem d3_73 : decode method_4_code 73 = .ok (.ifCond .ge 7, 3) := by decide +kernel
theorem d3_76 : decode method_4_code 76 = .ok (.iconst 1, 1) := by decide +kernel
theorem d3_77 : decode method_4_code 77 = .ok (.goto 4, 3) := by decide +kernel
theorem d3_81 : decode method_4_code 81 = .ok (.ireturn, 1) := by decide +kernel
theorem d3_80 : decode method_4_code 80 = .ok (.iconst 0, 1) := by decide +kernel
theorem d3_40 : decode method_4_code 40 = .ok (.aload_n 0, 1) := by decide +kernel
theorem d3_41 : decode method_4_code 41 = .ok (.iconst 5, 1) := by decide +kernel
theorem d3_42 : decode method_4_code 42 = .ok (.laload, 1) := by decide +kernel
theorem d3_43 : decode method_4_code 43 = .ok (.aload_n 1, 1) := by decide +kernel
theorem d3_44 : decode method_4_code 44 = .ok (.iconst 5, 1) := by decide +kernel
theorem d3_45 : decode method_4_code 45 = .ok (.laload, 1) := by decide +kernel
theorem d3_46 : decode method_4_code 46 = .ok (.lcmp, 1) := by decide +kernel
theorem d3_47 : decode method_4_code 47 = .ok (.ifCond .ge 7, 3) := by decide +kernel
theorem d3_50 : decode method_4_code 50 = .ok (.iconst 1, 1) := by decide +kernel
theorem d3_51 : decode method_4_code 51 = .ok (.goto 4, 3) := by decide +kernel
theorem d3_55 : decode method_4_code 55 = .ok (.ireturn, 1) := by decide +kernel
theorem d3_54 : decode method_4_code 54 = .ok (.iconst 0, 1) := by decide +kernel
theorem d3_12 : decode method_4_code 12 = .ok (.aload_n 0, 1) := by decide +kernel
theorem d3_13 : decode method_4_code 13 = .ok (.bipush 6, 2) := by decide +kernel
theorem d3_15 : decode method_4_code 15 = .ok (.laload, 1) := by decide +kernel
theorem d3_16 : decode method_4_code 16 = .ok (.aload_n 1, 1) := by decide +kernel
theorem d3_17 : decode method_4_code 17 = .ok (.bipush 6, 2) := by decide +kernel
theorem d3_19 : decode method_4_code 19 = .ok (.laload, 1) := by decide +kernel
theorem d3_20 : decode method_4_code 20 = .ok (.lcmp, 1) := by decide +kernel
theorem d3_21 : decode method_4_code 21 = .ok (.ifCond .ge 7, 3) := by decide +kernel
theorem d3_24 : decode method_4_code 24 = .ok (.iconst 1, 1) := by decide +kernel
theorem d3_25 : decode method_4_code 25 = .ok (.goto 4, 3) := by decide +kernel
theorem d3_29 : decode method_4_code 29 = .ok (.ireturn, 1) := by decide +kernel
theorem d3_28 : decode method_4_code 28 = .ok (.iconst 0, 1) := by decide +kernel
def Q3 (Z : State) (r0 : Addr) (r1 : Addr) (kq1 kq2 : ClassId) (x0 x1 x2 x3 x4 x5 x6 : Int64) (h0 : Heap) (n0 : Nat) (v : Option Value) (h : Heap) (L : List Loc) : Prop := ∃ z : Int32, v = some (.int z) ∧ Fr n0 L ∧ h = h0 ∧ (z = (0 : Int32) ∨ (z = (1 : Int32) ∧ (x0).toInt + (x1).toInt * 36028797018963968 + (x2).toInt * 1298074214633706907132624082305024 + (x3).toInt * 46768052394588893382517914646921056628989841375232 + (x4).toInt * 1684996666696914987166688442938726917102321526408785780068975640576 + (x5).toInt * 60708402882054033466233184588234965832575213720379360039119137804340758912662765568 + (x6).toInt * 2187250724783011924372502227117621365353169430893212436425770606409952999199375923223513177023053824 < 4002409555221667393417789825735904156556882819939007885332058136124031650490837864442687629129015664037894272559787))
set_option maxRecDepth 65536 in
set_option maxHeartbeats 40000000 in
theorem rm3 (l : Launch) (Z : State) (a0 : Array Value) (hw : ∀ d ∈ tables_1, d.before a0 Z = true) (ws : List Jvm.Cond) (r0 : Addr) (r1 : Addr) (kq1 kq2 : ClassId) (x0 x1 x2 x3 x4 x5 x6 : Int64) (h0 : Heap) (n0 : Nat) (Z0 : n0 ≤ h0.size) (Vq1 : Arv Z h0 r0 kq1 .long (7 : Int32) [(.long x0), (.long x1), (.long x2), (.long x3), (.long x4), (.long x5), (.long x6)] (.long (0 : Int64))) (Vq2 : Arv Z h0 r1 kq2 .long (7 : Int32) [(.long (35747322042231467 : Int64)), (.long (36025922209447795 : Int64)), (.long (1084959616957103 : Int64)), (.long (7925923977987733 : Int64)), (.long (16551456537884751 : Int64)), (.long (23443114579904617 : Int64)), (.long (1829881462546425 : Int64))] (.long (0 : Int64))) (hx0 : (0 ≤ (x0).toInt ∧ (x0).toInt < 36028797018963968)) (hx1 : (0 ≤ (x1).toInt ∧ (x1).toInt < 36028797018963968)) (hx2 : (0 ≤ (x2).toInt ∧ (x2).toInt < 36028797018963968)) (hx3 : (0 ≤ (x3).toInt ∧ (x3).toInt < 36028797018963968)) (hx4 : (0 ≤ (x4).toInt ∧ (x4).toInt < 36028797018963968)) (hx5 : (0 ≤ (x5).toInt ∧ (x5).toInt < 36028797018963968)) (hx6 : (0 ≤ (x6).toInt ∧ (x6).toInt < 36028797018963968)) :
    MetFree l (⟨"com/example/barred_rows/barredrows/crypto/FpEqualPinLaw", "below", "([J[J)Z"⟩ : MethodName) (head1 (Jvm.Cond.code (⟨"com/example/barred_rows/barredrows/crypto/FpEqualPinLaw", "below", "([J[J)Z"⟩ : MethodName) method_4_code 2 (some .boolean) :: ws) ({ frames := 0, cells := 0, slots := 0, locals := 0 } : Room)) (fun a U => a = #[(.ref r0), (.ref r1)] ∧ Z.Warmed39 U.vm ∧ U.heap = h0) (fun _ _ _ _ _ => True) (fun _ U o U' => ∃ v L, o = .returned v ∧ Q3 Z r0 r1 kq1 kq2 x0 x1 x2 x3 x4 x5 x6 h0 n0 v U'.heap L ∧ FrameEnd U o U' L ({ frames := 0, cells := 0, slots := 0, locals := 0 } : Room).cells ({ frames := 0, cells := 0, slots := 0, locals := 0 } : Room).slots) := by
  refine MetFree.of_bodySF (plainFor_of_name pn_3) hisR ?_
  intro p e s m args below meth c s₁ Bd hml0 hP hK
  obtain ⟨rfl, hZ, hh⟩ := hP
  have hx := Bd.exec
  have hby := Bd.bytes
  have hml : c.maxLocals = 2 := hml0
  have hown : s.vm.findClass "com/example/barred_rows/barredrows/crypto/FpEqualPinLaw" = some m.cls := findClass_of_methodNamed Bd.named
  have hnm := (name_of_methodNamed Bd.named Bd.method).1
  have X0 : Stand p l e ({ frames := 0, cells := 0, slots := 0, locals := 0 } : Room) s m #[(.ref r0), (.ref r1)] below meth c s₁ [] 0 0 := Stand.of_body Bd
  have e0 : s₁.heap = h0 := by rw [← hh, Bd.state]; rfl
  have N0 := Fr.nil n0
  refine own_go (B := s₁.setTop (mkF m 0 (LS_RR r0 r1) [])) (fun t k => castTop (ef_3 m r0 r1) k) ?_
  obtain ⟨cl1, Ar1, qa1, Sa1, Na1, Ha1, Ga1⟩ := id Vq1
  have hin2 : ¬ ((6 : Int32) < 0 ∨ cl1.slots.size ≤ ((6 : Int32)).toNatClampNeg) := inb_of Sa1 ⟨by decide, by decide⟩
  have hat2 : cl1.slots[((6 : Int32)).toNatClampNeg]? = some (.long x6) := Has.at Ha1 hin2 rfl
  obtain ⟨cl3, Ar3, qa3, Sa3, Na3, Ha3, Ga3⟩ := id Vq2
  have hin4 : ¬ ((6 : Int32) < 0 ∨ cl3.slots.size ≤ ((6 : Int32)).toNatClampNeg) := inb_of Sa3 ⟨by decide, by decide⟩
  have hat4 : cl3.slots[((6 : Int32)).toNatClampNeg]? = some (.long (1829881462546425 : Int64)) := Has.at Ha3 hin4 rfl
  refine own_go (B := s₁.setTop (mkF m 9 (LS_RR r0 r1) [(.int (lcmpW x6 (1829881462546425 : Int64)))])) (fun t k => ?_) ?_
  · show Steps p.tables e below (s₁.setTop (mkF m 0 (LS_RR r0 r1) [])) _
    refine XS.aloadN X0.here hx rfl (hb hby d3_0) rfl rfl ?_
    show Steps p.tables e below (s₁.setTop (mkF m 1 (LS_RR r0 r1) [(.ref r0)])) _
    refine XS.bipush X0.here hx rfl (hb hby d3_1) ?_
    show Steps p.tables e below (s₁.setTop (mkF m 3 (LS_RR r0 r1) [(.int (6 : Int32)), (.ref r0)])) _
    refine X0.laload hx (j := (6 : Int32)) (v := (.long x6)) (by rw [e0]; exact Ar1.1) (State.isArrayOf_alike hZ.alike Ar1.2.1) Ar1.2.2 hin2 hat2 (g := (mkF m 3 (LS_RR r0 r1) [(.int (6 : Int32)), (.ref r0)])) rfl rfl (hb hby d3_3) _ ?_
    show Steps p.tables e below (s₁.setTop (mkF m 4 (LS_RR r0 r1) [(.long x6)])) _
    refine XS.aloadN X0.here hx rfl (hb hby d3_4) rfl rfl ?_
    show Steps p.tables e below (s₁.setTop (mkF m 5 (LS_RR r0 r1) [(.ref r1), (.long x6)])) _
    refine XS.bipush X0.here hx rfl (hb hby d3_5) ?_
    show Steps p.tables e below (s₁.setTop (mkF m 7 (LS_RR r0 r1) [(.int (6 : Int32)), (.ref r1), (.long x6)])) _
    refine X0.laload hx (j := (6 : Int32)) (v := (.long (1829881462546425 : Int64))) (by rw [e0]; exact Ar3.1) (State.isArrayOf_alike hZ.alike Ar3.2.1) Ar3.2.2 hin4 hat4 (g := (mkF m 7 (LS_RR r0 r1) [(.int (6 : Int32)), (.ref r1), (.long x6)])) rfl rfl (hb hby d3_7) _ ?_
    show Steps p.tables e below (s₁.setTop (mkF m 8 (LS_RR r0 r1) [(.long (1829881462546425 : Int64)), (.long x6)])) _
    refine XS.lcmp X0.here hx rfl (hb hby d3_8) rfl ?_
    exact k
  by_cases hc9_5 : x6 = (1829881462546425 : Int64)
  · obtain ⟨cl6, Ar6, qa6, Sa6, Na6, Ha6, Ga6⟩ := id Vq1
    have hin7 : ¬ ((5 : Int32) < 0 ∨ cl6.slots.size ≤ ((5 : Int32)).toNatClampNeg) := inb_of Sa6 ⟨by decide, by decide⟩
    have hat7 : cl6.slots[((5 : Int32)).toNatClampNeg]? = some (.long x5) := Has.at Ha6 hin7 rfl
    obtain ⟨cl8, Ar8, qa8, Sa8, Na8, Ha8, Ga8⟩ := id Vq2
    have hin9 : ¬ ((5 : Int32) < 0 ∨ cl8.slots.size ≤ ((5 : Int32)).toNatClampNeg) := inb_of Sa8 ⟨by decide, by decide⟩
    have hat9 : cl8.slots[((5 : Int32)).toNatClampNeg]? = some (.long (23443114579904617 : Int64)) := Has.at Ha8 hin9 rfl
    refine own_go (B := s₁.setTop (mkF m 37 (LS_RR r0 r1) [(.int (lcmpW x5 (23443114579904617 : Int64)))])) (fun t k => ?_) ?_
    · show Steps p.tables e below (s₁.setTop (mkF m 9 (LS_RR r0 r1) [(.int (lcmpW x6 (1829881462546425 : Int64)))])) _
      refine XS.ifYes X0.here hx rfl (pc0 := 9) (pc' := 30) rfl (hb hby d3_9) rfl ((if0 _ _).trans (teq ((lw_eq x6 (1829881462546425 : Int64)).mpr hc9_5)).1) (by decide) (by decide) ?_
      show Steps p.tables e below (s₁.setTop (mkF m 30 (LS_RR r0 r1) [])) _
      refine XS.aloadN X0.here hx rfl (hb hby d3_30) rfl rfl ?_
      show Steps p.tables e below (s₁.setTop (mkF m 31 (LS_RR r0 r1) [(.ref r0)])) _
      refine XS.iconst X0.here hx rfl (hb hby d3_31) ?_
      show Steps p.tables e below (s₁.setTop (mkF m 32 (LS_RR r0 r1) [(.int (5 : Int32)), (.ref r0)])) _
      refine X0.laload hx (j := (5 : Int32)) (v := (.long x5)) (by rw [e0]; exact Ar6.1) (State.isArrayOf_alike hZ.alike Ar6.2.1) Ar6.2.2 hin7 hat7 (g := (mkF m 32 (LS_RR r0 r1) [(.int (5 : Int32)), (.ref r0)])) rfl rfl (hb hby d3_32) _ ?_
      show Steps p.tables e below (s₁.setTop (mkF m 33 (LS_RR r0 r1) [(.long x5)])) _
      refine XS.aloadN X0.here hx rfl (hb hby d3_33) rfl rfl ?_
      show Steps p.tables e below (s₁.setTop (mkF m 34 (LS_RR r0 r1) [(.ref r1), (.long x5)])) _
      refine XS.iconst X0.here hx rfl (hb hby d3_34) ?_
      show Steps p.tables e below (s₁.setTop (mkF m 35 (LS_RR r0 r1) [(.int (5 : Int32)), (.ref r1), (.long x5)])) _
      refine X0.laload hx (j := (5 : Int32)) (v := (.long (23443114579904617 : Int64))) (by rw [e0]; exact Ar8.1) (State.isArrayOf_alike hZ.alike Ar8.2.1) Ar8.2.2 hin9 hat9 (g := (mkF m 35 (LS_RR r0 r1) [(.int (5 : Int32)), (.ref r1), (.long x5)])) rfl rfl (hb hby d3_35) _ ?_
      show Steps p.tables e below (s₁.setTop (mkF m 36 (LS_RR r0 r1) [(.long (23443114579904617 : Int64)), (.long x5)])) _
      refine XS.lcmp X0.here hx rfl (hb hby d3_36) rfl ?_
      exact k
    by_cases hc37_10 : x5 = (23443114579904617 : Int64)
    · obtain ⟨cl11, Ar11, qa11, Sa11, Na11, Ha11, Ga11⟩ := id Vq1
      have hin12 : ¬ ((4 : Int32) < 0 ∨ cl11.slots.size ≤ ((4 : Int32)).toNatClampNeg) := inb_of Sa11 ⟨by decide, by decide⟩
      have hat12 : cl11.slots[((4 : Int32)).toNatClampNeg]? = some (.long x4) := Has.at Ha11 hin12 rfl
      obtain ⟨cl13, Ar13, qa13, Sa13, Na13, Ha13, Ga13⟩ := id Vq2
      have hin14 : ¬ ((4 : Int32) < 0 ∨ cl13.slots.size ≤ ((4 : Int32)).toNatClampNeg) := inb_of Sa13 ⟨by decide, by decide⟩
      have hat14 : cl13.slots[((4 : Int32)).toNatClampNeg]? = some (.long (16551456537884751 : Int64)) := Has.at Ha13 hin14 rfl
      refine own_go (B := s₁.setTop (mkF m 63 (LS_RR r0 r1) [(.int (lcmpW x4 (16551456537884751 : Int64)))])) (fun t k => ?_) ?_
      · show Steps p.tables e below (s₁.setTop (mkF m 37 (LS_RR r0 r1) [(.int (lcmpW x5 (23443114579904617 : Int64)))])) _
        refine XS.ifYes X0.here hx rfl (pc0 := 37) (pc' := 56) rfl (hb hby d3_37) rfl ((if0 _ _).trans (teq ((lw_eq x5 (23443114579904617 : Int64)).mpr hc37_10)).1) (by decide) (by decide) ?_
        show Steps p.tables e below (s₁.setTop (mkF m 56 (LS_RR r0 r1) [])) _
        refine XS.aloadN X0.here hx rfl (hb hby d3_56) rfl rfl ?_
        show Steps p.tables e below (s₁.setTop (mkF m 57 (LS_RR r0 r1) [(.ref r0)])) _
        refine XS.iconst X0.here hx rfl (hb hby d3_57) ?_
        show Steps p.tables e below (s₁.setTop (mkF m 58 (LS_RR r0 r1) [(.int (4 : Int32)), (.ref r0)])) _
        refine X0.laload hx (j := (4 : Int32)) (v := (.long x4)) (by rw [e0]; exact Ar11.1) (State.isArrayOf_alike hZ.alike Ar11.2.1) Ar11.2.2 hin12 hat12 (g := (mkF m 58 (LS_RR r0 r1) [(.int (4 : Int32)), (.ref r0)])) rfl rfl (hb hby d3_58) _ ?_
        show Steps p.tables e below (s₁.setTop (mkF m 59 (LS_RR r0 r1) [(.long x4)])) _
        refine XS.aloadN X0.here hx rfl (hb hby d3_59) rfl rfl ?_
        show Steps p.tables e below (s₁.setTop (mkF m 60 (LS_RR r0 r1) [(.ref r1), (.long x4)])) _
        refine XS.iconst X0.here hx rfl (hb hby d3_60) ?_
        show Steps p.tables e below (s₁.setTop (mkF m 61 (LS_RR r0 r1) [(.int (4 : Int32)), (.ref r1), (.long x4)])) _
        refine X0.laload hx (j := (4 : Int32)) (v := (.long (16551456537884751 : Int64))) (by rw [e0]; exact Ar13.1) (State.isArrayOf_alike hZ.alike Ar13.2.1) Ar13.2.2 hin14 hat14 (g := (mkF m 61 (LS_RR r0 r1) [(.int (4 : Int32)), (.ref r1), (.long x4)])) rfl rfl (hb hby d3_61) _ ?_
        show Steps p.tables e below (s₁.setTop (mkF m 62 (LS_RR r0 r1) [(.long (16551456537884751 : Int64)), (.long x4)])) _
        refine XS.lcmp X0.here hx rfl (hb hby d3_62) rfl ?_
        exact k
      by_cases hc63_15 : x4 = (16551456537884751 : Int64)
      · obtain ⟨cl16, Ar16, qa16, Sa16, Na16, Ha16, Ga16⟩ := id Vq1
        have hin17 : ¬ ((3 : Int32) < 0 ∨ cl16.slots.size ≤ ((3 : Int32)).toNatClampNeg) := inb_of Sa16 ⟨by decide, by decide⟩
        have hat17 : cl16.slots[((3 : Int32)).toNatClampNeg]? = some (.long x3) := Has.at Ha16 hin17 rfl
        obtain ⟨cl18, Ar18, qa18, Sa18, Na18, Ha18, Ga18⟩ := id Vq2
        have hin19 : ¬ ((3 : Int32) < 0 ∨ cl18.slots.size ≤ ((3 : Int32)).toNatClampNeg) := inb_of Sa18 ⟨by decide, by decide⟩
        have hat19 : cl18.slots[((3 : Int32)).toNatClampNeg]? = some (.long (7925923977987733 : Int64)) := Has.at Ha18 hin19 rfl
        refine own_go (B := s₁.setTop (mkF m 89 (LS_RR r0 r1) [(.int (lcmpW x3 (7925923977987733 : Int64)))])) (fun t k => ?_) ?_
        · show Steps p.tables e below (s₁.setTop (mkF m 63 (LS_RR r0 r1) [(.int (lcmpW x4 (16551456537884751 : Int64)))])) _
          refine XS.ifYes X0.here hx rfl (pc0 := 63) (pc' := 82) rfl (hb hby d3_63) rfl ((if0 _ _).trans (teq ((lw_eq x4 (16551456537884751 : Int64)).mpr hc63_15)).1) (by decide) (by decide) ?_
          show Steps p.tables e below (s₁.setTop (mkF m 82 (LS_RR r0 r1) [])) _
          refine XS.aloadN X0.here hx rfl (hb hby d3_82) rfl rfl ?_
          show Steps p.tables e below (s₁.setTop (mkF m 83 (LS_RR r0 r1) [(.ref r0)])) _
          refine XS.iconst X0.here hx rfl (hb hby d3_83) ?_
          show Steps p.tables e below (s₁.setTop (mkF m 84 (LS_RR r0 r1) [(.int (3 : Int32)), (.ref r0)])) _
          refine X0.laload hx (j := (3 : Int32)) (v := (.long x3)) (by rw [e0]; exact Ar16.1) (State.isArrayOf_alike hZ.alike Ar16.2.1) Ar16.2.2 hin17 hat17 (g := (mkF m 84 (LS_RR r0 r1) [(.int (3 : Int32)), (.ref r0)])) rfl rfl (hb hby d3_84) _ ?_
          show Steps p.tables e below (s₁.setTop (mkF m 85 (LS_RR r0 r1) [(.long x3)])) _
          refine XS.aloadN X0.here hx rfl (hb hby d3_85) rfl rfl ?_
          show Steps p.tables e below (s₁.setTop (mkF m 86 (LS_RR r0 r1) [(.ref r1), (.long x3)])) _
          refine XS.iconst X0.here hx rfl (hb hby d3_86) ?_
          show Steps p.tables e below (s₁.setTop (mkF m 87 (LS_RR r0 r1) [(.int (3 : Int32)), (.ref r1), (.long x3)])) _
          refine X0.laload hx (j := (3 : Int32)) (v := (.long (7925923977987733 : Int64))) (by rw [e0]; exact Ar18.1) (State.isArrayOf_alike hZ.alike Ar18.2.1) Ar18.2.2 hin19 hat19 (g := (mkF m 87 (LS_RR r0 r1) [(.int (3 : Int32)), (.ref r1), (.long x3)])) rfl rfl (hb hby d3_87) _ ?_
          show Steps p.tables e below (s₁.setTop (mkF m 88 (LS_RR r0 r1) [(.long (7925923977987733 : Int64)), (.long x3)])) _
          refine XS.lcmp X0.here hx rfl (hb hby d3_88) rfl ?_
          exact k
        by_cases hc89_20 : x3 = (7925923977987733 : Int64)
        · obtain ⟨cl21, Ar21, qa21, Sa21, Na21, Ha21, Ga21⟩ := id Vq1
          have hin22 : ¬ ((2 : Int32) < 0 ∨ cl21.slots.size ≤ ((2 : Int32)).toNatClampNeg) := inb_of Sa21 ⟨by decide, by decide⟩
          have hat22 : cl21.slots[((2 : Int32)).toNatClampNeg]? = some (.long x2) := Has.at Ha21 hin22 rfl
          obtain ⟨cl23, Ar23, qa23, Sa23, Na23, Ha23, Ga23⟩ := id Vq2
          have hin24 : ¬ ((2 : Int32) < 0 ∨ cl23.slots.size ≤ ((2 : Int32)).toNatClampNeg) := inb_of Sa23 ⟨by decide, by decide⟩
          have hat24 : cl23.slots[((2 : Int32)).toNatClampNeg]? = some (.long (1084959616957103 : Int64)) := Has.at Ha23 hin24 rfl
          refine own_go (B := s₁.setTop (mkF m 115 (LS_RR r0 r1) [(.int (lcmpW x2 (1084959616957103 : Int64)))])) (fun t k => ?_) ?_
          · show Steps p.tables e below (s₁.setTop (mkF m 89 (LS_RR r0 r1) [(.int (lcmpW x3 (7925923977987733 : Int64)))])) _
            refine XS.ifYes X0.here hx rfl (pc0 := 89) (pc' := 108) rfl (hb hby d3_89) rfl ((if0 _ _).trans (teq ((lw_eq x3 (7925923977987733 : Int64)).mpr hc89_20)).1) (by decide) (by decide) ?_
            show Steps p.tables e below (s₁.setTop (mkF m 108 (LS_RR r0 r1) [])) _
            refine XS.aloadN X0.here hx rfl (hb hby d3_108) rfl rfl ?_
            show Steps p.tables e below (s₁.setTop (mkF m 109 (LS_RR r0 r1) [(.ref r0)])) _
            refine XS.iconst X0.here hx rfl (hb hby d3_109) ?_
            show Steps p.tables e below (s₁.setTop (mkF m 110 (LS_RR r0 r1) [(.int (2 : Int32)), (.ref r0)])) _
            refine X0.laload hx (j := (2 : Int32)) (v := (.long x2)) (by rw [e0]; exact Ar21.1) (State.isArrayOf_alike hZ.alike Ar21.2.1) Ar21.2.2 hin22 hat22 (g := (mkF m 110 (LS_RR r0 r1) [(.int (2 : Int32)), (.ref r0)])) rfl rfl (hb hby d3_110) _ ?_
            show Steps p.tables e below (s₁.setTop (mkF m 111 (LS_RR r0 r1) [(.long x2)])) _
            refine XS.aloadN X0.here hx rfl (hb hby d3_111) rfl rfl ?_
            show Steps p.tables e below (s₁.setTop (mkF m 112 (LS_RR r0 r1) [(.ref r1), (.long x2)])) _
            refine XS.iconst X0.here hx rfl (hb hby d3_112) ?_
            show Steps p.tables e below (s₁.setTop (mkF m 113 (LS_RR r0 r1) [(.int (2 : Int32)), (.ref r1), (.long x2)])) _
            refine X0.laload hx (j := (2 : Int32)) (v := (.long (1084959616957103 : Int64))) (by rw [e0]; exact Ar23.1) (State.isArrayOf_alike hZ.alike Ar23.2.1) Ar23.2.2 hin24 hat24 (g := (mkF m 113 (LS_RR r0 r1) [(.int (2 : Int32)), (.ref r1), (.long x2)])) rfl rfl (hb hby d3_113) _ ?_
            show Steps p.tables e below (s₁.setTop (mkF m 114 (LS_RR r0 r1) [(.long (1084959616957103 : Int64)), (.long x2)])) _
            refine XS.lcmp X0.here hx rfl (hb hby d3_114) rfl ?_
            exact k
          by_cases hc115_25 : x2 = (1084959616957103 : Int64)
          · obtain ⟨cl26, Ar26, qa26, Sa26, Na26, Ha26, Ga26⟩ := id Vq1
            have hin27 : ¬ ((1 : Int32) < 0 ∨ cl26.slots.size ≤ ((1 : Int32)).toNatClampNeg) := inb_of Sa26 ⟨by decide, by decide⟩
            have hat27 : cl26.slots[((1 : Int32)).toNatClampNeg]? = some (.long x1) := Has.at Ha26 hin27 rfl
            obtain ⟨cl28, Ar28, qa28, Sa28, Na28, Ha28, Ga28⟩ := id Vq2
            have hin29 : ¬ ((1 : Int32) < 0 ∨ cl28.slots.size ≤ ((1 : Int32)).toNatClampNeg) := inb_of Sa28 ⟨by decide, by decide⟩
            have hat29 : cl28.slots[((1 : Int32)).toNatClampNeg]? = some (.long (36025922209447795 : Int64)) := Has.at Ha28 hin29 rfl
            refine own_go (B := s₁.setTop (mkF m 141 (LS_RR r0 r1) [(.int (lcmpW x1 (36025922209447795 : Int64)))])) (fun t k => ?_) ?_
            · show Steps p.tables e below (s₁.setTop (mkF m 115 (LS_RR r0 r1) [(.int (lcmpW x2 (1084959616957103 : Int64)))])) _
              refine XS.ifYes X0.here hx rfl (pc0 := 115) (pc' := 134) rfl (hb hby d3_115) rfl ((if0 _ _).trans (teq ((lw_eq x2 (1084959616957103 : Int64)).mpr hc115_25)).1) (by decide) (by decide) ?_
              show Steps p.tables e below (s₁.setTop (mkF m 134 (LS_RR r0 r1) [])) _
              refine XS.aloadN X0.here hx rfl (hb hby d3_134) rfl rfl ?_
              show Steps p.tables e below (s₁.setTop (mkF m 135 (LS_RR r0 r1) [(.ref r0)])) _
              refine XS.iconst X0.here hx rfl (hb hby d3_135) ?_
              show Steps p.tables e below (s₁.setTop (mkF m 136 (LS_RR r0 r1) [(.int (1 : Int32)), (.ref r0)])) _
              refine X0.laload hx (j := (1 : Int32)) (v := (.long x1)) (by rw [e0]; exact Ar26.1) (State.isArrayOf_alike hZ.alike Ar26.2.1) Ar26.2.2 hin27 hat27 (g := (mkF m 136 (LS_RR r0 r1) [(.int (1 : Int32)), (.ref r0)])) rfl rfl (hb hby d3_136) _ ?_
              show Steps p.tables e below (s₁.setTop (mkF m 137 (LS_RR r0 r1) [(.long x1)])) _
              refine XS.aloadN X0.here hx rfl (hb hby d3_137) rfl rfl ?_
              show Steps p.tables e below (s₁.setTop (mkF m 138 (LS_RR r0 r1) [(.ref r1), (.long x1)])) _
              refine XS.iconst X0.here hx rfl (hb hby d3_138) ?_
              show Steps p.tables e below (s₁.setTop (mkF m 139 (LS_RR r0 r1) [(.int (1 : Int32)), (.ref r1), (.long x1)])) _
              refine X0.laload hx (j := (1 : Int32)) (v := (.long (36025922209447795 : Int64))) (by rw [e0]; exact Ar28.1) (State.isArrayOf_alike hZ.alike Ar28.2.1) Ar28.2.2 hin29 hat29 (g := (mkF m 139 (LS_RR r0 r1) [(.int (1 : Int32)), (.ref r1), (.long x1)])) rfl rfl (hb hby d3_139) _ ?_
              show Steps p.tables e below (s₁.setTop (mkF m 140 (LS_RR r0 r1) [(.long (36025922209447795 : Int64)), (.long x1)])) _
              refine XS.lcmp X0.here hx rfl (hb hby d3_140) rfl ?_
              exact k
            by_cases hc141_30 : x1 = (36025922209447795 : Int64)
            · obtain ⟨cl31, Ar31, qa31, Sa31, Na31, Ha31, Ga31⟩ := id Vq1
              have hin32 : ¬ ((0 : Int32) < 0 ∨ cl31.slots.size ≤ ((0 : Int32)).toNatClampNeg) := inb_of Sa31 ⟨by decide, by decide⟩
              have hat32 : cl31.slots[((0 : Int32)).toNatClampNeg]? = some (.long x0) := Has.at Ha31 hin32 rfl
              obtain ⟨cl33, Ar33, qa33, Sa33, Na33, Ha33, Ga33⟩ := id Vq2
              have hin34 : ¬ ((0 : Int32) < 0 ∨ cl33.slots.size ≤ ((0 : Int32)).toNatClampNeg) := inb_of Sa33 ⟨by decide, by decide⟩
              have hat34 : cl33.slots[((0 : Int32)).toNatClampNeg]? = some (.long (35747322042231467 : Int64)) := Has.at Ha33 hin34 rfl
              refine own_go (B := s₁.setTop (mkF m 167 (LS_RR r0 r1) [(.int (lcmpW x0 (35747322042231467 : Int64)))])) (fun t k => ?_) ?_
              · show Steps p.tables e below (s₁.setTop (mkF m 141 (LS_RR r0 r1) [(.int (lcmpW x1 (36025922209447795 : Int64)))])) _
                refine XS.ifYes X0.here hx rfl (pc0 := 141) (pc' := 160) rfl (hb hby d3_141) rfl ((if0 _ _).trans (teq ((lw_eq x1 (36025922209447795 : Int64)).mpr hc141_30)).1) (by decide) (by decide) ?_
                show Steps p.tables e below (s₁.setTop (mkF m 160 (LS_RR r0 r1) [])) _
                refine XS.aloadN X0.here hx rfl (hb hby d3_160) rfl rfl ?_
                show Steps p.tables e below (s₁.setTop (mkF m 161 (LS_RR r0 r1) [(.ref r0)])) _
                refine XS.iconst X0.here hx rfl (hb hby d3_161) ?_
                show Steps p.tables e below (s₁.setTop (mkF m 162 (LS_RR r0 r1) [(.int (0 : Int32)), (.ref r0)])) _
                refine X0.laload hx (j := (0 : Int32)) (v := (.long x0)) (by rw [e0]; exact Ar31.1) (State.isArrayOf_alike hZ.alike Ar31.2.1) Ar31.2.2 hin32 hat32 (g := (mkF m 162 (LS_RR r0 r1) [(.int (0 : Int32)), (.ref r0)])) rfl rfl (hb hby d3_162) _ ?_
                show Steps p.tables e below (s₁.setTop (mkF m 163 (LS_RR r0 r1) [(.long x0)])) _
                refine XS.aloadN X0.here hx rfl (hb hby d3_163) rfl rfl ?_
                show Steps p.tables e below (s₁.setTop (mkF m 164 (LS_RR r0 r1) [(.ref r1), (.long x0)])) _
                refine XS.iconst X0.here hx rfl (hb hby d3_164) ?_
                show Steps p.tables e below (s₁.setTop (mkF m 165 (LS_RR r0 r1) [(.int (0 : Int32)), (.ref r1), (.long x0)])) _
                refine X0.laload hx (j := (0 : Int32)) (v := (.long (35747322042231467 : Int64))) (by rw [e0]; exact Ar33.1) (State.isArrayOf_alike hZ.alike Ar33.2.1) Ar33.2.2 hin34 hat34 (g := (mkF m 165 (LS_RR r0 r1) [(.int (0 : Int32)), (.ref r1), (.long x0)])) rfl rfl (hb hby d3_165) _ ?_
                show Steps p.tables e below (s₁.setTop (mkF m 166 (LS_RR r0 r1) [(.long (35747322042231467 : Int64)), (.long x0)])) _
                refine XS.lcmp X0.here hx rfl (hb hby d3_166) rfl ?_
                exact k
              by_cases hc167_35 : x0 = (35747322042231467 : Int64)
              · refine own_go (B := s₁.setTop (mkF m 187 (LS_RR r0 r1) [(.int (0 : Int32))])) (fun t k => ?_) ?_
                · show Steps p.tables e below (s₁.setTop (mkF m 167 (LS_RR r0 r1) [(.int (lcmpW x0 (35747322042231467 : Int64)))])) _
                  refine XS.ifYes X0.here hx rfl (pc0 := 167) (pc' := 186) rfl (hb hby d3_167) rfl ((if0 _ _).trans (teq ((lw_eq x0 (35747322042231467 : Int64)).mpr hc167_35)).1) (by decide) (by decide) ?_
                  show Steps p.tables e below (s₁.setTop (mkF m 186 (LS_RR r0 r1) [])) _
                  refine XS.iconst X0.here hx rfl (hb hby d3_186) ?_
                  exact k
                obtain ⟨fs, hr, hrun, hended, hW, hsame⟩ := X0.leave (v := some (.int (0 : Int32))) (fun h => by rw [Bd.returns] at h; cases h)
                refine ⟨_, _, ?_, hrun, hended, _, _, rfl, ?_, ⟨_, rfl⟩, hW, hsame.mono (by decide) (by decide)⟩
                · show Steps p.tables e below (s₁.setTop (mkF m 187 (LS_RR r0 r1) [(.int (0 : Int32))])) _
                  exact retN X0 hx (t := .boolean) Bd.returns (by simp) (hb hby d3_187) hr
                · show Q3 Z r0 r1 kq1 kq2 x0 x1 x2 x3 x4 x5 x6 h0 n0 _ s₁.heap _
                  rw [e0]
                  exact ⟨_, rfl, N0, rfl, Or.inl rfl⟩
              · obtain ⟨cl36, Ar36, qa36, Sa36, Na36, Ha36, Ga36⟩ := id Vq1
                have hin37 : ¬ ((0 : Int32) < 0 ∨ cl36.slots.size ≤ ((0 : Int32)).toNatClampNeg) := inb_of Sa36 ⟨by decide, by decide⟩
                have hat37 : cl36.slots[((0 : Int32)).toNatClampNeg]? = some (.long x0) := Has.at Ha36 hin37 rfl
                obtain ⟨cl38, Ar38, qa38, Sa38, Na38, Ha38, Ga38⟩ := id Vq2
                have hin39 : ¬ ((0 : Int32) < 0 ∨ cl38.slots.size ≤ ((0 : Int32)).toNatClampNeg) := inb_of Sa38 ⟨by decide, by decide⟩
                have hat39 : cl38.slots[((0 : Int32)).toNatClampNeg]? = some (.long (35747322042231467 : Int64)) := Has.at Ha38 hin39 rfl
                refine own_go (B := s₁.setTop (mkF m 177 (LS_RR r0 r1) [(.int (lcmpW x0 (35747322042231467 : Int64)))])) (fun t k => ?_) ?_
                · show Steps p.tables e below (s₁.setTop (mkF m 167 (LS_RR r0 r1) [(.int (lcmpW x0 (35747322042231467 : Int64)))])) _
                  refine XS.ifNo X0.here hx rfl (hb hby d3_167) rfl ((if0 _ _).trans (feq (fun q => hc167_35 ((lw_eq x0 (35747322042231467 : Int64)).mp q))).1) ?_
                  show Steps p.tables e below (s₁.setTop (mkF m 170 (LS_RR r0 r1) [])) _
                  refine XS.aloadN X0.here hx rfl (hb hby d3_170) rfl rfl ?_
                  show Steps p.tables e below (s₁.setTop (mkF m 171 (LS_RR r0 r1) [(.ref r0)])) _
                  refine XS.iconst X0.here hx rfl (hb hby d3_171) ?_
                  show Steps p.tables e below (s₁.setTop (mkF m 172 (LS_RR r0 r1) [(.int (0 : Int32)), (.ref r0)])) _
                  refine X0.laload hx (j := (0 : Int32)) (v := (.long x0)) (by rw [e0]; exact Ar36.1) (State.isArrayOf_alike hZ.alike Ar36.2.1) Ar36.2.2 hin37 hat37 (g := (mkF m 172 (LS_RR r0 r1) [(.int (0 : Int32)), (.ref r0)])) rfl rfl (hb hby d3_172) _ ?_
                  show Steps p.tables e below (s₁.setTop (mkF m 173 (LS_RR r0 r1) [(.long x0)])) _
                  refine XS.aloadN X0.here hx rfl (hb hby d3_173) rfl rfl ?_
                  show Steps p.tables e below (s₁.setTop (mkF m 174 (LS_RR r0 r1) [(.ref r1), (.long x0)])) _
                  refine XS.iconst X0.here hx rfl (hb hby d3_174) ?_
                  show Steps p.tables e below (s₁.setTop (mkF m 175 (LS_RR r0 r1) [(.int (0 : Int32)), (.ref r1), (.long x0)])) _
                  refine X0.laload hx (j := (0 : Int32)) (v := (.long (35747322042231467 : Int64))) (by rw [e0]; exact Ar38.1) (State.isArrayOf_alike hZ.alike Ar38.2.1) Ar38.2.2 hin39 hat39 (g := (mkF m 175 (LS_RR r0 r1) [(.int (0 : Int32)), (.ref r1), (.long x0)])) rfl rfl (hb hby d3_175) _ ?_
                  show Steps p.tables e below (s₁.setTop (mkF m 176 (LS_RR r0 r1) [(.long (35747322042231467 : Int64)), (.long x0)])) _
                  refine XS.lcmp X0.here hx rfl (hb hby d3_176) rfl ?_
                  exact k
                by_cases hc177_40 : x0 < (35747322042231467 : Int64)
                · refine own_go (B := s₁.setTop (mkF m 185 (LS_RR r0 r1) [(.int (1 : Int32))])) (fun t k => ?_) ?_
                  · show Steps p.tables e below (s₁.setTop (mkF m 177 (LS_RR r0 r1) [(.int (lcmpW x0 (35747322042231467 : Int64)))])) _
                    refine XS.ifNo X0.here hx rfl (hb hby d3_177) rfl ((if0 _ _).trans (tlt ((lw_lt x0 (35747322042231467 : Int64)).mpr hc177_40)).2.1) ?_
                    show Steps p.tables e below (s₁.setTop (mkF m 180 (LS_RR r0 r1) [])) _
                    refine XS.iconst X0.here hx rfl (hb hby d3_180) ?_
                    show Steps p.tables e below (s₁.setTop (mkF m 181 (LS_RR r0 r1) [(.int (1 : Int32))])) _
                    refine XS.goto X0.here hx rfl (pc0 := 181) (pc' := 185) rfl (hb hby d3_181) (by decide) (by decide) ?_
                    exact k
                  obtain ⟨fs, hr, hrun, hended, hW, hsame⟩ := X0.leave (v := some (.int (1 : Int32))) (fun h => by rw [Bd.returns] at h; cases h)
                  refine ⟨_, _, ?_, hrun, hended, _, _, rfl, ?_, ⟨_, rfl⟩, hW, hsame.mono (by decide) (by decide)⟩
                  · show Steps p.tables e below (s₁.setTop (mkF m 185 (LS_RR r0 r1) [(.int (1 : Int32))])) _
                    exact retN X0 hx (t := .boolean) Bd.returns (by simp) (hb hby d3_185) hr
                  · show Q3 Z r0 r1 kq1 kq2 x0 x1 x2 x3 x4 x5 x6 h0 n0 _ s₁.heap _
                    rw [e0]
                    have t6 : x6.toInt = 1829881462546425 := by rw [hc9_5]; rfl
                    have t5 : x5.toInt = 23443114579904617 := by rw [hc37_10]; rfl
                    have t4 : x4.toInt = 16551456537884751 := by rw [hc63_15]; rfl
                    have t3 : x3.toInt = 7925923977987733 := by rw [hc89_20]; rfl
                    have t2 : x2.toInt = 1084959616957103 := by rw [hc115_25]; rfl
                    have t1 : x1.toInt = 36025922209447795 := by rw [hc141_30]; rfl
                    have t0 : x0.toInt < 35747322042231467 := by
                      have u := Int64.lt_iff_toInt_lt.mp hc177_40
                      exact u
                    refine ⟨_, rfl, N0, rfl, Or.inr ⟨rfl, ?_⟩⟩
                    clear hw
                    omega
                · refine own_go (B := s₁.setTop (mkF m 185 (LS_RR r0 r1) [(.int (0 : Int32))])) (fun t k => ?_) ?_
                  · show Steps p.tables e below (s₁.setTop (mkF m 177 (LS_RR r0 r1) [(.int (lcmpW x0 (35747322042231467 : Int64)))])) _
                    refine XS.ifYes X0.here hx rfl (pc0 := 177) (pc' := 184) rfl (hb hby d3_177) rfl ((if0 _ _).trans (flt (fun q => hc177_40 ((lw_lt x0 (35747322042231467 : Int64)).mp q))).2.1) (by decide) (by decide) ?_
                    show Steps p.tables e below (s₁.setTop (mkF m 184 (LS_RR r0 r1) [])) _
                    refine XS.iconst X0.here hx rfl (hb hby d3_184) ?_
                    exact k
                  obtain ⟨fs, hr, hrun, hended, hW, hsame⟩ := X0.leave (v := some (.int (0 : Int32))) (fun h => by rw [Bd.returns] at h; cases h)
                  refine ⟨_, _, ?_, hrun, hended, _, _, rfl, ?_, ⟨_, rfl⟩, hW, hsame.mono (by decide) (by decide)⟩
                  · show Steps p.tables e below (s₁.setTop (mkF m 185 (LS_RR r0 r1) [(.int (0 : Int32))])) _
                    exact retN X0 hx (t := .boolean) Bd.returns (by simp) (hb hby d3_185) hr
                  · show Q3 Z r0 r1 kq1 kq2 x0 x1 x2 x3 x4 x5 x6 h0 n0 _ s₁.heap _
                    rw [e0]
                    exact ⟨_, rfl, N0, rfl, Or.inl rfl⟩
            · obtain ⟨cl41, Ar41, qa41, Sa41, Na41, Ha41, Ga41⟩ := id Vq1
              have hin42 : ¬ ((1 : Int32) < 0 ∨ cl41.slots.size ≤ ((1 : Int32)).toNatClampNeg) := inb_of Sa41 ⟨by decide, by decide⟩
              have hat42 : cl41.slots[((1 : Int32)).toNatClampNeg]? = some (.long x1) := Has.at Ha41 hin42 rfl
              obtain ⟨cl43, Ar43, qa43, Sa43, Na43, Ha43, Ga43⟩ := id Vq2
              have hin44 : ¬ ((1 : Int32) < 0 ∨ cl43.slots.size ≤ ((1 : Int32)).toNatClampNeg) := inb_of Sa43 ⟨by decide, by decide⟩
              have hat44 : cl43.slots[((1 : Int32)).toNatClampNeg]? = some (.long (36025922209447795 : Int64)) := Has.at Ha43 hin44 rfl
              refine own_go (B := s₁.setTop (mkF m 151 (LS_RR r0 r1) [(.int (lcmpW x1 (36025922209447795 : Int64)))])) (fun t k => ?_) ?_
              · show Steps p.tables e below (s₁.setTop (mkF m 141 (LS_RR r0 r1) [(.int (lcmpW x1 (36025922209447795 : Int64)))])) _
                refine XS.ifNo X0.here hx rfl (hb hby d3_141) rfl ((if0 _ _).trans (feq (fun q => hc141_30 ((lw_eq x1 (36025922209447795 : Int64)).mp q))).1) ?_
                show Steps p.tables e below (s₁.setTop (mkF m 144 (LS_RR r0 r1) [])) _
                refine XS.aloadN X0.here hx rfl (hb hby d3_144) rfl rfl ?_
                show Steps p.tables e below (s₁.setTop (mkF m 145 (LS_RR r0 r1) [(.ref r0)])) _
                refine XS.iconst X0.here hx rfl (hb hby d3_145) ?_
                show Steps p.tables e below (s₁.setTop (mkF m 146 (LS_RR r0 r1) [(.int (1 : Int32)), (.ref r0)])) _
                refine X0.laload hx (j := (1 : Int32)) (v := (.long x1)) (by rw [e0]; exact Ar41.1) (State.isArrayOf_alike hZ.alike Ar41.2.1) Ar41.2.2 hin42 hat42 (g := (mkF m 146 (LS_RR r0 r1) [(.int (1 : Int32)), (.ref r0)])) rfl rfl (hb hby d3_146) _ ?_
                show Steps p.tables e below (s₁.setTop (mkF m 147 (LS_RR r0 r1) [(.long x1)])) _
                refine XS.aloadN X0.here hx rfl (hb hby d3_147) rfl rfl ?_
                show Steps p.tables e below (s₁.setTop (mkF m 148 (LS_RR r0 r1) [(.ref r1), (.long x1)])) _
                refine XS.iconst X0.here hx rfl (hb hby d3_148) ?_
                show Steps p.tables e below (s₁.setTop (mkF m 149 (LS_RR r0 r1) [(.int (1 : Int32)), (.ref r1), (.long x1)])) _
                refine X0.laload hx (j := (1 : Int32)) (v := (.long (36025922209447795 : Int64))) (by rw [e0]; exact Ar43.1) (State.isArrayOf_alike hZ.alike Ar43.2.1) Ar43.2.2 hin44 hat44 (g := (mkF m 149 (LS_RR r0 r1) [(.int (1 : Int32)), (.ref r1), (.long x1)])) rfl rfl (hb hby d3_149) _ ?_
                show Steps p.tables e below (s₁.setTop (mkF m 150 (LS_RR r0 r1) [(.long (36025922209447795 : Int64)), (.long x1)])) _
                refine XS.lcmp X0.here hx rfl (hb hby d3_150) rfl ?_
                exact k
              by_cases hc151_45 : x1 < (36025922209447795 : Int64)
              · refine own_go (B := s₁.setTop (mkF m 159 (LS_RR r0 r1) [(.int (1 : Int32))])) (fun t k => ?_) ?_
                · show Steps p.tables e below (s₁.setTop (mkF m 151 (LS_RR r0 r1) [(.int (lcmpW x1 (36025922209447795 : Int64)))])) _
                  refine XS.ifNo X0.here hx rfl (hb hby d3_151) rfl ((if0 _ _).trans (tlt ((lw_lt x1 (36025922209447795 : Int64)).mpr hc151_45)).2.1) ?_
                  show Steps p.tables e below (s₁.setTop (mkF m 154 (LS_RR r0 r1) [])) _
                  refine XS.iconst X0.here hx rfl (hb hby d3_154) ?_
                  show Steps p.tables e below (s₁.setTop (mkF m 155 (LS_RR r0 r1) [(.int (1 : Int32))])) _
                  refine XS.goto X0.here hx rfl (pc0 := 155) (pc' := 159) rfl (hb hby d3_155) (by decide) (by decide) ?_
                  exact k
                obtain ⟨fs, hr, hrun, hended, hW, hsame⟩ := X0.leave (v := some (.int (1 : Int32))) (fun h => by rw [Bd.returns] at h; cases h)
                refine ⟨_, _, ?_, hrun, hended, _, _, rfl, ?_, ⟨_, rfl⟩, hW, hsame.mono (by decide) (by decide)⟩
                · show Steps p.tables e below (s₁.setTop (mkF m 159 (LS_RR r0 r1) [(.int (1 : Int32))])) _
                  exact retN X0 hx (t := .boolean) Bd.returns (by simp) (hb hby d3_159) hr
                · show Q3 Z r0 r1 kq1 kq2 x0 x1 x2 x3 x4 x5 x6 h0 n0 _ s₁.heap _
                  rw [e0]
                  have t6 : x6.toInt = 1829881462546425 := by rw [hc9_5]; rfl
                  have t5 : x5.toInt = 23443114579904617 := by rw [hc37_10]; rfl
                  have t4 : x4.toInt = 16551456537884751 := by rw [hc63_15]; rfl
                  have t3 : x3.toInt = 7925923977987733 := by rw [hc89_20]; rfl
                  have t2 : x2.toInt = 1084959616957103 := by rw [hc115_25]; rfl
                  have t1 : x1.toInt < 36025922209447795 := by
                    have u := Int64.lt_iff_toInt_lt.mp hc151_45
                    exact u
                  refine ⟨_, rfl, N0, rfl, Or.inr ⟨rfl, ?_⟩⟩
                  clear hw
                  omega
              · refine own_go (B := s₁.setTop (mkF m 159 (LS_RR r0 r1) [(.int (0 : Int32))])) (fun t k => ?_) ?_
                · show Steps p.tables e below (s₁.setTop (mkF m 151 (LS_RR r0 r1) [(.int (lcmpW x1 (36025922209447795 : Int64)))])) _
                  refine XS.ifYes X0.here hx rfl (pc0 := 151) (pc' := 158) rfl (hb hby d3_151) rfl ((if0 _ _).trans (flt (fun q => hc151_45 ((lw_lt x1 (36025922209447795 : Int64)).mp q))).2.1) (by decide) (by decide) ?_
                  show Steps p.tables e below (s₁.setTop (mkF m 158 (LS_RR r0 r1) [])) _
                  refine XS.iconst X0.here hx rfl (hb hby d3_158) ?_
                  exact k
                obtain ⟨fs, hr, hrun, hended, hW, hsame⟩ := X0.leave (v := some (.int (0 : Int32))) (fun h => by rw [Bd.returns] at h; cases h)
                refine ⟨_, _, ?_, hrun, hended, _, _, rfl, ?_, ⟨_, rfl⟩, hW, hsame.mono (by decide) (by decide)⟩
                · show Steps p.tables e below (s₁.setTop (mkF m 159 (LS_RR r0 r1) [(.int (0 : Int32))])) _
                  exact retN X0 hx (t := .boolean) Bd.returns (by simp) (hb hby d3_159) hr
                · show Q3 Z r0 r1 kq1 kq2 x0 x1 x2 x3 x4 x5 x6 h0 n0 _ s₁.heap _
                  rw [e0]
                  exact ⟨_, rfl, N0, rfl, Or.inl rfl⟩
          · obtain ⟨cl46, Ar46, qa46, Sa46, Na46, Ha46, Ga46⟩ := id Vq1
            have hin47 : ¬ ((2 : Int32) < 0 ∨ cl46.slots.size ≤ ((2 : Int32)).toNatClampNeg) := inb_of Sa46 ⟨by decide, by decide⟩
            have hat47 : cl46.slots[((2 : Int32)).toNatClampNeg]? = some (.long x2) := Has.at Ha46 hin47 rfl
            obtain ⟨cl48, Ar48, qa48, Sa48, Na48, Ha48, Ga48⟩ := id Vq2
            have hin49 : ¬ ((2 : Int32) < 0 ∨ cl48.slots.size ≤ ((2 : Int32)).toNatClampNeg) := inb_of Sa48 ⟨by decide, by decide⟩
            have hat49 : cl48.slots[((2 : Int32)).toNatClampNeg]? = some (.long (1084959616957103 : Int64)) := Has.at Ha48 hin49 rfl
            refine own_go (B := s₁.setTop (mkF m 125 (LS_RR r0 r1) [(.int (lcmpW x2 (1084959616957103 : Int64)))])) (fun t k => ?_) ?_
            · show Steps p.tables e below (s₁.setTop (mkF m 115 (LS_RR r0 r1) [(.int (lcmpW x2 (1084959616957103 : Int64)))])) _
              refine XS.ifNo X0.here hx rfl (hb hby d3_115) rfl ((if0 _ _).trans (feq (fun q => hc115_25 ((lw_eq x2 (1084959616957103 : Int64)).mp q))).1) ?_
              show Steps p.tables e below (s₁.setTop (mkF m 118 (LS_RR r0 r1) [])) _
              refine XS.aloadN X0.here hx rfl (hb hby d3_118) rfl rfl ?_
              show Steps p.tables e below (s₁.setTop (mkF m 119 (LS_RR r0 r1) [(.ref r0)])) _
              refine XS.iconst X0.here hx rfl (hb hby d3_119) ?_
              show Steps p.tables e below (s₁.setTop (mkF m 120 (LS_RR r0 r1) [(.int (2 : Int32)), (.ref r0)])) _
              refine X0.laload hx (j := (2 : Int32)) (v := (.long x2)) (by rw [e0]; exact Ar46.1) (State.isArrayOf_alike hZ.alike Ar46.2.1) Ar46.2.2 hin47 hat47 (g := (mkF m 120 (LS_RR r0 r1) [(.int (2 : Int32)), (.ref r0)])) rfl rfl (hb hby d3_120) _ ?_
              show Steps p.tables e below (s₁.setTop (mkF m 121 (LS_RR r0 r1) [(.long x2)])) _
              refine XS.aloadN X0.here hx rfl (hb hby d3_121) rfl rfl ?_
              show Steps p.tables e below (s₁.setTop (mkF m 122 (LS_RR r0 r1) [(.ref r1), (.long x2)])) _
              refine XS.iconst X0.here hx rfl (hb hby d3_122) ?_
              show Steps p.tables e below (s₁.setTop (mkF m 123 (LS_RR r0 r1) [(.int (2 : Int32)), (.ref r1), (.long x2)])) _
              refine X0.laload hx (j := (2 : Int32)) (v := (.long (1084959616957103 : Int64))) (by rw [e0]; exact Ar48.1) (State.isArrayOf_alike hZ.alike Ar48.2.1) Ar48.2.2 hin49 hat49 (g := (mkF m 123 (LS_RR r0 r1) [(.int (2 : Int32)), (.ref r1), (.long x2)])) rfl rfl (hb hby d3_123) _ ?_
              show Steps p.tables e below (s₁.setTop (mkF m 124 (LS_RR r0 r1) [(.long (1084959616957103 : Int64)), (.long x2)])) _
              refine XS.lcmp X0.here hx rfl (hb hby d3_124) rfl ?_
              exact k
            by_cases hc125_50 : x2 < (1084959616957103 : Int64)
            · refine own_go (B := s₁.setTop (mkF m 133 (LS_RR r0 r1) [(.int (1 : Int32))])) (fun t k => ?_) ?_
              · show Steps p.tables e below (s₁.setTop (mkF m 125 (LS_RR r0 r1) [(.int (lcmpW x2 (1084959616957103 : Int64)))])) _
                refine XS.ifNo X0.here hx rfl (hb hby d3_125) rfl ((if0 _ _).trans (tlt ((lw_lt x2 (1084959616957103 : Int64)).mpr hc125_50)).2.1) ?_
                show Steps p.tables e below (s₁.setTop (mkF m 128 (LS_RR r0 r1) [])) _
                refine XS.iconst X0.here hx rfl (hb hby d3_128) ?_
                show Steps p.tables e below (s₁.setTop (mkF m 129 (LS_RR r0 r1) [(.int (1 : Int32))])) _
                refine XS.goto X0.here hx rfl (pc0 := 129) (pc' := 133) rfl (hb hby d3_129) (by decide) (by decide) ?_
                exact k
              obtain ⟨fs, hr, hrun, hended, hW, hsame⟩ := X0.leave (v := some (.int (1 : Int32))) (fun h => by rw [Bd.returns] at h; cases h)
              refine ⟨_, _, ?_, hrun, hended, _, _, rfl, ?_, ⟨_, rfl⟩, hW, hsame.mono (by decide) (by decide)⟩
              · show Steps p.tables e below (s₁.setTop (mkF m 133 (LS_RR r0 r1) [(.int (1 : Int32))])) _
                exact retN X0 hx (t := .boolean) Bd.returns (by simp) (hb hby d3_133) hr
              · show Q3 Z r0 r1 kq1 kq2 x0 x1 x2 x3 x4 x5 x6 h0 n0 _ s₁.heap _
                rw [e0]
                have t6 : x6.toInt = 1829881462546425 := by rw [hc9_5]; rfl
                have t5 : x5.toInt = 23443114579904617 := by rw [hc37_10]; rfl
                have t4 : x4.toInt = 16551456537884751 := by rw [hc63_15]; rfl
                have t3 : x3.toInt = 7925923977987733 := by rw [hc89_20]; rfl
                have t2 : x2.toInt < 1084959616957103 := by
                  have u := Int64.lt_iff_toInt_lt.mp hc125_50
                  exact u
                refine ⟨_, rfl, N0, rfl, Or.inr ⟨rfl, ?_⟩⟩
                clear hw
                omega
            · refine own_go (B := s₁.setTop (mkF m 133 (LS_RR r0 r1) [(.int (0 : Int32))])) (fun t k => ?_) ?_
              · show Steps p.tables e below (s₁.setTop (mkF m 125 (LS_RR r0 r1) [(.int (lcmpW x2 (1084959616957103 : Int64)))])) _
                refine XS.ifYes X0.here hx rfl (pc0 := 125) (pc' := 132) rfl (hb hby d3_125) rfl ((if0 _ _).trans (flt (fun q => hc125_50 ((lw_lt x2 (1084959616957103 : Int64)).mp q))).2.1) (by decide) (by decide) ?_
                show Steps p.tables e below (s₁.setTop (mkF m 132 (LS_RR r0 r1) [])) _
                refine XS.iconst X0.here hx rfl (hb hby d3_132) ?_
                exact k
              obtain ⟨fs, hr, hrun, hended, hW, hsame⟩ := X0.leave (v := some (.int (0 : Int32))) (fun h => by rw [Bd.returns] at h; cases h)
              refine ⟨_, _, ?_, hrun, hended, _, _, rfl, ?_, ⟨_, rfl⟩, hW, hsame.mono (by decide) (by decide)⟩
              · show Steps p.tables e below (s₁.setTop (mkF m 133 (LS_RR r0 r1) [(.int (0 : Int32))])) _
                exact retN X0 hx (t := .boolean) Bd.returns (by simp) (hb hby d3_133) hr
              · show Q3 Z r0 r1 kq1 kq2 x0 x1 x2 x3 x4 x5 x6 h0 n0 _ s₁.heap _
                rw [e0]
                exact ⟨_, rfl, N0, rfl, Or.inl rfl⟩
        · obtain ⟨cl51, Ar51, qa51, Sa51, Na51, Ha51, Ga51⟩ := id Vq1
          have hin52 : ¬ ((3 : Int32) < 0 ∨ cl51.slots.size ≤ ((3 : Int32)).toNatClampNeg) := inb_of Sa51 ⟨by decide, by decide⟩
          have hat52 : cl51.slots[((3 : Int32)).toNatClampNeg]? = some (.long x3) := Has.at Ha51 hin52 rfl
          obtain ⟨cl53, Ar53, qa53, Sa53, Na53, Ha53, Ga53⟩ := id Vq2
          have hin54 : ¬ ((3 : Int32) < 0 ∨ cl53.slots.size ≤ ((3 : Int32)).toNatClampNeg) := inb_of Sa53 ⟨by decide, by decide⟩
          have hat54 : cl53.slots[((3 : Int32)).toNatClampNeg]? = some (.long (7925923977987733 : Int64)) := Has.at Ha53 hin54 rfl
          refine own_go (B := s₁.setTop (mkF m 99 (LS_RR r0 r1) [(.int (lcmpW x3 (7925923977987733 : Int64)))])) (fun t k => ?_) ?_
          · show Steps p.tables e below (s₁.setTop (mkF m 89 (LS_RR r0 r1) [(.int (lcmpW x3 (7925923977987733 : Int64)))])) _
            refine XS.ifNo X0.here hx rfl (hb hby d3_89) rfl ((if0 _ _).trans (feq (fun q => hc89_20 ((lw_eq x3 (7925923977987733 : Int64)).mp q))).1) ?_
            show Steps p.tables e below (s₁.setTop (mkF m 92 (LS_RR r0 r1) [])) _
            refine XS.aloadN X0.here hx rfl (hb hby d3_92) rfl rfl ?_
            show Steps p.tables e below (s₁.setTop (mkF m 93 (LS_RR r0 r1) [(.ref r0)])) _
            refine XS.iconst X0.here hx rfl (hb hby d3_93) ?_
            show Steps p.tables e below (s₁.setTop (mkF m 94 (LS_RR r0 r1) [(.int (3 : Int32)), (.ref r0)])) _
            refine X0.laload hx (j := (3 : Int32)) (v := (.long x3)) (by rw [e0]; exact Ar51.1) (State.isArrayOf_alike hZ.alike Ar51.2.1) Ar51.2.2 hin52 hat52 (g := (mkF m 94 (LS_RR r0 r1) [(.int (3 : Int32)), (.ref r0)])) rfl rfl (hb hby d3_94) _ ?_
            show Steps p.tables e below (s₁.setTop (mkF m 95 (LS_RR r0 r1) [(.long x3)])) _
            refine XS.aloadN X0.here hx rfl (hb hby d3_95) rfl rfl ?_
            show Steps p.tables e below (s₁.setTop (mkF m 96 (LS_RR r0 r1) [(.ref r1), (.long x3)])) _
            refine XS.iconst X0.here hx rfl (hb hby d3_96) ?_
            show Steps p.tables e below (s₁.setTop (mkF m 97 (LS_RR r0 r1) [(.int (3 : Int32)), (.ref r1), (.long x3)])) _
            refine X0.laload hx (j := (3 : Int32)) (v := (.long (7925923977987733 : Int64))) (by rw [e0]; exact Ar53.1) (State.isArrayOf_alike hZ.alike Ar53.2.1) Ar53.2.2 hin54 hat54 (g := (mkF m 97 (LS_RR r0 r1) [(.int (3 : Int32)), (.ref r1), (.long x3)])) rfl rfl (hb hby d3_97) _ ?_
            show Steps p.tables e below (s₁.setTop (mkF m 98 (LS_RR r0 r1) [(.long (7925923977987733 : Int64)), (.long x3)])) _
            refine XS.lcmp X0.here hx rfl (hb hby d3_98) rfl ?_
            exact k
          by_cases hc99_55 : x3 < (7925923977987733 : Int64)
          · refine own_go (B := s₁.setTop (mkF m 107 (LS_RR r0 r1) [(.int (1 : Int32))])) (fun t k => ?_) ?_
            · show Steps p.tables e below (s₁.setTop (mkF m 99 (LS_RR r0 r1) [(.int (lcmpW x3 (7925923977987733 : Int64)))])) _
              refine XS.ifNo X0.here hx rfl (hb hby d3_99) rfl ((if0 _ _).trans (tlt ((lw_lt x3 (7925923977987733 : Int64)).mpr hc99_55)).2.1) ?_
              show Steps p.tables e below (s₁.setTop (mkF m 102 (LS_RR r0 r1) [])) _
              refine XS.iconst X0.here hx rfl (hb hby d3_102) ?_
              show Steps p.tables e below (s₁.setTop (mkF m 103 (LS_RR r0 r1) [(.int (1 : Int32))])) _
              refine XS.goto X0.here hx rfl (pc0 := 103) (pc' := 107) rfl (hb hby d3_103) (by decide) (by decide) ?_
              exact k
            obtain ⟨fs, hr, hrun, hended, hW, hsame⟩ := X0.leave (v := some (.int (1 : Int32))) (fun h => by rw [Bd.returns] at h; cases h)
            refine ⟨_, _, ?_, hrun, hended, _, _, rfl, ?_, ⟨_, rfl⟩, hW, hsame.mono (by decide) (by decide)⟩
            · show Steps p.tables e below (s₁.setTop (mkF m 107 (LS_RR r0 r1) [(.int (1 : Int32))])) _
              exact retN X0 hx (t := .boolean) Bd.returns (by simp) (hb hby d3_107) hr
            · show Q3 Z r0 r1 kq1 kq2 x0 x1 x2 x3 x4 x5 x6 h0 n0 _ s₁.heap _
              rw [e0]
              have t6 : x6.toInt = 1829881462546425 := by rw [hc9_5]; rfl
              have t5 : x5.toInt = 23443114579904617 := by rw [hc37_10]; rfl
              have t4 : x4.toInt = 16551456537884751 := by rw [hc63_15]; rfl
              have t3 : x3.toInt < 7925923977987733 := by
                have u := Int64.lt_iff_toInt_lt.mp hc99_55
                exact u
              refine ⟨_, rfl, N0, rfl, Or.inr ⟨rfl, ?_⟩⟩
              clear hw
              omega
          · refine own_go (B := s₁.setTop (mkF m 107 (LS_RR r0 r1) [(.int (0 : Int32))])) (fun t k => ?_) ?_
            · show Steps p.tables e below (s₁.setTop (mkF m 99 (LS_RR r0 r1) [(.int (lcmpW x3 (7925923977987733 : Int64)))])) _
              refine XS.ifYes X0.here hx rfl (pc0 := 99) (pc' := 106) rfl (hb hby d3_99) rfl ((if0 _ _).trans (flt (fun q => hc99_55 ((lw_lt x3 (7925923977987733 : Int64)).mp q))).2.1) (by decide) (by decide) ?_
              show Steps p.tables e below (s₁.setTop (mkF m 106 (LS_RR r0 r1) [])) _
              refine XS.iconst X0.here hx rfl (hb hby d3_106) ?_
              exact k
            obtain ⟨fs, hr, hrun, hended, hW, hsame⟩ := X0.leave (v := some (.int (0 : Int32))) (fun h => by rw [Bd.returns] at h; cases h)
            refine ⟨_, _, ?_, hrun, hended, _, _, rfl, ?_, ⟨_, rfl⟩, hW, hsame.mono (by decide) (by decide)⟩
            · show Steps p.tables e below (s₁.setTop (mkF m 107 (LS_RR r0 r1) [(.int (0 : Int32))])) _
              exact retN X0 hx (t := .boolean) Bd.returns (by simp) (hb hby d3_107) hr
            · show Q3 Z r0 r1 kq1 kq2 x0 x1 x2 x3 x4 x5 x6 h0 n0 _ s₁.heap _
              rw [e0]
              exact ⟨_, rfl, N0, rfl, Or.inl rfl⟩
      · obtain ⟨cl56, Ar56, qa56, Sa56, Na56, Ha56, Ga56⟩ := id Vq1
        have hin57 : ¬ ((4 : Int32) < 0 ∨ cl56.slots.size ≤ ((4 : Int32)).toNatClampNeg) := inb_of Sa56 ⟨by decide, by decide⟩
        have hat57 : cl56.slots[((4 : Int32)).toNatClampNeg]? = some (.long x4) := Has.at Ha56 hin57 rfl
        obtain ⟨cl58, Ar58, qa58, Sa58, Na58, Ha58, Ga58⟩ := id Vq2
        have hin59 : ¬ ((4 : Int32) < 0 ∨ cl58.slots.size ≤ ((4 : Int32)).toNatClampNeg) := inb_of Sa58 ⟨by decide, by decide⟩
        have hat59 : cl58.slots[((4 : Int32)).toNatClampNeg]? = some (.long (16551456537884751 : Int64)) := Has.at Ha58 hin59 rfl
        refine own_go (B := s₁.setTop (mkF m 73 (LS_RR r0 r1) [(.int (lcmpW x4 (16551456537884751 : Int64)))])) (fun t k => ?_) ?_
        · show Steps p.tables e below (s₁.setTop (mkF m 63 (LS_RR r0 r1) [(.int (lcmpW x4 (16551456537884751 : Int64)))])) _
          refine XS.ifNo X0.here hx rfl (hb hby d3_63) rfl ((if0 _ _).trans (feq (fun q => hc63_15 ((lw_eq x4 (16551456537884751 : Int64)).mp q))).1) ?_
          show Steps p.tables e below (s₁.setTop (mkF m 66 (LS_RR r0 r1) [])) _
          refine XS.aloadN X0.here hx rfl (hb hby d3_66) rfl rfl ?_
          show Steps p.tables e below (s₁.setTop (mkF m 67 (LS_RR r0 r1) [(.ref r0)])) _
          refine XS.iconst X0.here hx rfl (hb hby d3_67) ?_
          show Steps p.tables e below (s₁.setTop (mkF m 68 (LS_RR r0 r1) [(.int (4 : Int32)), (.ref r0)])) _
          refine X0.laload hx (j := (4 : Int32)) (v := (.long x4)) (by rw [e0]; exact Ar56.1) (State.isArrayOf_alike hZ.alike Ar56.2.1) Ar56.2.2 hin57 hat57 (g := (mkF m 68 (LS_RR r0 r1) [(.int (4 : Int32)), (.ref r0)])) rfl rfl (hb hby d3_68) _ ?_
          show Steps p.tables e below (s₁.setTop (mkF m 69 (LS_RR r0 r1) [(.long x4)])) _
          refine XS.aloadN X0.here hx rfl (hb hby d3_69) rfl rfl ?_
          show Steps p.tables e below (s₁.setTop (mkF m 70 (LS_RR r0 r1) [(.ref r1), (.long x4)])) _
          refine XS.iconst X0.here hx rfl (hb hby d3_70) ?_
          show Steps p.tables e below (s₁.setTop (mkF m 71 (LS_RR r0 r1) [(.int (4 : Int32)), (.ref r1), (.long x4)])) _
          refine X0.laload hx (j := (4 : Int32)) (v := (.long (16551456537884751 : Int64))) (by rw [e0]; exact Ar58.1) (State.isArrayOf_alike hZ.alike Ar58.2.1) Ar58.2.2 hin59 hat59 (g := (mkF m 71 (LS_RR r0 r1) [(.int (4 : Int32)), (.ref r1), (.long x4)])) rfl rfl (hb hby d3_71) _ ?_
          show Steps p.tables e below (s₁.setTop (mkF m 72 (LS_RR r0 r1) [(.long (16551456537884751 : Int64)), (.long x4)])) _
          refine XS.lcmp X0.here hx rfl (hb hby d3_72) rfl ?_
          exact k
        by_cases hc73_60 : x4 < (16551456537884751 : Int64)
        · refine own_go (B := s₁.setTop (mkF m 81 (LS_RR r0 r1) [(.int (1 : Int32))])) (fun t k => ?_) ?_
          · show Steps p.tables e below (s₁.setTop (mkF m 73 (LS_RR r0 r1) [(.int (lcmpW x4 (16551456537884751 : Int64)))])) _
            refine XS.ifNo X0.here hx rfl (hb hby d3_73) rfl ((if0 _ _).trans (tlt ((lw_lt x4 (16551456537884751 : Int64)).mpr hc73_60)).2.1) ?_
            show Steps p.tables e below (s₁.setTop (mkF m 76 (LS_RR r0 r1) [])) _
            refine XS.iconst X0.here hx rfl (hb hby d3_76) ?_
            show Steps p.tables e below (s₁.setTop (mkF m 77 (LS_RR r0 r1) [(.int (1 : Int32))])) _
            refine XS.goto X0.here hx rfl (pc0 := 77) (pc' := 81) rfl (hb hby d3_77) (by decide) (by decide) ?_
            exact k
          obtain ⟨fs, hr, hrun, hended, hW, hsame⟩ := X0.leave (v := some (.int (1 : Int32))) (fun h => by rw [Bd.returns] at h; cases h)
          refine ⟨_, _, ?_, hrun, hended, _, _, rfl, ?_, ⟨_, rfl⟩, hW, hsame.mono (by decide) (by decide)⟩
          · show Steps p.tables e below (s₁.setTop (mkF m 81 (LS_RR r0 r1) [(.int (1 : Int32))])) _
            exact retN X0 hx (t := .boolean) Bd.returns (by simp) (hb hby d3_81) hr
          · show Q3 Z r0 r1 kq1 kq2 x0 x1 x2 x3 x4 x5 x6 h0 n0 _ s₁.heap _
            rw [e0]
            have t6 : x6.toInt = 1829881462546425 := by rw [hc9_5]; rfl
            have t5 : x5.toInt = 23443114579904617 := by rw [hc37_10]; rfl
            have t4 : x4.toInt < 16551456537884751 := by
              have u := Int64.lt_iff_toInt_lt.mp hc73_60
              exact u
            refine ⟨_, rfl, N0, rfl, Or.inr ⟨rfl, ?_⟩⟩
            clear hw
            omega
        · refine own_go (B := s₁.setTop (mkF m 81 (LS_RR r0 r1) [(.int (0 : Int32))])) (fun t k => ?_) ?_
          · show Steps p.tables e below (s₁.setTop (mkF m 73 (LS_RR r0 r1) [(.int (lcmpW x4 (16551456537884751 : Int64)))])) _
            refine XS.ifYes X0.here hx rfl (pc0 := 73) (pc' := 80) rfl (hb hby d3_73) rfl ((if0 _ _).trans (flt (fun q => hc73_60 ((lw_lt x4 (16551456537884751 : Int64)).mp q))).2.1) (by decide) (by decide) ?_
            show Steps p.tables e below (s₁.setTop (mkF m 80 (LS_RR r0 r1) [])) _
            refine XS.iconst X0.here hx rfl (hb hby d3_80) ?_
            exact k
          obtain ⟨fs, hr, hrun, hended, hW, hsame⟩ := X0.leave (v := some (.int (0 : Int32))) (fun h => by rw [Bd.returns] at h; cases h)
          refine ⟨_, _, ?_, hrun, hended, _, _, rfl, ?_, ⟨_, rfl⟩, hW, hsame.mono (by decide) (by decide)⟩
          · show Steps p.tables e below (s₁.setTop (mkF m 81 (LS_RR r0 r1) [(.int (0 : Int32))])) _
            exact retN X0 hx (t := .boolean) Bd.returns (by simp) (hb hby d3_81) hr
          · show Q3 Z r0 r1 kq1 kq2 x0 x1 x2 x3 x4 x5 x6 h0 n0 _ s₁.heap _
            rw [e0]
            exact ⟨_, rfl, N0, rfl, Or.inl rfl⟩
    · obtain ⟨cl61, Ar61, qa61, Sa61, Na61, Ha61, Ga61⟩ := id Vq1
      have hin62 : ¬ ((5 : Int32) < 0 ∨ cl61.slots.size ≤ ((5 : Int32)).toNatClampNeg) := inb_of Sa61 ⟨by decide, by decide⟩
      have hat62 : cl61.slots[((5 : Int32)).toNatClampNeg]? = some (.long x5) := Has.at Ha61 hin62 rfl
      obtain ⟨cl63, Ar63, qa63, Sa63, Na63, Ha63, Ga63⟩ := id Vq2
      have hin64 : ¬ ((5 : Int32) < 0 ∨ cl63.slots.size ≤ ((5 : Int32)).toNatClampNeg) := inb_of Sa63 ⟨by decide, by decide⟩
      have hat64 : cl63.slots[((5 : Int32)).toNatClampNeg]? = some (.long (23443114579904617 : Int64)) := Has.at Ha63 hin64 rfl
      refine own_go (B := s₁.setTop (mkF m 47 (LS_RR r0 r1) [(.int (lcmpW x5 (23443114579904617 : Int64)))])) (fun t k => ?_) ?_
      · show Steps p.tables e below (s₁.setTop (mkF m 37 (LS_RR r0 r1) [(.int (lcmpW x5 (23443114579904617 : Int64)))])) _
        refine XS.ifNo X0.here hx rfl (hb hby d3_37) rfl ((if0 _ _).trans (feq (fun q => hc37_10 ((lw_eq x5 (23443114579904617 : Int64)).mp q))).1) ?_
        show Steps p.tables e below (s₁.setTop (mkF m 40 (LS_RR r0 r1) [])) _
        refine XS.aloadN X0.here hx rfl (hb hby d3_40) rfl rfl ?_
        show Steps p.tables e below (s₁.setTop (mkF m 41 (LS_RR r0 r1) [(.ref r0)])) _
        refine XS.iconst X0.here hx rfl (hb hby d3_41) ?_
        show Steps p.tables e below (s₁.setTop (mkF m 42 (LS_RR r0 r1) [(.int (5 : Int32)), (.ref r0)])) _
        refine X0.laload hx (j := (5 : Int32)) (v := (.long x5)) (by rw [e0]; exact Ar61.1) (State.isArrayOf_alike hZ.alike Ar61.2.1) Ar61.2.2 hin62 hat62 (g := (mkF m 42 (LS_RR r0 r1) [(.int (5 : Int32)), (.ref r0)])) rfl rfl (hb hby d3_42) _ ?_
        show Steps p.tables e below (s₁.setTop (mkF m 43 (LS_RR r0 r1) [(.long x5)])) _
        refine XS.aloadN X0.here hx rfl (hb hby d3_43) rfl rfl ?_
        show Steps p.tables e below (s₁.setTop (mkF m 44 (LS_RR r0 r1) [(.ref r1), (.long x5)])) _
        refine XS.iconst X0.here hx rfl (hb hby d3_44) ?_
        show Steps p.tables e below (s₁.setTop (mkF m 45 (LS_RR r0 r1) [(.int (5 : Int32)), (.ref r1), (.long x5)])) _
        refine X0.laload hx (j := (5 : Int32)) (v := (.long (23443114579904617 : Int64))) (by rw [e0]; exact Ar63.1) (State.isArrayOf_alike hZ.alike Ar63.2.1) Ar63.2.2 hin64 hat64 (g := (mkF m 45 (LS_RR r0 r1) [(.int (5 : Int32)), (.ref r1), (.long x5)])) rfl rfl (hb hby d3_45) _ ?_
        show Steps p.tables e below (s₁.setTop (mkF m 46 (LS_RR r0 r1) [(.long (23443114579904617 : Int64)), (.long x5)])) _
        refine XS.lcmp X0.here hx rfl (hb hby d3_46) rfl ?_
        exact k
      by_cases hc47_65 : x5 < (23443114579904617 : Int64)
      · refine own_go (B := s₁.setTop (mkF m 55 (LS_RR r0 r1) [(.int (1 : Int32))])) (fun t k => ?_) ?_
        · show Steps p.tables e below (s₁.setTop (mkF m 47 (LS_RR r0 r1) [(.int (lcmpW x5 (23443114579904617 : Int64)))])) _
          refine XS.ifNo X0.here hx rfl (hb hby d3_47) rfl ((if0 _ _).trans (tlt ((lw_lt x5 (23443114579904617 : Int64)).mpr hc47_65)).2.1) ?_
          show Steps p.tables e below (s₁.setTop (mkF m 50 (LS_RR r0 r1) [])) _
          refine XS.iconst X0.here hx rfl (hb hby d3_50) ?_
          show Steps p.tables e below (s₁.setTop (mkF m 51 (LS_RR r0 r1) [(.int (1 : Int32))])) _
          refine XS.goto X0.here hx rfl (pc0 := 51) (pc' := 55) rfl (hb hby d3_51) (by decide) (by decide) ?_
          exact k
        obtain ⟨fs, hr, hrun, hended, hW, hsame⟩ := X0.leave (v := some (.int (1 : Int32))) (fun h => by rw [Bd.returns] at h; cases h)
        refine ⟨_, _, ?_, hrun, hended, _, _, rfl, ?_, ⟨_, rfl⟩, hW, hsame.mono (by decide) (by decide)⟩
        · show Steps p.tables e below (s₁.setTop (mkF m 55 (LS_RR r0 r1) [(.int (1 : Int32))])) _
          exact retN X0 hx (t := .boolean) Bd.returns (by simp) (hb hby d3_55) hr
        · show Q3 Z r0 r1 kq1 kq2 x0 x1 x2 x3 x4 x5 x6 h0 n0 _ s₁.heap _
          rw [e0]
          have t6 : x6.toInt = 1829881462546425 := by rw [hc9_5]; rfl
          have t5 : x5.toInt < 23443114579904617 := by
            have u := Int64.lt_iff_toInt_lt.mp hc47_65
            exact u
          refine ⟨_, rfl, N0, rfl, Or.inr ⟨rfl, ?_⟩⟩
          clear hw
          omega
      · refine own_go (B := s₁.setTop (mkF m 55 (LS_RR r0 r1) [(.int (0 : Int32))])) (fun t k => ?_) ?_
        · show Steps p.tables e below (s₁.setTop (mkF m 47 (LS_RR r0 r1) [(.int (lcmpW x5 (23443114579904617 : Int64)))])) _
          refine XS.ifYes X0.here hx rfl (pc0 := 47) (pc' := 54) rfl (hb hby d3_47) rfl ((if0 _ _).trans (flt (fun q => hc47_65 ((lw_lt x5 (23443114579904617 : Int64)).mp q))).2.1) (by decide) (by decide) ?_
          show Steps p.tables e below (s₁.setTop (mkF m 54 (LS_RR r0 r1) [])) _
          refine XS.iconst X0.here hx rfl (hb hby d3_54) ?_
          exact k
        obtain ⟨fs, hr, hrun, hended, hW, hsame⟩ := X0.leave (v := some (.int (0 : Int32))) (fun h => by rw [Bd.returns] at h; cases h)
        refine ⟨_, _, ?_, hrun, hended, _, _, rfl, ?_, ⟨_, rfl⟩, hW, hsame.mono (by decide) (by decide)⟩
        · show Steps p.tables e below (s₁.setTop (mkF m 55 (LS_RR r0 r1) [(.int (0 : Int32))])) _
          exact retN X0 hx (t := .boolean) Bd.returns (by simp) (hb hby d3_55) hr
        · show Q3 Z r0 r1 kq1 kq2 x0 x1 x2 x3 x4 x5 x6 h0 n0 _ s₁.heap _
          rw [e0]
          exact ⟨_, rfl, N0, rfl, Or.inl rfl⟩
  · obtain ⟨cl66, Ar66, qa66, Sa66, Na66, Ha66, Ga66⟩ := id Vq1
    have hin67 : ¬ ((6 : Int32) < 0 ∨ cl66.slots.size ≤ ((6 : Int32)).toNatClampNeg) := inb_of Sa66 ⟨by decide, by decide⟩
    have hat67 : cl66.slots[((6 : Int32)).toNatClampNeg]? = some (.long x6) := Has.at Ha66 hin67 rfl
    obtain ⟨cl68, Ar68, qa68, Sa68, Na68, Ha68, Ga68⟩ := id Vq2
    have hin69 : ¬ ((6 : Int32) < 0 ∨ cl68.slots.size ≤ ((6 : Int32)).toNatClampNeg) := inb_of Sa68 ⟨by decide, by decide⟩
    have hat69 : cl68.slots[((6 : Int32)).toNatClampNeg]? = some (.long (1829881462546425 : Int64)) := Has.at Ha68 hin69 rfl
    refine own_go (B := s₁.setTop (mkF m 21 (LS_RR r0 r1) [(.int (lcmpW x6 (1829881462546425 : Int64)))])) (fun t k => ?_) ?_
    · show Steps p.tables e below (s₁.setTop (mkF m 9 (LS_RR r0 r1) [(.int (lcmpW x6 (1829881462546425 : Int64)))])) _
      refine XS.ifNo X0.here hx rfl (hb hby d3_9) rfl ((if0 _ _).trans (feq (fun q => hc9_5 ((lw_eq x6 (1829881462546425 : Int64)).mp q))).1) ?_
      show Steps p.tables e below (s₁.setTop (mkF m 12 (LS_RR r0 r1) [])) _
      refine XS.aloadN X0.here hx rfl (hb hby d3_12) rfl rfl ?_
      show Steps p.tables e below (s₁.setTop (mkF m 13 (LS_RR r0 r1) [(.ref r0)])) _
      refine XS.bipush X0.here hx rfl (hb hby d3_13) ?_
      show Steps p.tables e below (s₁.setTop (mkF m 15 (LS_RR r0 r1) [(.int (6 : Int32)), (.ref r0)])) _
      refine X0.laload hx (j := (6 : Int32)) (v := (.long x6)) (by rw [e0]; exact Ar66.1) (State.isArrayOf_alike hZ.alike Ar66.2.1) Ar66.2.2 hin67 hat67 (g := (mkF m 15 (LS_RR r0 r1) [(.int (6 : Int32)), (.ref r0)])) rfl rfl (hb hby d3_15) _ ?_
      show Steps p.tables e below (s₁.setTop (mkF m 16 (LS_RR r0 r1) [(.long x6)])) _
      refine XS.aloadN X0.here hx rfl (hb hby d3_16) rfl rfl ?_
      show Steps p.tables e below (s₁.setTop (mkF m 17 (LS_RR r0 r1) [(.ref r1), (.long x6)])) _
      refine XS.bipush X0.here hx rfl (hb hby d3_17) ?_
      show Steps p.tables e below (s₁.setTop (mkF m 19 (LS_RR r0 r1) [(.int (6 : Int32)), (.ref r1), (.long x6)])) _
      refine X0.laload hx (j := (6 : Int32)) (v := (.long (1829881462546425 : Int64))) (by rw [e0]; exact Ar68.1) (State.isArrayOf_alike hZ.alike Ar68.2.1) Ar68.2.2 hin69 hat69 (g := (mkF m 19 (LS_RR r0 r1) [(.int (6 : Int32)), (.ref r1), (.long x6)])) rfl rfl (hb hby d3_19) _ ?_
      show Steps p.tables e below (s₁.setTop (mkF m 20 (LS_RR r0 r1) [(.long (1829881462546425 : Int64)), (.long x6)])) _
      refine XS.lcmp X0.here hx rfl (hb hby d3_20) rfl ?_
      exact k
    by_cases hc21_70 : x6 < (1829881462546425 : Int64)
    · refine own_go (B := s₁.setTop (mkF m 29 (LS_RR r0 r1) [(.int (1 : Int32))])) (fun t k => ?_) ?_
      · show Steps p.tables e below (s₁.setTop (mkF m 21 (LS_RR r0 r1) [(.int (lcmpW x6 (1829881462546425 : Int64)))])) _
        refine XS.ifNo X0.here hx rfl (hb hby d3_21) rfl ((if0 _ _).trans (tlt ((lw_lt x6 (1829881462546425 : Int64)).mpr hc21_70)).2.1) ?_
        show Steps p.tables e below (s₁.setTop (mkF m 24 (LS_RR r0 r1) [])) _
        refine XS.iconst X0.here hx rfl (hb hby d3_24) ?_
        show Steps p.tables e below (s₁.setTop (mkF m 25 (LS_RR r0 r1) [(.int (1 : Int32))])) _
        refine XS.goto X0.here hx rfl (pc0 := 25) (pc' := 29) rfl (hb hby d3_25) (by decide) (by decide) ?_
        exact k
      obtain ⟨fs, hr, hrun, hended, hW, hsame⟩ := X0.leave (v := some (.int (1 : Int32))) (fun h => by rw [Bd.returns] at h; cases h)
      refine ⟨_, _, ?_, hrun, hended, _, _, rfl, ?_, ⟨_, rfl⟩, hW, hsame.mono (by decide) (by decide)⟩
      · show Steps p.tables e below (s₁.setTop (mkF m 29 (LS_RR r0 r1) [(.int (1 : Int32))])) _
        exact retN X0 hx (t := .boolean) Bd.returns (by simp) (hb hby d3_29) hr
      · show Q3 Z r0 r1 kq1 kq2 x0 x1 x2 x3 x4 x5 x6 h0 n0 _ s₁.heap _
        rw [e0]
        have t6 : x6.toInt < 1829881462546425 := by
          have u := Int64.lt_iff_toInt_lt.mp hc21_70
          exact u
        refine ⟨_, rfl, N0, rfl, Or.inr ⟨rfl, ?_⟩⟩
        clear hw
        omega
    · refine own_go (B := s₁.setTop (mkF m 29 (LS_RR r0 r1) [(.int (0 : Int32))])) (fun t k => ?_) ?_
      · show Steps p.tables e below (s₁.setTop (mkF m 21 (LS_RR r0 r1) [(.int (lcmpW x6 (1829881462546425 : Int64)))])) _
        refine XS.ifYes X0.here hx rfl (pc0 := 21) (pc' := 28) rfl (hb hby d3_21) rfl ((if0 _ _).trans (flt (fun q => hc21_70 ((lw_lt x6 (1829881462546425 : Int64)).mp q))).2.1) (by decide) (by decide) ?_
        show Steps p.tables e below (s₁.setTop (mkF m 28 (LS_RR r0 r1) [])) _
        refine XS.iconst X0.here hx rfl (hb hby d3_28) ?_
        exact k
      obtain ⟨fs, hr, hrun, hended, hW, hsame⟩ := X0.leave (v := some (.int (0 : Int32))) (fun h => by rw [Bd.returns] at h; cases h)
      refine ⟨_, _, ?_, hrun, hended, _, _, rfl, ?_, ⟨_, rfl⟩, hW, hsame.mono (by decide) (by decide)⟩
      · show Steps p.tables e below (s₁.setTop (mkF m 29 (LS_RR r0 r1) [(.int (0 : Int32))])) _
        exact retN X0 hx (t := .boolean) Bd.returns (by simp) (hb hby d3_29) hr
      · show Q3 Z r0 r1 kq1 kq2 x0 x1 x2 x3 x4 x5 x6 h0 n0 _ s₁.heap _
        rw [e0]
        exact ⟨_, rfl, N0, rfl, Or.inl rfl⟩
theorem ef_2 (m : MethodId) (r0 : Addr) (p1 : Int32) (r2 : Addr) (r3 : Addr) (p4 : Int32) : entryFrame m #[(.ref r0), (.int p1), (.ref r2), (.ref r3), (.int p4)] 9 = mkF m 0 #[.val (.ref r0), .val (.int p1), .val (.ref r2), .val (.ref r3), .val (.int p4), .unset, .unset, .unset, .unset] [] := by first | (simp [entryFrame, mkF, argsToLocals, Value.category]; done) | rfl
theorem pn_2 : plainName "com/example/barred_rows/barredrows/crypto/FpEqualPinLaw" = true := by first | (simp [plainName, overriddenIn]; done) | decide +kernel
abbrev LS_RIRRIuuuu (a0 : Addr) (a1 : Int32) (a2 : Addr) (a3 : Addr) (a4 : Int32) : Array Slot := #[.val (.ref a0), .val (.int a1), .val (.ref a2), .val (.ref a3), .val (.int a4), .unset, .unset, .unset, .unset]
theorem d2_0 : decode method_5_code 0 = .ok (.iload 4, 2) := by decide +kernel
theorem d2_2 : decode method_5_code 2 = .ok (.ifCond .ne 60, 3) := by decide +kernel
theorem d2_5 : decode method_5_code 5 = .ok (.aload_n 0, 1) := by decide +kernel
theorem d2_6 : decode method_5_code 6 = .ok (.iload_n 1, 1) := by decide +kernel
theorem d2_7 : decode method_5_code 7 = .ok (.aload_n 2, 1) := by decide +kernel
theorem d2_8 : decode method_5_code 8 = .ok (.iconst 0, 1) := by decide +kernel
theorem d2_9 : decode method_5_code 9 = .ok (.laload, 1) := by decide +kernel
theorem d2_10 : decode method_5_code 10 = .ok (.lastore, 1) := by decide +kernel
theorem d2_11 : decode method_5_code 11 = .ok (.aload_n 0, 1) := by decide +kernel
theorem d2_12 : decode method_5_code 12 = .ok (.iload_n 1, 1) := by decide +kernel
theorem d2_13 : decode method_5_code 13 = .ok (.iconst 1, 1) := by decide +kernel
theorem d2_14 : decode method_5_code 14 = .ok (.iadd, 1) := by decide +kernel
theorem d2_15 : decode method_5_code 15 = .ok (.aload_n 2, 1) := by decide +kernel
theorem d2_16 : decode method_5_code 16 = .ok (.iconst 1, 1) := by decide +kernel
theorem d2_17 : decode method_5_code 17 = .ok (.laload, 1) := by decide +kernel
theorem d2_18 : decode method_5_code 18 = .ok (.lastore, 1) := by decide +kernel
theorem d2_19 : decode method_5_code 19 = .ok (.aload_n 0, 1) := by decide +kernel
theorem d2_20 : decode method_5_code 20 = .ok (.iload_n 1, 1) := by decide +kernel
theorem d2_21 : decode method_5_code 21 = .ok (.iconst 2, 1) := by decide +kernel
theorem d2_22 : decode method_5_code 22 = .ok (.iadd, 1) := by decide +kernel
theorem d2_23 : decode method_5_code 23 = .ok (.aload_n 2, 1) := by decide +kernel
theorem d2_24 : decode method_5_code 24 = .ok (.iconst 2, 1) := by decide +kernel
theorem d2_25 : decode method_5_code 25 = .ok (.laload, 1) := by decide +kernel
theorem d2_26 : decode method_5_code 26 = .ok (.lastore, 1) := by decide +kernel
theorem d2_27 : decode method_5_code 27 = .ok (.aload_n 0, 1) := by decide +kernel
theorem d2_28 : decode method_5_code 28 = .ok (.iload_n 1, 1) := by decide +kernel
theorem d2_29 : decode method_5_code 29 = .ok (.iconst 3, 1) := by decide +kernel
theorem d2_30 : decode method_5_code 30 = .ok (.iadd, 1) := by decide +kernel
theorem d2_31 : decode method_5_code 31 = .ok (.aload_n 2, 1) := by decide +kernel
theorem d2_32 : decode method_5_code 32 = .ok (.iconst 3, 1) := by decide +kernel
theorem d2_33 : decode method_5_code 33 = .ok (.laload, 1) := by decide +kernel
theorem d2_34 : decode method_5_code 34 = .ok (.lastore, 1) := by decide +kernel
theorem d2_35 : decode method_5_code 35 = .ok (.aload_n 0, 1) := by decide +kernel
theorem d2_36 : decode method_5_code 36 = .ok (.iload_n 1, 1) := by decide +kernel
theorem d2_37 : decode method_5_code 37 = .ok (.iconst 4, 1) := by decide +kernel
theorem d2_38 : decode method_5_code 38 = .ok (.iadd, 1) := by decide +kernel
theorem d2_39 : decode method_5_code 39 = .ok (.aload_n 2, 1) := by decide +kernel
theorem d2_40 : decode method_5_code 40 = .ok (.iconst 4, 1) := by decide +kernel
theorem d2_41 : decode method_5_code 41 = .ok (.laload, 1) := by decide +kernel
theorem d2_42 : decode method_5_code 42 = .ok (.lastore, 1) := by decide +kernel
theorem d2_43 : decode method_5_code 43 = .ok (.aload_n 0, 1) := by decide +kernel
theorem d2_44 : decode method_5_code 44 = .ok (.iload_n 1, 1) := by decide +kernel
theorem d2_45 : decode method_5_code 45 = .ok (.iconst 5, 1) := by decide +kernel
theorem d2_46 : decode method_5_code 46 = .ok (.iadd, 1) := by decide +kernel
theorem d2_47 : decode method_5_code 47 = .ok (.aload_n 2, 1) := by decide +kernel
theorem d2_48 : decode method_5_code 48 = .ok (.iconst 5, 1) := by decide +kernel
theorem d2_49 : decode method_5_code 49 = .ok (.laload, 1) := by decide +kernel
theorem d2_50 : decode method_5_code 50 = .ok (.lastore, 1) := by decide +kernel
theorem d2_51 : decode method_5_code 51 = .ok (.aload_n 0, 1) := by decide +kernel
theorem d2_52 : decode method_5_code 52 = .ok (.iload_n 1, 1) := by decide +kernel
theorem d2_53 : decode method_5_code 53 = .ok (.bipush 6, 2) := by decide +kernel
theorem d2_55 : decode method_5_code 55 = .ok (.iadd, 1) := by decide +kernel
theorem d2_56 : decode method_5_code 56 = .ok (.aload_n 2, 1) := by decide +kernel
theorem d2_57 : decode method_5_code 57 = .ok (.bipush 6, 2) := by decide +kernel
theorem d2_59 : decode method_5_code 59 = .ok (.laload, 1) := by decide +kernel
theorem d2_60 : decode method_5_code 60 = .ok (.lastore, 1) := by decide +kernel
theorem d2_61 : decode method_5_code 61 = .ok (.return_, 1) := by decide +kernel
theorem d2_62 : decode method_5_code 62 = .ok (.ldc2_w 7, 3) := by decide +kernel
theorem d2_65 : decode method_5_code 65 = .ok (.lstore 5, 2) := by decide +kernel
abbrev LS_RIRRIJsuu (a0 : Addr) (a1 : Int32) (a2 : Addr) (a3 : Addr) (a4 : Int32) (a5 : Int64) : Array Slot := #[.val (.ref a0), .val (.int a1), .val (.ref a2), .val (.ref a3), .val (.int a4), .val (.long a5), .second, .unset, .unset]
theorem d2_67 : decode method_5_code 67 = .ok (.aload_n 2, 1) := by decide +kernel
theorem d2_68 : decode method_5_code 68 = .ok (.iconst 0, 1) := by decide +kernel
theorem d2_69 : decode method_5_code 69 = .ok (.laload, 1) := by decide +kernel
theorem d2_70 : decode method_5_code 70 = .ok (.aload_n 3, 1) := by decide +kernel
theorem d2_71 : decode method_5_code 71 = .ok (.iconst 0, 1) := by decide +kernel
theorem d2_72 : decode method_5_code 72 = .ok (.laload, 1) := by decide +kernel
theorem d2_73 : decode method_5_code 73 = .ok (.ladd, 1) := by decide +kernel
theorem d2_74 : decode method_5_code 74 = .ok (.lstore 7, 2) := by decide +kernel
abbrev LS_RIRRIJsJs (a0 : Addr) (a1 : Int32) (a2 : Addr) (a3 : Addr) (a4 : Int32) (a5 : Int64) (a6 : Int64) : Array Slot := #[.val (.ref a0), .val (.int a1), .val (.ref a2), .val (.ref a3), .val (.int a4), .val (.long a5), .second, .val (.long a6), .second]
theorem d2_76 : decode method_5_code 76 = .ok (.aload_n 0, 1) := by decide +kernel
theorem d2_77 : decode method_5_code 77 = .ok (.iload_n 1, 1) := by decide +kernel
theorem d2_78 : decode method_5_code 78 = .ok (.lload 7, 2) := by decide +kernel
theorem d2_80 : decode method_5_code 80 = .ok (.lload 5, 2) := by decide +kernel
theorem d2_82 : decode method_5_code 82 = .ok (.land, 1) := by decide +kernel
theorem d2_83 : decode method_5_code 83 = .ok (.lastore, 1) := by decide +kernel
theorem d2_84 : decode method_5_code 84 = .ok (.aload_n 2, 1) := by decide +kernel
theorem d2_85 : decode method_5_code 85 = .ok (.iconst 1, 1) := by decide +kernel
theorem d2_86 : decode method_5_code 86 = .ok (.laload, 1) := by decide +kernel
theorem d2_87 : decode method_5_code 87 = .ok (.aload_n 3, 1) := by decide +kernel
theorem d2_88 : decode method_5_code 88 = .ok (.iconst 1, 1) := by decide +kernel
theorem d2_89 : decode method_5_code 89 = .ok (.laload, 1) := by decide +kernel
theorem d2_90 : decode method_5_code 90 = .ok (.ladd, 1) := by decide +kernel
theorem d2_91 : decode method_5_code 91 = .ok (.lload 7, 2) := by decide +kernel
theorem d2_93 : decode method_5_code 93 = .ok (.bipush 55, 2) := by decide +kernel
theorem d2_95 : decode method_5_code 95 = .ok (.lushr, 1) := by decide +kernel
theorem d2_96 : decode method_5_code 96 = .ok (.ladd, 1) := by decide +kernel
theorem d2_97 : decode method_5_code 97 = .ok (.lstore 7, 2) := by decide +kernel
theorem d2_99 : decode method_5_code 99 = .ok (.aload_n 0, 1) := by decide +kernel
theorem d2_100 : decode method_5_code 100 = .ok (.iload_n 1, 1) := by decide +kernel
theorem d2_101 : decode method_5_code 101 = .ok (.iconst 1, 1) := by decide +kernel
theorem d2_102 : decode method_5_code 102 = .ok (.iadd, 1) := by decide +kernel
theorem d2_103 : decode method_5_code 103 = .ok (.lload 7, 2) := by decide +kernel
theorem d2_105 : decode method_5_code 105 = .ok (.lload 5, 2) := by decide +kernel
theorem d2_107 : decode method_5_code 107 = .ok (.land, 1) := by decide +kernel
theorem d2_108 : decode method_5_code 108 = .ok (.lastore, 1) := by decide +kernel
theorem d2_109 : decode method_5_code 109 = .ok (.aload_n 2, 1) := by decide +kernel
theorem d2_110 : decode method_5_code 110 = .ok (.iconst 2, 1) := by decide +kernel
theorem d2_111 : decode method_5_code 111 = .ok (.laload, 1) := by decide +kernel
theorem d2_112 : decode method_5_code 112 = .ok (.aload_n 3, 1) := by decide +kernel
theorem d2_113 : decode method_5_code 113 = .ok (.iconst 2, 1) := by decide +kernel
theorem d2_114 : decode method_5_code 114 = .ok (.laload, 1) := by decide +kernel
theorem d2_115 : decode method_5_code 115 = .ok (.ladd, 1) := by decide +kernel
theorem d2_116 : decode method_5_code 116 = .ok (.lload 7, 2) := by decide +kernel
theorem d2_118 : decode method_5_code 118 = .ok (.bipush 55, 2) := by decide +kernel
theorem d2_120 : decode method_5_code 120 = .ok (.lushr, 1) := by decide +kernel
theorem d2_121 : decode method_5_code 121 = .ok (.ladd, 1) := by decide +kernel
theorem d2_122 : decode method_5_code 122 = .ok (.lstore 7, 2) := by decide +kernel
theorem d2_124 : decode method_5_code 124 = .ok (.aload_n 0, 1) := by decide +kernel
theorem d2_125 : decode method_5_code 125 = .ok (.iload_n 1, 1) := by decide +kernel
theorem d2_126 : decode method_5_code 126 = .ok (.iconst 2, 1) := by decide +kernel
theorem d2_127 : decode method_5_code 127 = .ok (.iadd, 1) := by decide +kernel
theorem d2_128 : decode method_5_code 128 = .ok (.lload 7, 2) := by decide +kernel
theorem d2_130 : decode method_5_code 130 = .ok (.lload 5, 2) := by decide +kernel
theorem d2_132 : decode method_5_code 132 = .ok (.land, 1) := by decide +kernel
theorem d2_133 : decode method_5_code 133 = .ok (.lastore, 1) := by decide +kernel
theorem d2_134 : decode method_5_code 134 = .ok (.aload_n 2, 1) := by decide +kernel
theorem d2_135 : decode method_5_code 135 = .ok (.iconst 3, 1) := by decide +kernel
theorem d2_136 : decode method_5_code 136 = .ok (.laload, 1) := by decide +kernel
theorem d2_137 : decode method_5_code 137 = .ok (.aload_n 3, 1) := by decide +kernel
theorem d2_138 : decode method_5_code 138 = .ok (.iconst 3, 1) := by decide +kernel
theorem d2_139 : decode method_5_code 139 = .ok (.laload, 1) := by decide +kernel
theorem d2_140 : decode method_5_code 140 = .ok (.ladd, 1) := by decide +kernel
theorem d2_141 : decode method_5_code 141 = .ok (.lload 7, 2) := by decide +kernel
theorem d2_143 : decode method_5_code 143 = .ok (.bipush 55, 2) := by decide +kernel
theorem d2_145 : decode method_5_code 145 = .ok (.lushr, 1) := by decide +kernel
theorem d2_146 : decode method_5_code 146 = .ok (.ladd, 1) := by decide +kernel
theorem d2_147 : decode method_5_code 147 = .ok (.lstore 7, 2) := by decide +kernel
theorem d2_149 : decode method_5_code 149 = .ok (.aload_n 0, 1) := by decide +kernel
theorem d2_150 : decode method_5_code 150 = .ok (.iload_n 1, 1) := by decide +kernel
theorem d2_151 : decode method_5_code 151 = .ok (.iconst 3, 1) := by decide +kernel
theorem d2_152 : decode method_5_code 152 = .ok (.iadd, 1) := by decide +kernel
theorem d2_153 : decode method_5_code 153 = .ok (.lload 7, 2) := by decide +kernel
theorem d2_155 : decode method_5_code 155 = .ok (.lload 5, 2) := by decide +kernel
theorem d2_157 : decode method_5_code 157 = .ok (.land, 1) := by decide +kernel
theorem d2_158 : decode method_5_code 158 = .ok (.lastore, 1) := by decide +kernel
theorem d2_159 : decode method_5_code 159 = .ok (.aload_n 2, 1) := by decide +kernel
theorem d2_160 : decode method_5_code 160 = .ok (.iconst 4, 1) := by decide +kernel
theorem d2_161 : decode method_5_code 161 = .ok (.laload, 1) := by decide +kernel
theorem d2_162 : decode method_5_code 162 = .ok (.aload_n 3, 1) := by decide +kernel
theorem d2_163 : decode method_5_code 163 = .ok (.iconst 4, 1) := by decide +kernel
theorem d2_164 : decode method_5_code 164 = .ok (.laload, 1) := by decide +kernel
theorem d2_165 : decode method_5_code 165 = .ok (.ladd, 1) := by decide +kernel
theorem d2_166 : decode method_5_code 166 = .ok (.lload 7, 2) := by decide +kernel
theorem d2_168 : decode method_5_code 168 = .ok (.bipush 55, 2) := by decide +kernel
theorem d2_170 : decode method_5_code 170 = .ok (.lushr, 1) := by decide +kernel
theorem d2_171 : decode method_5_code 171 = .ok (.ladd, 1) := by decide +kernel
theorem d2_172 : decode method_5_code 172 = .ok (.lstore 7, 2) := by decide +kernel
theorem d2_174 : decode method_5_code 174 = .ok (.aload_n 0, 1) := by decide +kernel
theorem d2_175 : decode method_5_code 175 = .ok (.iload_n 1, 1) := by decide +kernel
theorem d2_176 : decode method_5_code 176 = .ok (.iconst 4, 1) := by decide +kernel
theorem d2_177 : decode method_5_code 177 = .ok (.iadd, 1) := by decide +kernel
theorem d2_178 : decode method_5_code 178 = .ok (.lload 7, 2) := by decide +kernel
theorem d2_180 : decode method_5_code 180 = .ok (.lload 5, 2) := by decide +kernel
theorem d2_182 : decode method_5_code 182 = .ok (.land, 1) := by decide +kernel
theorem d2_183 : decode method_5_code 183 = .ok (.lastore, 1) := by decide +kernel
theorem d2_184 : decode method_5_code 184 = .ok (.aload_n 2, 1) := by decide +kernel
theorem d2_185 : decode method_5_code 185 = .ok (.iconst 5, 1) := by decide +kernel
theorem d2_186 : decode method_5_code 186 = .ok (.laload, 1) := by decide +kernel
theorem d2_187 : decode method_5_code 187 = .ok (.aload_n 3, 1) := by decide +kernel
theorem d2_188 : decode method_5_code 188 = .ok (.iconst 5, 1) := by decide +kernel
theorem d2_189 : decode method_5_code 189 = .ok (.laload, 1) := by decide +kernel
theorem d2_190 : decode method_5_code 190 = .ok (.ladd, 1) := by decide +kernel
theorem d2_191 : decode method_5_code 191 = .ok (.lload 7, 2) := by decide +kernel
theorem d2_193 : decode method_5_code 193 = .ok (.bipush 55, 2) := by decide +kernel
theorem d2_195 : decode method_5_code 195 = .ok (.lushr, 1) := by decide +kernel
theorem d2_196 : decode method_5_code 196 = .ok (.ladd, 1) := by decide +kernel
theorem d2_197 : decode method_5_code 197 = .ok (.lstore 7, 2) := by decide +kernel
theorem d2_199 : decode method_5_code 199 = .ok (.aload_n 0, 1) := by decide +kernel
theorem d2_200 : decode method_5_code 200 = .ok (.iload_n 1, 1) := by decide +kernel
theorem d2_201 : decode method_5_code 201 = .ok (.iconst 5, 1) := by decide +kernel
theorem d2_202 : decode method_5_code 202 = .ok (.iadd, 1) := by decide +kernel
theorem d2_203 : decode method_5_code 203 = .ok (.lload 7, 2) := by decide +kernel
theorem d2_205 : decode method_5_code 205 = .ok (.lload 5, 2) := by decide +kernel
theorem d2_207 : decode method_5_code 207 = .ok (.land, 1) := by decide +kernel
theorem d2_208 : decode method_5_code 208 = .ok (.lastore, 1) := by decide +kernel
theorem d2_209 : decode method_5_code 209 = .ok (.aload_n 2, 1) := by decide +kernel
theorem d2_210 : decode method_5_code 210 = .ok (.bipush 6, 2) := by decide +kernel
theorem d2_212 : decode method_5_code 212 = .ok (.laload, 1) := by decide +kernel
theorem d2_213 : decode method_5_code 213 = .ok (.aload_n 3, 1) := by decide +kernel
theorem d2_214 : decode method_5_code 214 = .ok (.bipush 6, 2) := by decide +kernel
theorem d2_216 : decode method_5_code 216 = .ok (.laload, 1) := by decide +kernel
theorem d2_217 : decode method_5_code 217 = .ok (.ladd, 1) := by decide +kernel
theorem d2_218 : decode method_5_code 218 = .ok (.lload 7, 2) := by decide +kernel
theorem d2_220 : decode method_5_code 220 = .ok (.bipush 55, 2) := by decide +kernel
theorem d2_222 : decode method_5_code 222 = .ok (.lushr, 1) := by decide +kernel
theorem d2_223 : decode method_5_code 223 = .ok (.ladd, 1) := by decide +kernel
theorem d2_224 : decode method_5_code 224 = .ok (.lstore 7, 2) := by decide +kernel
theorem d2_226 : decode method_5_code 226 = .ok (.aload_n 0, 1) := by decide +kernel
theorem d2_227 : decode method_5_code 227 = .ok (.iload_n 1, 1) := by decide +kernel
theorem d2_228 : decode method_5_code 228 = .ok (.bipush 6, 2) := by decide +kernel
theorem d2_230 : decode method_5_code 230 = .ok (.iadd, 1) := by decide +kernel
theorem d2_231 : decode method_5_code 231 = .ok (.lload 7, 2) := by decide +kernel
theorem d2_233 : decode method_5_code 233 = .ok (.lastore, 1) := by decide +kernel
theorem d2_234 : decode method_5_code 234 = .ok (.return_, 1) := by decide +kernel
def Q2 (Z : State) (r0 : Addr) (p1 : Int32) (r2 : Addr) (r3 : Addr) (p4 : Int32) (kqb kq1 kq2 : ClassId) (vs : List Value) (m0 m1 m2 m3 m4 m5 m6 : Nat) (x0 x1 x2 x3 x4 x5 x6 : Int64) (h0 : Heap) (n0 : Nat) (v : Option Value) (h : Heap) (L : List Loc) : Prop := ∃ (z0 z1 z2 z3 z4 z5 z6 : Int64), v = none ∧ Fr n0 L ∧ Keep h0 h [r0] ∧ Arv Z h r0 kqb .long (21 : Int32) (((((((vs.set m0 (.long z0)).set m1 (.long z1)).set m2 (.long z2)).set m3 (.long z3)).set m4 (.long z4)).set m5 (.long z5)).set m6 (.long z6)) (.long (0 : Int64)) ∧ (own_c0 z0 z1 z2 z3 z4 z5 z6) = (own_c0 x0 x1 x2 x3 x4 x5 x6) ∧ (own_c1 z0 z1 z2 z3 z4 z5 z6) = (own_c1 x0 x1 x2 x3 x4 x5 x6) ∧ (own_c2 z0 z1 z2 z3 z4 z5 z6) = (own_c2 x0 x1 x2 x3 x4 x5 x6) ∧ (own_c3 z0 z1 z2 z3 z4 z5 z6) = (own_c3 x0 x1 x2 x3 x4 x5 x6) ∧ (own_c4 z0 z1 z2 z3 z4 z5 z6) = (own_c4 x0 x1 x2 x3 x4 x5 x6) ∧ (own_c5 z0 z1 z2 z3 z4 z5 z6) = (own_c5 x0 x1 x2 x3 x4 x5 x6) ∧ (own_c6 z0 z1 z2 z3 z4 z5 z6) = (own_c6 x0 x1 x2 x3 x4 x5 x6)
set_option maxRecDepth 65536 in
set_option maxHeartbeats 40000000 in
theorem rm2 (l : Launch) (Z : State) (a0 : Array Value) (hw : ∀ d ∈ tables_1, d.before a0 Z = true) (ws : List Jvm.Cond) (r0 : Addr) (p1 : Int32) (r2 : Addr) (r3 : Addr) (p4 : Int32) (kqb kq1 kq2 : ClassId) (vs : List Value) (m0 m1 m2 m3 m4 m5 m6 : Nat) (x0 x1 x2 x3 x4 x5 x6 : Int64) (h0 : Heap) (n0 : Nat) (Z0 : n0 ≤ h0.size) (Vqb : Arv Z h0 r0 kqb .long (21 : Int32) vs (.long (0 : Int64))) (Vq1 : Arv Z h0 r2 kq1 .long (7 : Int32) [(.long x0), (.long x1), (.long x2), (.long x3), (.long x4), (.long x5), (.long x6)] (.long (0 : Int64))) (Vq2 : Arv Z h0 r3 kq2 .long (7 : Int32) [(.long (35747322042231467 : Int64)), (.long (36025922209447795 : Int64)), (.long (1084959616957103 : Int64)), (.long (7925923977987733 : Int64)), (.long (16551456537884751 : Int64)), (.long (23443114579904617 : Int64)), (.long (1829881462546425 : Int64))] (.long (0 : Int64))) (hlen : vs.length = 21) (hb0 : ¬ (p1 < 0) ∧ p1 < (21 : Int32)) (hb1 : ¬ ((p1 + (1 : Int32)) < 0) ∧ (p1 + (1 : Int32)) < (21 : Int32)) (hb2 : ¬ ((p1 + (2 : Int32)) < 0) ∧ (p1 + (2 : Int32)) < (21 : Int32)) (hb3 : ¬ ((p1 + (3 : Int32)) < 0) ∧ (p1 + (3 : Int32)) < (21 : Int32)) (hb4 : ¬ ((p1 + (4 : Int32)) < 0) ∧ (p1 + (4 : Int32)) < (21 : Int32)) (hb5 : ¬ ((p1 + (5 : Int32)) < 0) ∧ (p1 + (5 : Int32)) < (21 : Int32)) (hb6 : ¬ ((p1 + (6 : Int32)) < 0) ∧ (p1 + (6 : Int32)) < (21 : Int32)) (hm0 : (p1).toNatClampNeg = m0) (hm1 : ((p1 + (1 : Int32))).toNatClampNeg = m1) (hm2 : ((p1 + (2 : Int32))).toNatClampNeg = m2) (hm3 : ((p1 + (3 : Int32))).toNatClampNeg = m3) (hm4 : ((p1 + (4 : Int32))).toNatClampNeg = m4) (hm5 : ((p1 + (5 : Int32))).toNatClampNeg = m5) (hm6 : ((p1 + (6 : Int32))).toNatClampNeg = m6) (hl0 : m0 < 21) (hl1 : m1 < 21) (hl2 : m2 < 21) (hl3 : m3 < 21) (hl4 : m4 < 21) (hl5 : m5 < 21) (hl6 : m6 < 21) (hx0 : (0 ≤ (x0).toInt ∧ (x0).toInt < 36028797018963968)) (hx1 : (0 ≤ (x1).toInt ∧ (x1).toInt < 36028797018963968)) (hx2 : (0 ≤ (x2).toInt ∧ (x2).toInt < 36028797018963968)) (hx3 : (0 ≤ (x3).toInt ∧ (x3).toInt < 36028797018963968)) (hx4 : (0 ≤ (x4).toInt ∧ (x4).toInt < 36028797018963968)) (hx5 : (0 ≤ (x5).toInt ∧ (x5).toInt < 36028797018963968)) (hx6 : (0 ≤ (x6).toInt ∧ (x6).toInt < 36028797018963968)) (ht : x6.toInt < 9007199254740992) (hpl : p4 = (0 : Int32) ∨ (p4 = (1 : Int32) ∧ (x0).toInt + (x1).toInt * 36028797018963968 + (x2).toInt * 1298074214633706907132624082305024 + (x3).toInt * 46768052394588893382517914646921056628989841375232 + (x4).toInt * 1684996666696914987166688442938726917102321526408785780068975640576 + (x5).toInt * 60708402882054033466233184588234965832575213720379360039119137804340758912662765568 + (x6).toInt * 2187250724783011924372502227117621365353169430893212436425770606409952999199375923223513177023053824 < 4002409555221667393417789825735904156556882819939007885332058136124031650490837864442687629129015664037894272559787)) (ne2 : r2 ≠ r0) (ne3 : r3 ≠ r0) (g_r0 : n0 ≤ r0) :
    MetFree l (⟨"com/example/barred_rows/barredrows/crypto/FpEqualPinLaw", "place", "([JI[J[JZ)V"⟩ : MethodName) (head1 (Jvm.Cond.code (⟨"com/example/barred_rows/barredrows/crypto/FpEqualPinLaw", "place", "([JI[J[JZ)V"⟩ : MethodName) method_5_code 9 none :: ws) ({ frames := 0, cells := 0, slots := 0, locals := 0 } : Room)) (fun a U => a = #[(.ref r0), (.int p1), (.ref r2), (.ref r3), (.int p4)] ∧ Z.Warmed39 U.vm ∧ U.heap = h0) (fun _ _ _ _ _ => True) (fun _ U o U' => ∃ v L, o = .returned v ∧ Q2 Z r0 p1 r2 r3 p4 kqb kq1 kq2 vs m0 m1 m2 m3 m4 m5 m6 x0 x1 x2 x3 x4 x5 x6 h0 n0 v U'.heap L ∧ FrameEnd U o U' L ({ frames := 0, cells := 0, slots := 0, locals := 0 } : Room).cells ({ frames := 0, cells := 0, slots := 0, locals := 0 } : Room).slots) := by
  refine MetFree.of_bodySF (plainFor_of_name pn_2) hisR ?_
  intro p e s m args below meth c s₁ Bd hml0 hP hK
  obtain ⟨rfl, hZ, hh⟩ := hP
  have hx := Bd.exec
  have hby := Bd.bytes
  have hml : c.maxLocals = 9 := hml0
  have hown : s.vm.findClass "com/example/barred_rows/barredrows/crypto/FpEqualPinLaw" = some m.cls := findClass_of_methodNamed Bd.named
  have hnm := (name_of_methodNamed Bd.named Bd.method).1
  have X0 : Stand p l e ({ frames := 0, cells := 0, slots := 0, locals := 0 } : Room) s m #[(.ref r0), (.int p1), (.ref r2), (.ref r3), (.int p4)] below meth c s₁ [] 0 0 := Stand.of_body Bd
  have e0 : s₁.heap = h0 := by rw [← hh, Bd.state]; rfl
  have N0 := Fr.nil n0
  refine own_go (B := s₁.setTop (mkF m 0 (LS_RIRRIuuuu r0 p1 r2 r3 p4) [])) (fun t k => castTop (ef_2 m r0 p1 r2 r3 p4) k) ?_
  have K0 : Keep h0 h0 [r0] := Keep.refl _ _
  refine own_go (B := s₁.setTop (mkF m 2 (LS_RIRRIuuuu r0 p1 r2 r3 p4) [(.int p4)])) (fun t k => ?_) ?_
  · show Steps p.tables e below (s₁.setTop (mkF m 0 (LS_RIRRIuuuu r0 p1 r2 r3 p4) [])) _
    refine XS.iload X0.here hx rfl (hb hby d2_0) rfl ?_
    exact k
  by_cases hc2_1 : p4 = (0 : Int32)
  · obtain ⟨cl2, Ar2, qa2, Sa2, Na2, Ha2, Ga2⟩ := id Vq1
    have hin3 : ¬ ((0 : Int32) < 0 ∨ cl2.slots.size ≤ ((0 : Int32)).toNatClampNeg) := inb_of Sa2 ⟨by decide, by decide⟩
    have hat3 : cl2.slots[((0 : Int32)).toNatClampNeg]? = some (.long x0) := Has.at Ha2 hin3 rfl
    refine own_go (B := s₁.setTop (mkF m 10 (LS_RIRRIuuuu r0 p1 r2 r3 p4) [(.long x0), (.int p1), (.ref r0)])) (fun t k => ?_) ?_
    · show Steps p.tables e below (s₁.setTop (mkF m 2 (LS_RIRRIuuuu r0 p1 r2 r3 p4) [(.int p4)])) _
      refine XS.ifNo X0.here hx rfl (hb hby d2_2) rfl ((if0 _ _).trans (teq hc2_1).2) ?_
      show Steps p.tables e below (s₁.setTop (mkF m 5 (LS_RIRRIuuuu r0 p1 r2 r3 p4) [])) _
      refine XS.aloadN X0.here hx rfl (hb hby d2_5) rfl rfl ?_
      show Steps p.tables e below (s₁.setTop (mkF m 6 (LS_RIRRIuuuu r0 p1 r2 r3 p4) [(.ref r0)])) _
      refine XS.iloadN X0.here hx rfl (hb hby d2_6) rfl ?_
      show Steps p.tables e below (s₁.setTop (mkF m 7 (LS_RIRRIuuuu r0 p1 r2 r3 p4) [(.int p1), (.ref r0)])) _
      refine XS.aloadN X0.here hx rfl (hb hby d2_7) rfl rfl ?_
      show Steps p.tables e below (s₁.setTop (mkF m 8 (LS_RIRRIuuuu r0 p1 r2 r3 p4) [(.ref r2), (.int p1), (.ref r0)])) _
      refine XS.iconst X0.here hx rfl (hb hby d2_8) ?_
      show Steps p.tables e below (s₁.setTop (mkF m 9 (LS_RIRRIuuuu r0 p1 r2 r3 p4) [(.int (0 : Int32)), (.ref r2), (.int p1), (.ref r0)])) _
      refine X0.laload hx (j := (0 : Int32)) (v := (.long x0)) (by rw [e0]; exact Ar2.1) (State.isArrayOf_alike hZ.alike Ar2.2.1) Ar2.2.2 hin3 hat3 (g := (mkF m 9 (LS_RIRRIuuuu r0 p1 r2 r3 p4) [(.int (0 : Int32)), (.ref r2), (.int p1), (.ref r0)])) rfl rfl (hb hby d2_9) _ ?_
      exact k
    obtain ⟨cl4, Ar4, qa4, Sa4, Na4, Ha4, Ga4⟩ := id Vqb
    have hin5 : ¬ (p1 < 0 ∨ cl4.slots.size ≤ (p1).toNatClampNeg) := inb_of Sa4 hb0
    obtain ⟨T5, h5, X5, e5, W5, st5⟩ := stJ X0 hx hZ e0 Ar4 (j := p1) hin5 (g := (mkF m 10 (LS_RIRRIuuuu r0 p1 r2 r3 p4) [(.long x0), (.int p1), (.ref r0)])) rfl rfl (hb hby d2_10)
    have N5 := Fr.snoc X5 N0 g_r0
    have V5 : Arv Z h5 r0 kqb .long (21 : Int32) (vs.set m0 (.long x0)) (.long (0 : Int64)) := Arv.set Ar4 qa4 Sa4 Na4 Ha4 Ga4 rfl W5 m0 hm0 (by simp only [List.length_set, hlen]; exact hl0)
    refine own_go (B := T5.setTop (mkF m 11 (LS_RIRRIuuuu r0 p1 r2 r3 p4) [])) (fun t k => st5 _ k) ?_
    have Vq1_v7 := Vq1.other W5 ne2
    obtain ⟨cl6, Ar6, qa6, Sa6, Na6, Ha6, Ga6⟩ := id Vq1_v7
    have hin8 : ¬ ((1 : Int32) < 0 ∨ cl6.slots.size ≤ ((1 : Int32)).toNatClampNeg) := inb_of Sa6 ⟨by decide, by decide⟩
    have hat8 : cl6.slots[((1 : Int32)).toNatClampNeg]? = some (.long x1) := Has.at Ha6 hin8 rfl
    refine own_go (B := T5.setTop (mkF m 18 (LS_RIRRIuuuu r0 p1 r2 r3 p4) [(.long x1), (.int (p1 + (1 : Int32))), (.ref r0)])) (fun t k => ?_) ?_
    · show Steps p.tables e below (T5.setTop (mkF m 11 (LS_RIRRIuuuu r0 p1 r2 r3 p4) [])) _
      refine XS.aloadN X5.here hx rfl (hb hby d2_11) rfl rfl ?_
      show Steps p.tables e below (T5.setTop (mkF m 12 (LS_RIRRIuuuu r0 p1 r2 r3 p4) [(.ref r0)])) _
      refine XS.iloadN X5.here hx rfl (hb hby d2_12) rfl ?_
      show Steps p.tables e below (T5.setTop (mkF m 13 (LS_RIRRIuuuu r0 p1 r2 r3 p4) [(.int p1), (.ref r0)])) _
      refine XS.iconst X5.here hx rfl (hb hby d2_13) ?_
      show Steps p.tables e below (T5.setTop (mkF m 14 (LS_RIRRIuuuu r0 p1 r2 r3 p4) [(.int (1 : Int32)), (.int p1), (.ref r0)])) _
      refine XS.iadd X5.here hx rfl (hb hby d2_14) rfl ?_
      show Steps p.tables e below (T5.setTop (mkF m 15 (LS_RIRRIuuuu r0 p1 r2 r3 p4) [(.int (p1 + (1 : Int32))), (.ref r0)])) _
      refine XS.aloadN X5.here hx rfl (hb hby d2_15) rfl rfl ?_
      show Steps p.tables e below (T5.setTop (mkF m 16 (LS_RIRRIuuuu r0 p1 r2 r3 p4) [(.ref r2), (.int (p1 + (1 : Int32))), (.ref r0)])) _
      refine XS.iconst X5.here hx rfl (hb hby d2_16) ?_
      show Steps p.tables e below (T5.setTop (mkF m 17 (LS_RIRRIuuuu r0 p1 r2 r3 p4) [(.int (1 : Int32)), (.ref r2), (.int (p1 + (1 : Int32))), (.ref r0)])) _
      refine X5.laload hx (j := (1 : Int32)) (v := (.long x1)) (by rw [e5]; exact Ar6.1) (State.isArrayOf_alike hZ.alike Ar6.2.1) Ar6.2.2 hin8 hat8 (g := (mkF m 17 (LS_RIRRIuuuu r0 p1 r2 r3 p4) [(.int (1 : Int32)), (.ref r2), (.int (p1 + (1 : Int32))), (.ref r0)])) rfl rfl (hb hby d2_17) _ ?_
      exact k
    obtain ⟨cl9, Ar9, qa9, Sa9, Na9, Ha9, Ga9⟩ := id V5
    have hin10 : ¬ ((p1 + (1 : Int32)) < 0 ∨ cl9.slots.size ≤ ((p1 + (1 : Int32))).toNatClampNeg) := inb_of Sa9 hb1
    obtain ⟨T10, h10, X10, e10, W10, st10⟩ := stJ X5 hx hZ e5 Ar9 (j := (p1 + (1 : Int32))) hin10 (g := (mkF m 18 (LS_RIRRIuuuu r0 p1 r2 r3 p4) [(.long x1), (.int (p1 + (1 : Int32))), (.ref r0)])) rfl rfl (hb hby d2_18)
    have N10 := Fr.snoc X10 N5 g_r0
    have V10 : Arv Z h10 r0 kqb .long (21 : Int32) ((vs.set m0 (.long x0)).set m1 (.long x1)) (.long (0 : Int64)) := Arv.set Ar9 qa9 Sa9 Na9 Ha9 Ga9 rfl W10 m1 hm1 (by simp only [List.length_set, hlen]; exact hl1)
    refine own_go (B := T10.setTop (mkF m 19 (LS_RIRRIuuuu r0 p1 r2 r3 p4) [])) (fun t k => st10 _ k) ?_
    have Vq1_v12 := Vq1_v7.other W10 ne2
    obtain ⟨cl11, Ar11, qa11, Sa11, Na11, Ha11, Ga11⟩ := id Vq1_v12
    have hin13 : ¬ ((2 : Int32) < 0 ∨ cl11.slots.size ≤ ((2 : Int32)).toNatClampNeg) := inb_of Sa11 ⟨by decide, by decide⟩
    have hat13 : cl11.slots[((2 : Int32)).toNatClampNeg]? = some (.long x2) := Has.at Ha11 hin13 rfl
    refine own_go (B := T10.setTop (mkF m 26 (LS_RIRRIuuuu r0 p1 r2 r3 p4) [(.long x2), (.int (p1 + (2 : Int32))), (.ref r0)])) (fun t k => ?_) ?_
    · show Steps p.tables e below (T10.setTop (mkF m 19 (LS_RIRRIuuuu r0 p1 r2 r3 p4) [])) _
      refine XS.aloadN X10.here hx rfl (hb hby d2_19) rfl rfl ?_
      show Steps p.tables e below (T10.setTop (mkF m 20 (LS_RIRRIuuuu r0 p1 r2 r3 p4) [(.ref r0)])) _
      refine XS.iloadN X10.here hx rfl (hb hby d2_20) rfl ?_
      show Steps p.tables e below (T10.setTop (mkF m 21 (LS_RIRRIuuuu r0 p1 r2 r3 p4) [(.int p1), (.ref r0)])) _
      refine XS.iconst X10.here hx rfl (hb hby d2_21) ?_
      show Steps p.tables e below (T10.setTop (mkF m 22 (LS_RIRRIuuuu r0 p1 r2 r3 p4) [(.int (2 : Int32)), (.int p1), (.ref r0)])) _
      refine XS.iadd X10.here hx rfl (hb hby d2_22) rfl ?_
      show Steps p.tables e below (T10.setTop (mkF m 23 (LS_RIRRIuuuu r0 p1 r2 r3 p4) [(.int (p1 + (2 : Int32))), (.ref r0)])) _
      refine XS.aloadN X10.here hx rfl (hb hby d2_23) rfl rfl ?_
      show Steps p.tables e below (T10.setTop (mkF m 24 (LS_RIRRIuuuu r0 p1 r2 r3 p4) [(.ref r2), (.int (p1 + (2 : Int32))), (.ref r0)])) _
      refine XS.iconst X10.here hx rfl (hb hby d2_24) ?_
      show Steps p.tables e below (T10.setTop (mkF m 25 (LS_RIRRIuuuu r0 p1 r2 r3 p4) [(.int (2 : Int32)), (.ref r2), (.int (p1 + (2 : Int32))), (.ref r0)])) _
      refine X10.laload hx (j := (2 : Int32)) (v := (.long x2)) (by rw [e10]; exact Ar11.1) (State.isArrayOf_alike hZ.alike Ar11.2.1) Ar11.2.2 hin13 hat13 (g := (mkF m 25 (LS_RIRRIuuuu r0 p1 r2 r3 p4) [(.int (2 : Int32)), (.ref r2), (.int (p1 + (2 : Int32))), (.ref r0)])) rfl rfl (hb hby d2_25) _ ?_
      exact k
    obtain ⟨cl14, Ar14, qa14, Sa14, Na14, Ha14, Ga14⟩ := id V10
    have hin15 : ¬ ((p1 + (2 : Int32)) < 0 ∨ cl14.slots.size ≤ ((p1 + (2 : Int32))).toNatClampNeg) := inb_of Sa14 hb2
    obtain ⟨T15, h15, X15, e15, W15, st15⟩ := stJ X10 hx hZ e10 Ar14 (j := (p1 + (2 : Int32))) hin15 (g := (mkF m 26 (LS_RIRRIuuuu r0 p1 r2 r3 p4) [(.long x2), (.int (p1 + (2 : Int32))), (.ref r0)])) rfl rfl (hb hby d2_26)
    have N15 := Fr.snoc X15 N10 g_r0
    have V15 : Arv Z h15 r0 kqb .long (21 : Int32) (((vs.set m0 (.long x0)).set m1 (.long x1)).set m2 (.long x2)) (.long (0 : Int64)) := Arv.set Ar14 qa14 Sa14 Na14 Ha14 Ga14 rfl W15 m2 hm2 (by simp only [List.length_set, hlen]; exact hl2)
    refine own_go (B := T15.setTop (mkF m 27 (LS_RIRRIuuuu r0 p1 r2 r3 p4) [])) (fun t k => st15 _ k) ?_
    have Vq1_v17 := Vq1_v12.other W15 ne2
    obtain ⟨cl16, Ar16, qa16, Sa16, Na16, Ha16, Ga16⟩ := id Vq1_v17
    have hin18 : ¬ ((3 : Int32) < 0 ∨ cl16.slots.size ≤ ((3 : Int32)).toNatClampNeg) := inb_of Sa16 ⟨by decide, by decide⟩
    have hat18 : cl16.slots[((3 : Int32)).toNatClampNeg]? = some (.long x3) := Has.at Ha16 hin18 rfl
    refine own_go (B := T15.setTop (mkF m 34 (LS_RIRRIuuuu r0 p1 r2 r3 p4) [(.long x3), (.int (p1 + (3 : Int32))), (.ref r0)])) (fun t k => ?_) ?_
    · show Steps p.tables e below (T15.setTop (mkF m 27 (LS_RIRRIuuuu r0 p1 r2 r3 p4) [])) _
      refine XS.aloadN X15.here hx rfl (hb hby d2_27) rfl rfl ?_
      show Steps p.tables e below (T15.setTop (mkF m 28 (LS_RIRRIuuuu r0 p1 r2 r3 p4) [(.ref r0)])) _
      refine XS.iloadN X15.here hx rfl (hb hby d2_28) rfl ?_
      show Steps p.tables e below (T15.setTop (mkF m 29 (LS_RIRRIuuuu r0 p1 r2 r3 p4) [(.int p1), (.ref r0)])) _
      refine XS.iconst X15.here hx rfl (hb hby d2_29) ?_
      show Steps p.tables e below (T15.setTop (mkF m 30 (LS_RIRRIuuuu r0 p1 r2 r3 p4) [(.int (3 : Int32)), (.int p1), (.ref r0)])) _
      refine XS.iadd X15.here hx rfl (hb hby d2_30) rfl ?_
      show Steps p.tables e below (T15.setTop (mkF m 31 (LS_RIRRIuuuu r0 p1 r2 r3 p4) [(.int (p1 + (3 : Int32))), (.ref r0)])) _
      refine XS.aloadN X15.here hx rfl (hb hby d2_31) rfl rfl ?_
      show Steps p.tables e below (T15.setTop (mkF m 32 (LS_RIRRIuuuu r0 p1 r2 r3 p4) [(.ref r2), (.int (p1 + (3 : Int32))), (.ref r0)])) _
      refine XS.iconst X15.here hx rfl (hb hby d2_32) ?_
      show Steps p.tables e below (T15.setTop (mkF m 33 (LS_RIRRIuuuu r0 p1 r2 r3 p4) [(.int (3 : Int32)), (.ref r2), (.int (p1 + (3 : Int32))), (.ref r0)])) _
      refine X15.laload hx (j := (3 : Int32)) (v := (.long x3)) (by rw [e15]; exact Ar16.1) (State.isArrayOf_alike hZ.alike Ar16.2.1) Ar16.2.2 hin18 hat18 (g := (mkF m 33 (LS_RIRRIuuuu r0 p1 r2 r3 p4) [(.int (3 : Int32)), (.ref r2), (.int (p1 + (3 : Int32))), (.ref r0)])) rfl rfl (hb hby d2_33) _ ?_
      exact k
    obtain ⟨cl19, Ar19, qa19, Sa19, Na19, Ha19, Ga19⟩ := id V15
    have hin20 : ¬ ((p1 + (3 : Int32)) < 0 ∨ cl19.slots.size ≤ ((p1 + (3 : Int32))).toNatClampNeg) := inb_of Sa19 hb3
    obtain ⟨T20, h20, X20, e20, W20, st20⟩ := stJ X15 hx hZ e15 Ar19 (j := (p1 + (3 : Int32))) hin20 (g := (mkF m 34 (LS_RIRRIuuuu r0 p1 r2 r3 p4) [(.long x3), (.int (p1 + (3 : Int32))), (.ref r0)])) rfl rfl (hb hby d2_34)
    have N20 := Fr.snoc X20 N15 g_r0
    have V20 : Arv Z h20 r0 kqb .long (21 : Int32) ((((vs.set m0 (.long x0)).set m1 (.long x1)).set m2 (.long x2)).set m3 (.long x3)) (.long (0 : Int64)) := Arv.set Ar19 qa19 Sa19 Na19 Ha19 Ga19 rfl W20 m3 hm3 (by simp only [List.length_set, hlen]; exact hl3)
    refine own_go (B := T20.setTop (mkF m 35 (LS_RIRRIuuuu r0 p1 r2 r3 p4) [])) (fun t k => st20 _ k) ?_
    have Vq1_v22 := Vq1_v17.other W20 ne2
    obtain ⟨cl21, Ar21, qa21, Sa21, Na21, Ha21, Ga21⟩ := id Vq1_v22
    have hin23 : ¬ ((4 : Int32) < 0 ∨ cl21.slots.size ≤ ((4 : Int32)).toNatClampNeg) := inb_of Sa21 ⟨by decide, by decide⟩
    have hat23 : cl21.slots[((4 : Int32)).toNatClampNeg]? = some (.long x4) := Has.at Ha21 hin23 rfl
    refine own_go (B := T20.setTop (mkF m 42 (LS_RIRRIuuuu r0 p1 r2 r3 p4) [(.long x4), (.int (p1 + (4 : Int32))), (.ref r0)])) (fun t k => ?_) ?_
    · show Steps p.tables e below (T20.setTop (mkF m 35 (LS_RIRRIuuuu r0 p1 r2 r3 p4) [])) _
      refine XS.aloadN X20.here hx rfl (hb hby d2_35) rfl rfl ?_
      show Steps p.tables e below (T20.setTop (mkF m 36 (LS_RIRRIuuuu r0 p1 r2 r3 p4) [(.ref r0)])) _
      refine XS.iloadN X20.here hx rfl (hb hby d2_36) rfl ?_
      show Steps p.tables e below (T20.setTop (mkF m 37 (LS_RIRRIuuuu r0 p1 r2 r3 p4) [(.int p1), (.ref r0)])) _
      refine XS.iconst X20.here hx rfl (hb hby d2_37) ?_
      show Steps p.tables e below (T20.setTop (mkF m 38 (LS_RIRRIuuuu r0 p1 r2 r3 p4) [(.int (4 : Int32)), (.int p1), (.ref r0)])) _
      refine XS.iadd X20.here hx rfl (hb hby d2_38) rfl ?_
      show Steps p.tables e below (T20.setTop (mkF m 39 (LS_RIRRIuuuu r0 p1 r2 r3 p4) [(.int (p1 + (4 : Int32))), (.ref r0)])) _
      refine XS.aloadN X20.here hx rfl (hb hby d2_39) rfl rfl ?_
      show Steps p.tables e below (T20.setTop (mkF m 40 (LS_RIRRIuuuu r0 p1 r2 r3 p4) [(.ref r2), (.int (p1 + (4 : Int32))), (.ref r0)])) _
      refine XS.iconst X20.here hx rfl (hb hby d2_40) ?_
      show Steps p.tables e below (T20.setTop (mkF m 41 (LS_RIRRIuuuu r0 p1 r2 r3 p4) [(.int (4 : Int32)), (.ref r2), (.int (p1 + (4 : Int32))), (.ref r0)])) _
      refine X20.laload hx (j := (4 : Int32)) (v := (.long x4)) (by rw [e20]; exact Ar21.1) (State.isArrayOf_alike hZ.alike Ar21.2.1) Ar21.2.2 hin23 hat23 (g := (mkF m 41 (LS_RIRRIuuuu r0 p1 r2 r3 p4) [(.int (4 : Int32)), (.ref r2), (.int (p1 + (4 : Int32))), (.ref r0)])) rfl rfl (hb hby d2_41) _ ?_
      exact k
    obtain ⟨cl24, Ar24, qa24, Sa24, Na24, Ha24, Ga24⟩ := id V20
    have hin25 : ¬ ((p1 + (4 : Int32)) < 0 ∨ cl24.slots.size ≤ ((p1 + (4 : Int32))).toNatClampNeg) := inb_of Sa24 hb4
    obtain ⟨T25, h25, X25, e25, W25, st25⟩ := stJ X20 hx hZ e20 Ar24 (j := (p1 + (4 : Int32))) hin25 (g := (mkF m 42 (LS_RIRRIuuuu r0 p1 r2 r3 p4) [(.long x4), (.int (p1 + (4 : Int32))), (.ref r0)])) rfl rfl (hb hby d2_42)
    have N25 := Fr.snoc X25 N20 g_r0
    have V25 : Arv Z h25 r0 kqb .long (21 : Int32) (((((vs.set m0 (.long x0)).set m1 (.long x1)).set m2 (.long x2)).set m3 (.long x3)).set m4 (.long x4)) (.long (0 : Int64)) := Arv.set Ar24 qa24 Sa24 Na24 Ha24 Ga24 rfl W25 m4 hm4 (by simp only [List.length_set, hlen]; exact hl4)
    refine own_go (B := T25.setTop (mkF m 43 (LS_RIRRIuuuu r0 p1 r2 r3 p4) [])) (fun t k => st25 _ k) ?_
    have Vq1_v27 := Vq1_v22.other W25 ne2
    obtain ⟨cl26, Ar26, qa26, Sa26, Na26, Ha26, Ga26⟩ := id Vq1_v27
    have hin28 : ¬ ((5 : Int32) < 0 ∨ cl26.slots.size ≤ ((5 : Int32)).toNatClampNeg) := inb_of Sa26 ⟨by decide, by decide⟩
    have hat28 : cl26.slots[((5 : Int32)).toNatClampNeg]? = some (.long x5) := Has.at Ha26 hin28 rfl
    refine own_go (B := T25.setTop (mkF m 50 (LS_RIRRIuuuu r0 p1 r2 r3 p4) [(.long x5), (.int (p1 + (5 : Int32))), (.ref r0)])) (fun t k => ?_) ?_
    · show Steps p.tables e below (T25.setTop (mkF m 43 (LS_RIRRIuuuu r0 p1 r2 r3 p4) [])) _
      refine XS.aloadN X25.here hx rfl (hb hby d2_43) rfl rfl ?_
      show Steps p.tables e below (T25.setTop (mkF m 44 (LS_RIRRIuuuu r0 p1 r2 r3 p4) [(.ref r0)])) _
      refine XS.iloadN X25.here hx rfl (hb hby d2_44) rfl ?_
      show Steps p.tables e below (T25.setTop (mkF m 45 (LS_RIRRIuuuu r0 p1 r2 r3 p4) [(.int p1), (.ref r0)])) _
      refine XS.iconst X25.here hx rfl (hb hby d2_45) ?_
      show Steps p.tables e below (T25.setTop (mkF m 46 (LS_RIRRIuuuu r0 p1 r2 r3 p4) [(.int (5 : Int32)), (.int p1), (.ref r0)])) _
      refine XS.iadd X25.here hx rfl (hb hby d2_46) rfl ?_
      show Steps p.tables e below (T25.setTop (mkF m 47 (LS_RIRRIuuuu r0 p1 r2 r3 p4) [(.int (p1 + (5 : Int32))), (.ref r0)])) _
      refine XS.aloadN X25.here hx rfl (hb hby d2_47) rfl rfl ?_
      show Steps p.tables e below (T25.setTop (mkF m 48 (LS_RIRRIuuuu r0 p1 r2 r3 p4) [(.ref r2), (.int (p1 + (5 : Int32))), (.ref r0)])) _
      refine XS.iconst X25.here hx rfl (hb hby d2_48) ?_
      show Steps p.tables e below (T25.setTop (mkF m 49 (LS_RIRRIuuuu r0 p1 r2 r3 p4) [(.int (5 : Int32)), (.ref r2), (.int (p1 + (5 : Int32))), (.ref r0)])) _
      refine X25.laload hx (j := (5 : Int32)) (v := (.long x5)) (by rw [e25]; exact Ar26.1) (State.isArrayOf_alike hZ.alike Ar26.2.1) Ar26.2.2 hin28 hat28 (g := (mkF m 49 (LS_RIRRIuuuu r0 p1 r2 r3 p4) [(.int (5 : Int32)), (.ref r2), (.int (p1 + (5 : Int32))), (.ref r0)])) rfl rfl (hb hby d2_49) _ ?_
      exact k
    obtain ⟨cl29, Ar29, qa29, Sa29, Na29, Ha29, Ga29⟩ := id V25
    have hin30 : ¬ ((p1 + (5 : Int32)) < 0 ∨ cl29.slots.size ≤ ((p1 + (5 : Int32))).toNatClampNeg) := inb_of Sa29 hb5
    obtain ⟨T30, h30, X30, e30, W30, st30⟩ := stJ X25 hx hZ e25 Ar29 (j := (p1 + (5 : Int32))) hin30 (g := (mkF m 50 (LS_RIRRIuuuu r0 p1 r2 r3 p4) [(.long x5), (.int (p1 + (5 : Int32))), (.ref r0)])) rfl rfl (hb hby d2_50)
    have N30 := Fr.snoc X30 N25 g_r0
    have V30 : Arv Z h30 r0 kqb .long (21 : Int32) ((((((vs.set m0 (.long x0)).set m1 (.long x1)).set m2 (.long x2)).set m3 (.long x3)).set m4 (.long x4)).set m5 (.long x5)) (.long (0 : Int64)) := Arv.set Ar29 qa29 Sa29 Na29 Ha29 Ga29 rfl W30 m5 hm5 (by simp only [List.length_set, hlen]; exact hl5)
    refine own_go (B := T30.setTop (mkF m 51 (LS_RIRRIuuuu r0 p1 r2 r3 p4) [])) (fun t k => st30 _ k) ?_
    have Vq1_v32 := Vq1_v27.other W30 ne2
    obtain ⟨cl31, Ar31, qa31, Sa31, Na31, Ha31, Ga31⟩ := id Vq1_v32
    have hin33 : ¬ ((6 : Int32) < 0 ∨ cl31.slots.size ≤ ((6 : Int32)).toNatClampNeg) := inb_of Sa31 ⟨by decide, by decide⟩
    have hat33 : cl31.slots[((6 : Int32)).toNatClampNeg]? = some (.long x6) := Has.at Ha31 hin33 rfl
    refine own_go (B := T30.setTop (mkF m 60 (LS_RIRRIuuuu r0 p1 r2 r3 p4) [(.long x6), (.int (p1 + (6 : Int32))), (.ref r0)])) (fun t k => ?_) ?_
    · show Steps p.tables e below (T30.setTop (mkF m 51 (LS_RIRRIuuuu r0 p1 r2 r3 p4) [])) _
      refine XS.aloadN X30.here hx rfl (hb hby d2_51) rfl rfl ?_
      show Steps p.tables e below (T30.setTop (mkF m 52 (LS_RIRRIuuuu r0 p1 r2 r3 p4) [(.ref r0)])) _
      refine XS.iloadN X30.here hx rfl (hb hby d2_52) rfl ?_
      show Steps p.tables e below (T30.setTop (mkF m 53 (LS_RIRRIuuuu r0 p1 r2 r3 p4) [(.int p1), (.ref r0)])) _
      refine XS.bipush X30.here hx rfl (hb hby d2_53) ?_
      show Steps p.tables e below (T30.setTop (mkF m 55 (LS_RIRRIuuuu r0 p1 r2 r3 p4) [(.int (6 : Int32)), (.int p1), (.ref r0)])) _
      refine XS.iadd X30.here hx rfl (hb hby d2_55) rfl ?_
      show Steps p.tables e below (T30.setTop (mkF m 56 (LS_RIRRIuuuu r0 p1 r2 r3 p4) [(.int (p1 + (6 : Int32))), (.ref r0)])) _
      refine XS.aloadN X30.here hx rfl (hb hby d2_56) rfl rfl ?_
      show Steps p.tables e below (T30.setTop (mkF m 57 (LS_RIRRIuuuu r0 p1 r2 r3 p4) [(.ref r2), (.int (p1 + (6 : Int32))), (.ref r0)])) _
      refine XS.bipush X30.here hx rfl (hb hby d2_57) ?_
      show Steps p.tables e below (T30.setTop (mkF m 59 (LS_RIRRIuuuu r0 p1 r2 r3 p4) [(.int (6 : Int32)), (.ref r2), (.int (p1 + (6 : Int32))), (.ref r0)])) _
      refine X30.laload hx (j := (6 : Int32)) (v := (.long x6)) (by rw [e30]; exact Ar31.1) (State.isArrayOf_alike hZ.alike Ar31.2.1) Ar31.2.2 hin33 hat33 (g := (mkF m 59 (LS_RIRRIuuuu r0 p1 r2 r3 p4) [(.int (6 : Int32)), (.ref r2), (.int (p1 + (6 : Int32))), (.ref r0)])) rfl rfl (hb hby d2_59) _ ?_
      exact k
    obtain ⟨cl34, Ar34, qa34, Sa34, Na34, Ha34, Ga34⟩ := id V30
    have hin35 : ¬ ((p1 + (6 : Int32)) < 0 ∨ cl34.slots.size ≤ ((p1 + (6 : Int32))).toNatClampNeg) := inb_of Sa34 hb6
    obtain ⟨T35, h35, X35, e35, W35, st35⟩ := stJ X30 hx hZ e30 Ar34 (j := (p1 + (6 : Int32))) hin35 (g := (mkF m 60 (LS_RIRRIuuuu r0 p1 r2 r3 p4) [(.long x6), (.int (p1 + (6 : Int32))), (.ref r0)])) rfl rfl (hb hby d2_60)
    have N35 := Fr.snoc X35 N30 g_r0
    have V35 : Arv Z h35 r0 kqb .long (21 : Int32) (((((((vs.set m0 (.long x0)).set m1 (.long x1)).set m2 (.long x2)).set m3 (.long x3)).set m4 (.long x4)).set m5 (.long x5)).set m6 (.long x6)) (.long (0 : Int64)) := Arv.set Ar34 qa34 Sa34 Na34 Ha34 Ga34 rfl W35 m6 hm6 (by simp only [List.length_set, hlen]; exact hl6)
    refine own_go (B := T35.setTop (mkF m 61 (LS_RIRRIuuuu r0 p1 r2 r3 p4) [])) (fun t k => st35 _ k) ?_
    obtain ⟨fs, hr, hrun, hended, hW, hsame⟩ := X35.leave (v := none) (fun _ => rfl)
    refine ⟨_, _, ?_, hrun, hended, _, _, rfl, ?_, ⟨_, rfl⟩, hW, hsame.mono (by decide) (by decide)⟩
    · show Steps p.tables e below (T35.setTop (mkF m 61 (LS_RIRRIuuuu r0 p1 r2 r3 p4) [])) _
      exact X35.returnOut hx Bd.returns (hb hby d2_61) hr
    · show Q2 Z r0 p1 r2 r3 p4 kqb kq1 kq2 vs m0 m1 m2 m3 m4 m5 m6 x0 x1 x2 x3 x4 x5 x6 h0 n0 _ T35.heap _
      rw [e35]
      have K0_v36 := K0.wr W5 (Or.inl (List.mem_of_getElem? (i := 0) rfl))
      have K0_v37 := K0_v36.wr W10 (Or.inl (List.mem_of_getElem? (i := 0) rfl))
      have K0_v38 := K0_v37.wr W15 (Or.inl (List.mem_of_getElem? (i := 0) rfl))
      have K0_v39 := K0_v38.wr W20 (Or.inl (List.mem_of_getElem? (i := 0) rfl))
      have K0_v40 := K0_v39.wr W25 (Or.inl (List.mem_of_getElem? (i := 0) rfl))
      have K0_v41 := K0_v40.wr W30 (Or.inl (List.mem_of_getElem? (i := 0) rfl))
      have K0_v42 := K0_v41.wr W35 (Or.inl (List.mem_of_getElem? (i := 0) rfl))
      exact ⟨x0, x1, x2, x3, x4, x5, x6, rfl, N35, K0_v42, V35, rfl, rfl, rfl, rfl, rfl, rfl, rfl⟩
  · obtain ⟨cl43, Ar43, qa43, Sa43, Na43, Ha43, Ga43⟩ := id Vq1
    have hin44 : ¬ ((0 : Int32) < 0 ∨ cl43.slots.size ≤ ((0 : Int32)).toNatClampNeg) := inb_of Sa43 ⟨by decide, by decide⟩
    have hat44 : cl43.slots[((0 : Int32)).toNatClampNeg]? = some (.long x0) := Has.at Ha43 hin44 rfl
    obtain ⟨cl45, Ar45, qa45, Sa45, Na45, Ha45, Ga45⟩ := id Vq2
    have hin46 : ¬ ((0 : Int32) < 0 ∨ cl45.slots.size ≤ ((0 : Int32)).toNatClampNeg) := inb_of Sa45 ⟨by decide, by decide⟩
    have hat46 : cl45.slots[((0 : Int32)).toNatClampNeg]? = some (.long (35747322042231467 : Int64)) := Has.at Ha45 hin46 rfl
    refine own_go (B := s₁.setTop (mkF m 76 (LS_RIRRIJsJs r0 p1 r2 r3 p4 (36028797018963967 : Int64) (x0 + (35747322042231467 : Int64))) [])) (fun t k => ?_) ?_
    · show Steps p.tables e below (s₁.setTop (mkF m 2 (LS_RIRRIuuuu r0 p1 r2 r3 p4) [(.int p4)])) _
      refine XS.ifYes X0.here hx rfl (pc0 := 2) (pc' := 62) rfl (hb hby d2_2) rfl ((if0 _ _).trans (feq hc2_1).2) (by decide) (by decide) ?_
      show Steps p.tables e below (s₁.setTop (mkF m 62 (LS_RIRRIuuuu r0 p1 r2 r3 p4) [])) _
      refine X0.ldc2Long hx hown (mvT hZ (hw _ (List.mem_of_getElem? (i := 0) rfl))) (g := (mkF m 62 (LS_RIRRIuuuu r0 p1 r2 r3 p4) [])) rfl (hb hby d2_62) _ ?_
      show Steps p.tables e below (s₁.setTop (mkF m 65 (LS_RIRRIuuuu r0 p1 r2 r3 p4) [(.long (36028797018963967 : Int64))])) _
      refine XS.lstore X0.here hx rfl (hb hby d2_65) rfl (l' := (LS_RIRRIJsuu r0 p1 r2 r3 p4 (36028797018963967 : Int64))) rfl ?_
      show Steps p.tables e below (s₁.setTop (mkF m 67 (LS_RIRRIJsuu r0 p1 r2 r3 p4 (36028797018963967 : Int64)) [])) _
      refine XS.aloadN X0.here hx rfl (hb hby d2_67) rfl rfl ?_
      show Steps p.tables e below (s₁.setTop (mkF m 68 (LS_RIRRIJsuu r0 p1 r2 r3 p4 (36028797018963967 : Int64)) [(.ref r2)])) _
      refine XS.iconst X0.here hx rfl (hb hby d2_68) ?_
      show Steps p.tables e below (s₁.setTop (mkF m 69 (LS_RIRRIJsuu r0 p1 r2 r3 p4 (36028797018963967 : Int64)) [(.int (0 : Int32)), (.ref r2)])) _
      refine X0.laload hx (j := (0 : Int32)) (v := (.long x0)) (by rw [e0]; exact Ar43.1) (State.isArrayOf_alike hZ.alike Ar43.2.1) Ar43.2.2 hin44 hat44 (g := (mkF m 69 (LS_RIRRIJsuu r0 p1 r2 r3 p4 (36028797018963967 : Int64)) [(.int (0 : Int32)), (.ref r2)])) rfl rfl (hb hby d2_69) _ ?_
      show Steps p.tables e below (s₁.setTop (mkF m 70 (LS_RIRRIJsuu r0 p1 r2 r3 p4 (36028797018963967 : Int64)) [(.long x0)])) _
      refine XS.aloadN X0.here hx rfl (hb hby d2_70) rfl rfl ?_
      show Steps p.tables e below (s₁.setTop (mkF m 71 (LS_RIRRIJsuu r0 p1 r2 r3 p4 (36028797018963967 : Int64)) [(.ref r3), (.long x0)])) _
      refine XS.iconst X0.here hx rfl (hb hby d2_71) ?_
      show Steps p.tables e below (s₁.setTop (mkF m 72 (LS_RIRRIJsuu r0 p1 r2 r3 p4 (36028797018963967 : Int64)) [(.int (0 : Int32)), (.ref r3), (.long x0)])) _
      refine X0.laload hx (j := (0 : Int32)) (v := (.long (35747322042231467 : Int64))) (by rw [e0]; exact Ar45.1) (State.isArrayOf_alike hZ.alike Ar45.2.1) Ar45.2.2 hin46 hat46 (g := (mkF m 72 (LS_RIRRIJsuu r0 p1 r2 r3 p4 (36028797018963967 : Int64)) [(.int (0 : Int32)), (.ref r3), (.long x0)])) rfl rfl (hb hby d2_72) _ ?_
      show Steps p.tables e below (s₁.setTop (mkF m 73 (LS_RIRRIJsuu r0 p1 r2 r3 p4 (36028797018963967 : Int64)) [(.long (35747322042231467 : Int64)), (.long x0)])) _
      refine XS.ladd X0.here hx rfl (hb hby d2_73) rfl ?_
      show Steps p.tables e below (s₁.setTop (mkF m 74 (LS_RIRRIJsuu r0 p1 r2 r3 p4 (36028797018963967 : Int64)) [(.long (x0 + (35747322042231467 : Int64)))])) _
      refine XS.lstore X0.here hx rfl (hb hby d2_74) rfl (l' := (LS_RIRRIJsJs r0 p1 r2 r3 p4 (36028797018963967 : Int64) (x0 + (35747322042231467 : Int64)))) rfl ?_
      exact k
    obtain ⟨z47, hz47⟩ : ∃ z, z = (x0 + (35747322042231467 : Int64)) := ⟨_, rfl⟩
    refine own_go (B := s₁.setTop (mkF m 76 (LS_RIRRIJsJs r0 p1 r2 r3 p4 (36028797018963967 : Int64) z47) [])) (fun t k => by rw [hz47] at k; exact k) ?_
    refine own_go (B := s₁.setTop (mkF m 83 (LS_RIRRIJsJs r0 p1 r2 r3 p4 (36028797018963967 : Int64) z47) [(.long (z47 &&& (36028797018963967 : Int64))), (.int p1), (.ref r0)])) (fun t k => ?_) ?_
    · show Steps p.tables e below (s₁.setTop (mkF m 76 (LS_RIRRIJsJs r0 p1 r2 r3 p4 (36028797018963967 : Int64) z47) [])) _
      refine XS.aloadN X0.here hx rfl (hb hby d2_76) rfl rfl ?_
      show Steps p.tables e below (s₁.setTop (mkF m 77 (LS_RIRRIJsJs r0 p1 r2 r3 p4 (36028797018963967 : Int64) z47) [(.ref r0)])) _
      refine XS.iloadN X0.here hx rfl (hb hby d2_77) rfl ?_
      show Steps p.tables e below (s₁.setTop (mkF m 78 (LS_RIRRIJsJs r0 p1 r2 r3 p4 (36028797018963967 : Int64) z47) [(.int p1), (.ref r0)])) _
      refine XS.lload X0.here hx rfl (hb hby d2_78) rfl ?_
      show Steps p.tables e below (s₁.setTop (mkF m 80 (LS_RIRRIJsJs r0 p1 r2 r3 p4 (36028797018963967 : Int64) z47) [(.long z47), (.int p1), (.ref r0)])) _
      refine XS.lload X0.here hx rfl (hb hby d2_80) rfl ?_
      show Steps p.tables e below (s₁.setTop (mkF m 82 (LS_RIRRIJsJs r0 p1 r2 r3 p4 (36028797018963967 : Int64) z47) [(.long (36028797018963967 : Int64)), (.long z47), (.int p1), (.ref r0)])) _
      refine XS.land X0.here hx rfl (hb hby d2_82) rfl ?_
      exact k
    obtain ⟨cl48, Ar48, qa48, Sa48, Na48, Ha48, Ga48⟩ := id Vqb
    have hin49 : ¬ (p1 < 0 ∨ cl48.slots.size ≤ (p1).toNatClampNeg) := inb_of Sa48 hb0
    obtain ⟨T49, h49, X49, e49, W49, st49⟩ := stJ X0 hx hZ e0 Ar48 (j := p1) hin49 (g := (mkF m 83 (LS_RIRRIJsJs r0 p1 r2 r3 p4 (36028797018963967 : Int64) z47) [(.long (z47 &&& (36028797018963967 : Int64))), (.int p1), (.ref r0)])) rfl rfl (hb hby d2_83)
    have N49 := Fr.snoc X49 N0 g_r0
    have V49 : Arv Z h49 r0 kqb .long (21 : Int32) (vs.set m0 (.long (z47 &&& (36028797018963967 : Int64)))) (.long (0 : Int64)) := Arv.set Ar48 qa48 Sa48 Na48 Ha48 Ga48 rfl W49 m0 hm0 (by simp only [List.length_set, hlen]; exact hl0)
    refine own_go (B := T49.setTop (mkF m 84 (LS_RIRRIJsJs r0 p1 r2 r3 p4 (36028797018963967 : Int64) z47) [])) (fun t k => st49 _ k) ?_
    have Vq1_v51 := Vq1.other W49 ne2
    obtain ⟨cl50, Ar50, qa50, Sa50, Na50, Ha50, Ga50⟩ := id Vq1_v51
    have hin52 : ¬ ((1 : Int32) < 0 ∨ cl50.slots.size ≤ ((1 : Int32)).toNatClampNeg) := inb_of Sa50 ⟨by decide, by decide⟩
    have hat52 : cl50.slots[((1 : Int32)).toNatClampNeg]? = some (.long x1) := Has.at Ha50 hin52 rfl
    have Vq2_v54 := Vq2.other W49 ne3
    obtain ⟨cl53, Ar53, qa53, Sa53, Na53, Ha53, Ga53⟩ := id Vq2_v54
    have hin55 : ¬ ((1 : Int32) < 0 ∨ cl53.slots.size ≤ ((1 : Int32)).toNatClampNeg) := inb_of Sa53 ⟨by decide, by decide⟩
    have hat55 : cl53.slots[((1 : Int32)).toNatClampNeg]? = some (.long (36025922209447795 : Int64)) := Has.at Ha53 hin55 rfl
    refine own_go (B := T49.setTop (mkF m 99 (LS_RIRRIJsJs r0 p1 r2 r3 p4 (36028797018963967 : Int64) ((x1 + (36025922209447795 : Int64)) + ((z47.toUInt64 >>> ((55 : Int32) &&& 0x3f).toInt64.toUInt64).toInt64))) [])) (fun t k => ?_) ?_
    · show Steps p.tables e below (T49.setTop (mkF m 84 (LS_RIRRIJsJs r0 p1 r2 r3 p4 (36028797018963967 : Int64) z47) [])) _
      refine XS.aloadN X49.here hx rfl (hb hby d2_84) rfl rfl ?_
      show Steps p.tables e below (T49.setTop (mkF m 85 (LS_RIRRIJsJs r0 p1 r2 r3 p4 (36028797018963967 : Int64) z47) [(.ref r2)])) _
      refine XS.iconst X49.here hx rfl (hb hby d2_85) ?_
      show Steps p.tables e below (T49.setTop (mkF m 86 (LS_RIRRIJsJs r0 p1 r2 r3 p4 (36028797018963967 : Int64) z47) [(.int (1 : Int32)), (.ref r2)])) _
      refine X49.laload hx (j := (1 : Int32)) (v := (.long x1)) (by rw [e49]; exact Ar50.1) (State.isArrayOf_alike hZ.alike Ar50.2.1) Ar50.2.2 hin52 hat52 (g := (mkF m 86 (LS_RIRRIJsJs r0 p1 r2 r3 p4 (36028797018963967 : Int64) z47) [(.int (1 : Int32)), (.ref r2)])) rfl rfl (hb hby d2_86) _ ?_
      show Steps p.tables e below (T49.setTop (mkF m 87 (LS_RIRRIJsJs r0 p1 r2 r3 p4 (36028797018963967 : Int64) z47) [(.long x1)])) _
      refine XS.aloadN X49.here hx rfl (hb hby d2_87) rfl rfl ?_
      show Steps p.tables e below (T49.setTop (mkF m 88 (LS_RIRRIJsJs r0 p1 r2 r3 p4 (36028797018963967 : Int64) z47) [(.ref r3), (.long x1)])) _
      refine XS.iconst X49.here hx rfl (hb hby d2_88) ?_
      show Steps p.tables e below (T49.setTop (mkF m 89 (LS_RIRRIJsJs r0 p1 r2 r3 p4 (36028797018963967 : Int64) z47) [(.int (1 : Int32)), (.ref r3), (.long x1)])) _
      refine X49.laload hx (j := (1 : Int32)) (v := (.long (36025922209447795 : Int64))) (by rw [e49]; exact Ar53.1) (State.isArrayOf_alike hZ.alike Ar53.2.1) Ar53.2.2 hin55 hat55 (g := (mkF m 89 (LS_RIRRIJsJs r0 p1 r2 r3 p4 (36028797018963967 : Int64) z47) [(.int (1 : Int32)), (.ref r3), (.long x1)])) rfl rfl (hb hby d2_89) _ ?_
      show Steps p.tables e below (T49.setTop (mkF m 90 (LS_RIRRIJsJs r0 p1 r2 r3 p4 (36028797018963967 : Int64) z47) [(.long (36025922209447795 : Int64)), (.long x1)])) _
      refine XS.ladd X49.here hx rfl (hb hby d2_90) rfl ?_
      show Steps p.tables e below (T49.setTop (mkF m 91 (LS_RIRRIJsJs r0 p1 r2 r3 p4 (36028797018963967 : Int64) z47) [(.long (x1 + (36025922209447795 : Int64)))])) _
      refine XS.lload X49.here hx rfl (hb hby d2_91) rfl ?_
      show Steps p.tables e below (T49.setTop (mkF m 93 (LS_RIRRIJsJs r0 p1 r2 r3 p4 (36028797018963967 : Int64) z47) [(.long z47), (.long (x1 + (36025922209447795 : Int64)))])) _
      refine XS.bipush X49.here hx rfl (hb hby d2_93) ?_
      show Steps p.tables e below (T49.setTop (mkF m 95 (LS_RIRRIJsJs r0 p1 r2 r3 p4 (36028797018963967 : Int64) z47) [(.int (55 : Int32)), (.long z47), (.long (x1 + (36025922209447795 : Int64)))])) _
      refine XS.lushr X49.here hx rfl (hb hby d2_95) rfl ?_
      show Steps p.tables e below (T49.setTop (mkF m 96 (LS_RIRRIJsJs r0 p1 r2 r3 p4 (36028797018963967 : Int64) z47) [(.long ((z47.toUInt64 >>> ((55 : Int32) &&& 0x3f).toInt64.toUInt64).toInt64)), (.long (x1 + (36025922209447795 : Int64)))])) _
      refine XS.ladd X49.here hx rfl (hb hby d2_96) rfl ?_
      show Steps p.tables e below (T49.setTop (mkF m 97 (LS_RIRRIJsJs r0 p1 r2 r3 p4 (36028797018963967 : Int64) z47) [(.long ((x1 + (36025922209447795 : Int64)) + ((z47.toUInt64 >>> ((55 : Int32) &&& 0x3f).toInt64.toUInt64).toInt64)))])) _
      refine XS.lstore X49.here hx rfl (hb hby d2_97) rfl (l' := (LS_RIRRIJsJs r0 p1 r2 r3 p4 (36028797018963967 : Int64) ((x1 + (36025922209447795 : Int64)) + ((z47.toUInt64 >>> ((55 : Int32) &&& 0x3f).toInt64.toUInt64).toInt64)))) rfl ?_
      exact k
    obtain ⟨z56, hz56⟩ : ∃ z, z = ((x1 + (36025922209447795 : Int64)) + ((z47.toUInt64 >>> ((55 : Int32) &&& 0x3f).toInt64.toUInt64).toInt64)) := ⟨_, rfl⟩
    refine own_go (B := T49.setTop (mkF m 99 (LS_RIRRIJsJs r0 p1 r2 r3 p4 (36028797018963967 : Int64) z56) [])) (fun t k => by rw [hz56] at k; exact k) ?_
    refine own_go (B := T49.setTop (mkF m 108 (LS_RIRRIJsJs r0 p1 r2 r3 p4 (36028797018963967 : Int64) z56) [(.long (z56 &&& (36028797018963967 : Int64))), (.int (p1 + (1 : Int32))), (.ref r0)])) (fun t k => ?_) ?_
    · show Steps p.tables e below (T49.setTop (mkF m 99 (LS_RIRRIJsJs r0 p1 r2 r3 p4 (36028797018963967 : Int64) z56) [])) _
      refine XS.aloadN X49.here hx rfl (hb hby d2_99) rfl rfl ?_
      show Steps p.tables e below (T49.setTop (mkF m 100 (LS_RIRRIJsJs r0 p1 r2 r3 p4 (36028797018963967 : Int64) z56) [(.ref r0)])) _
      refine XS.iloadN X49.here hx rfl (hb hby d2_100) rfl ?_
      show Steps p.tables e below (T49.setTop (mkF m 101 (LS_RIRRIJsJs r0 p1 r2 r3 p4 (36028797018963967 : Int64) z56) [(.int p1), (.ref r0)])) _
      refine XS.iconst X49.here hx rfl (hb hby d2_101) ?_
      show Steps p.tables e below (T49.setTop (mkF m 102 (LS_RIRRIJsJs r0 p1 r2 r3 p4 (36028797018963967 : Int64) z56) [(.int (1 : Int32)), (.int p1), (.ref r0)])) _
      refine XS.iadd X49.here hx rfl (hb hby d2_102) rfl ?_
      show Steps p.tables e below (T49.setTop (mkF m 103 (LS_RIRRIJsJs r0 p1 r2 r3 p4 (36028797018963967 : Int64) z56) [(.int (p1 + (1 : Int32))), (.ref r0)])) _
      refine XS.lload X49.here hx rfl (hb hby d2_103) rfl ?_
      show Steps p.tables e below (T49.setTop (mkF m 105 (LS_RIRRIJsJs r0 p1 r2 r3 p4 (36028797018963967 : Int64) z56) [(.long z56), (.int (p1 + (1 : Int32))), (.ref r0)])) _
      refine XS.lload X49.here hx rfl (hb hby d2_105) rfl ?_
      show Steps p.tables e below (T49.setTop (mkF m 107 (LS_RIRRIJsJs r0 p1 r2 r3 p4 (36028797018963967 : Int64) z56) [(.long (36028797018963967 : Int64)), (.long z56), (.int (p1 + (1 : Int32))), (.ref r0)])) _
      refine XS.land X49.here hx rfl (hb hby d2_107) rfl ?_
      exact k
    obtain ⟨cl57, Ar57, qa57, Sa57, Na57, Ha57, Ga57⟩ := id V49
    have hin58 : ¬ ((p1 + (1 : Int32)) < 0 ∨ cl57.slots.size ≤ ((p1 + (1 : Int32))).toNatClampNeg) := inb_of Sa57 hb1
    obtain ⟨T58, h58, X58, e58, W58, st58⟩ := stJ X49 hx hZ e49 Ar57 (j := (p1 + (1 : Int32))) hin58 (g := (mkF m 108 (LS_RIRRIJsJs r0 p1 r2 r3 p4 (36028797018963967 : Int64) z56) [(.long (z56 &&& (36028797018963967 : Int64))), (.int (p1 + (1 : Int32))), (.ref r0)])) rfl rfl (hb hby d2_108)
    have N58 := Fr.snoc X58 N49 g_r0
    have V58 : Arv Z h58 r0 kqb .long (21 : Int32) ((vs.set m0 (.long (z47 &&& (36028797018963967 : Int64)))).set m1 (.long (z56 &&& (36028797018963967 : Int64)))) (.long (0 : Int64)) := Arv.set Ar57 qa57 Sa57 Na57 Ha57 Ga57 rfl W58 m1 hm1 (by simp only [List.length_set, hlen]; exact hl1)
    refine own_go (B := T58.setTop (mkF m 109 (LS_RIRRIJsJs r0 p1 r2 r3 p4 (36028797018963967 : Int64) z56) [])) (fun t k => st58 _ k) ?_
    have Vq1_v60 := Vq1_v51.other W58 ne2
    obtain ⟨cl59, Ar59, qa59, Sa59, Na59, Ha59, Ga59⟩ := id Vq1_v60
    have hin61 : ¬ ((2 : Int32) < 0 ∨ cl59.slots.size ≤ ((2 : Int32)).toNatClampNeg) := inb_of Sa59 ⟨by decide, by decide⟩
    have hat61 : cl59.slots[((2 : Int32)).toNatClampNeg]? = some (.long x2) := Has.at Ha59 hin61 rfl
    have Vq2_v63 := Vq2_v54.other W58 ne3
    obtain ⟨cl62, Ar62, qa62, Sa62, Na62, Ha62, Ga62⟩ := id Vq2_v63
    have hin64 : ¬ ((2 : Int32) < 0 ∨ cl62.slots.size ≤ ((2 : Int32)).toNatClampNeg) := inb_of Sa62 ⟨by decide, by decide⟩
    have hat64 : cl62.slots[((2 : Int32)).toNatClampNeg]? = some (.long (1084959616957103 : Int64)) := Has.at Ha62 hin64 rfl
    refine own_go (B := T58.setTop (mkF m 124 (LS_RIRRIJsJs r0 p1 r2 r3 p4 (36028797018963967 : Int64) ((x2 + (1084959616957103 : Int64)) + ((z56.toUInt64 >>> ((55 : Int32) &&& 0x3f).toInt64.toUInt64).toInt64))) [])) (fun t k => ?_) ?_
    · show Steps p.tables e below (T58.setTop (mkF m 109 (LS_RIRRIJsJs r0 p1 r2 r3 p4 (36028797018963967 : Int64) z56) [])) _
      refine XS.aloadN X58.here hx rfl (hb hby d2_109) rfl rfl ?_
      show Steps p.tables e below (T58.setTop (mkF m 110 (LS_RIRRIJsJs r0 p1 r2 r3 p4 (36028797018963967 : Int64) z56) [(.ref r2)])) _
      refine XS.iconst X58.here hx rfl (hb hby d2_110) ?_
      show Steps p.tables e below (T58.setTop (mkF m 111 (LS_RIRRIJsJs r0 p1 r2 r3 p4 (36028797018963967 : Int64) z56) [(.int (2 : Int32)), (.ref r2)])) _
      refine X58.laload hx (j := (2 : Int32)) (v := (.long x2)) (by rw [e58]; exact Ar59.1) (State.isArrayOf_alike hZ.alike Ar59.2.1) Ar59.2.2 hin61 hat61 (g := (mkF m 111 (LS_RIRRIJsJs r0 p1 r2 r3 p4 (36028797018963967 : Int64) z56) [(.int (2 : Int32)), (.ref r2)])) rfl rfl (hb hby d2_111) _ ?_
      show Steps p.tables e below (T58.setTop (mkF m 112 (LS_RIRRIJsJs r0 p1 r2 r3 p4 (36028797018963967 : Int64) z56) [(.long x2)])) _
      refine XS.aloadN X58.here hx rfl (hb hby d2_112) rfl rfl ?_
      show Steps p.tables e below (T58.setTop (mkF m 113 (LS_RIRRIJsJs r0 p1 r2 r3 p4 (36028797018963967 : Int64) z56) [(.ref r3), (.long x2)])) _
      refine XS.iconst X58.here hx rfl (hb hby d2_113) ?_
      show Steps p.tables e below (T58.setTop (mkF m 114 (LS_RIRRIJsJs r0 p1 r2 r3 p4 (36028797018963967 : Int64) z56) [(.int (2 : Int32)), (.ref r3), (.long x2)])) _
      refine X58.laload hx (j := (2 : Int32)) (v := (.long (1084959616957103 : Int64))) (by rw [e58]; exact Ar62.1) (State.isArrayOf_alike hZ.alike Ar62.2.1) Ar62.2.2 hin64 hat64 (g := (mkF m 114 (LS_RIRRIJsJs r0 p1 r2 r3 p4 (36028797018963967 : Int64) z56) [(.int (2 : Int32)), (.ref r3), (.long x2)])) rfl rfl (hb hby d2_114) _ ?_
      show Steps p.tables e below (T58.setTop (mkF m 115 (LS_RIRRIJsJs r0 p1 r2 r3 p4 (36028797018963967 : Int64) z56) [(.long (1084959616957103 : Int64)), (.long x2)])) _
      refine XS.ladd X58.here hx rfl (hb hby d2_115) rfl ?_
      show Steps p.tables e below (T58.setTop (mkF m 116 (LS_RIRRIJsJs r0 p1 r2 r3 p4 (36028797018963967 : Int64) z56) [(.long (x2 + (1084959616957103 : Int64)))])) _
      refine XS.lload X58.here hx rfl (hb hby d2_116) rfl ?_
      show Steps p.tables e below (T58.setTop (mkF m 118 (LS_RIRRIJsJs r0 p1 r2 r3 p4 (36028797018963967 : Int64) z56) [(.long z56), (.long (x2 + (1084959616957103 : Int64)))])) _
      refine XS.bipush X58.here hx rfl (hb hby d2_118) ?_
      show Steps p.tables e below (T58.setTop (mkF m 120 (LS_RIRRIJsJs r0 p1 r2 r3 p4 (36028797018963967 : Int64) z56) [(.int (55 : Int32)), (.long z56), (.long (x2 + (1084959616957103 : Int64)))])) _
      refine XS.lushr X58.here hx rfl (hb hby d2_120) rfl ?_
      show Steps p.tables e below (T58.setTop (mkF m 121 (LS_RIRRIJsJs r0 p1 r2 r3 p4 (36028797018963967 : Int64) z56) [(.long ((z56.toUInt64 >>> ((55 : Int32) &&& 0x3f).toInt64.toUInt64).toInt64)), (.long (x2 + (1084959616957103 : Int64)))])) _
      refine XS.ladd X58.here hx rfl (hb hby d2_121) rfl ?_
      show Steps p.tables e below (T58.setTop (mkF m 122 (LS_RIRRIJsJs r0 p1 r2 r3 p4 (36028797018963967 : Int64) z56) [(.long ((x2 + (1084959616957103 : Int64)) + ((z56.toUInt64 >>> ((55 : Int32) &&& 0x3f).toInt64.toUInt64).toInt64)))])) _
      refine XS.lstore X58.here hx rfl (hb hby d2_122) rfl (l' := (LS_RIRRIJsJs r0 p1 r2 r3 p4 (36028797018963967 : Int64) ((x2 + (1084959616957103 : Int64)) + ((z56.toUInt64 >>> ((55 : Int32) &&& 0x3f).toInt64.toUInt64).toInt64)))) rfl ?_
      exact k
    obtain ⟨z65, hz65⟩ : ∃ z, z = ((x2 + (1084959616957103 : Int64)) + ((z56.toUInt64 >>> ((55 : Int32) &&& 0x3f).toInt64.toUInt64).toInt64)) := ⟨_, rfl⟩
    refine own_go (B := T58.setTop (mkF m 124 (LS_RIRRIJsJs r0 p1 r2 r3 p4 (36028797018963967 : Int64) z65) [])) (fun t k => by rw [hz65] at k; exact k) ?_
    refine own_go (B := T58.setTop (mkF m 133 (LS_RIRRIJsJs r0 p1 r2 r3 p4 (36028797018963967 : Int64) z65) [(.long (z65 &&& (36028797018963967 : Int64))), (.int (p1 + (2 : Int32))), (.ref r0)])) (fun t k => ?_) ?_
    · show Steps p.tables e below (T58.setTop (mkF m 124 (LS_RIRRIJsJs r0 p1 r2 r3 p4 (36028797018963967 : Int64) z65) [])) _
      refine XS.aloadN X58.here hx rfl (hb hby d2_124) rfl rfl ?_
      show Steps p.tables e below (T58.setTop (mkF m 125 (LS_RIRRIJsJs r0 p1 r2 r3 p4 (36028797018963967 : Int64) z65) [(.ref r0)])) _
      refine XS.iloadN X58.here hx rfl (hb hby d2_125) rfl ?_
      show Steps p.tables e below (T58.setTop (mkF m 126 (LS_RIRRIJsJs r0 p1 r2 r3 p4 (36028797018963967 : Int64) z65) [(.int p1), (.ref r0)])) _
      refine XS.iconst X58.here hx rfl (hb hby d2_126) ?_
      show Steps p.tables e below (T58.setTop (mkF m 127 (LS_RIRRIJsJs r0 p1 r2 r3 p4 (36028797018963967 : Int64) z65) [(.int (2 : Int32)), (.int p1), (.ref r0)])) _
      refine XS.iadd X58.here hx rfl (hb hby d2_127) rfl ?_
      show Steps p.tables e below (T58.setTop (mkF m 128 (LS_RIRRIJsJs r0 p1 r2 r3 p4 (36028797018963967 : Int64) z65) [(.int (p1 + (2 : Int32))), (.ref r0)])) _
      refine XS.lload X58.here hx rfl (hb hby d2_128) rfl ?_
      show Steps p.tables e below (T58.setTop (mkF m 130 (LS_RIRRIJsJs r0 p1 r2 r3 p4 (36028797018963967 : Int64) z65) [(.long z65), (.int (p1 + (2 : Int32))), (.ref r0)])) _
      refine XS.lload X58.here hx rfl (hb hby d2_130) rfl ?_
      show Steps p.tables e below (T58.setTop (mkF m 132 (LS_RIRRIJsJs r0 p1 r2 r3 p4 (36028797018963967 : Int64) z65) [(.long (36028797018963967 : Int64)), (.long z65), (.int (p1 + (2 : Int32))), (.ref r0)])) _
      refine XS.land X58.here hx rfl (hb hby d2_132) rfl ?_
      exact k
    obtain ⟨cl66, Ar66, qa66, Sa66, Na66, Ha66, Ga66⟩ := id V58
    have hin67 : ¬ ((p1 + (2 : Int32)) < 0 ∨ cl66.slots.size ≤ ((p1 + (2 : Int32))).toNatClampNeg) := inb_of Sa66 hb2
    obtain ⟨T67, h67, X67, e67, W67, st67⟩ := stJ X58 hx hZ e58 Ar66 (j := (p1 + (2 : Int32))) hin67 (g := (mkF m 133 (LS_RIRRIJsJs r0 p1 r2 r3 p4 (36028797018963967 : Int64) z65) [(.long (z65 &&& (36028797018963967 : Int64))), (.int (p1 + (2 : Int32))), (.ref r0)])) rfl rfl (hb hby d2_133)
    have N67 := Fr.snoc X67 N58 g_r0
    have V67 : Arv Z h67 r0 kqb .long (21 : Int32) (((vs.set m0 (.long (z47 &&& (36028797018963967 : Int64)))).set m1 (.long (z56 &&& (36028797018963967 : Int64)))).set m2 (.long (z65 &&& (36028797018963967 : Int64)))) (.long (0 : Int64)) := Arv.set Ar66 qa66 Sa66 Na66 Ha66 Ga66 rfl W67 m2 hm2 (by simp only [List.length_set, hlen]; exact hl2)
    refine own_go (B := T67.setTop (mkF m 134 (LS_RIRRIJsJs r0 p1 r2 r3 p4 (36028797018963967 : Int64) z65) [])) (fun t k => st67 _ k) ?_
    have Vq1_v69 := Vq1_v60.other W67 ne2
    obtain ⟨cl68, Ar68, qa68, Sa68, Na68, Ha68, Ga68⟩ := id Vq1_v69
    have hin70 : ¬ ((3 : Int32) < 0 ∨ cl68.slots.size ≤ ((3 : Int32)).toNatClampNeg) := inb_of Sa68 ⟨by decide, by decide⟩
    have hat70 : cl68.slots[((3 : Int32)).toNatClampNeg]? = some (.long x3) := Has.at Ha68 hin70 rfl
    have Vq2_v72 := Vq2_v63.other W67 ne3
    obtain ⟨cl71, Ar71, qa71, Sa71, Na71, Ha71, Ga71⟩ := id Vq2_v72
    have hin73 : ¬ ((3 : Int32) < 0 ∨ cl71.slots.size ≤ ((3 : Int32)).toNatClampNeg) := inb_of Sa71 ⟨by decide, by decide⟩
    have hat73 : cl71.slots[((3 : Int32)).toNatClampNeg]? = some (.long (7925923977987733 : Int64)) := Has.at Ha71 hin73 rfl
    refine own_go (B := T67.setTop (mkF m 149 (LS_RIRRIJsJs r0 p1 r2 r3 p4 (36028797018963967 : Int64) ((x3 + (7925923977987733 : Int64)) + ((z65.toUInt64 >>> ((55 : Int32) &&& 0x3f).toInt64.toUInt64).toInt64))) [])) (fun t k => ?_) ?_
    · show Steps p.tables e below (T67.setTop (mkF m 134 (LS_RIRRIJsJs r0 p1 r2 r3 p4 (36028797018963967 : Int64) z65) [])) _
      refine XS.aloadN X67.here hx rfl (hb hby d2_134) rfl rfl ?_
      show Steps p.tables e below (T67.setTop (mkF m 135 (LS_RIRRIJsJs r0 p1 r2 r3 p4 (36028797018963967 : Int64) z65) [(.ref r2)])) _
      refine XS.iconst X67.here hx rfl (hb hby d2_135) ?_
      show Steps p.tables e below (T67.setTop (mkF m 136 (LS_RIRRIJsJs r0 p1 r2 r3 p4 (36028797018963967 : Int64) z65) [(.int (3 : Int32)), (.ref r2)])) _
      refine X67.laload hx (j := (3 : Int32)) (v := (.long x3)) (by rw [e67]; exact Ar68.1) (State.isArrayOf_alike hZ.alike Ar68.2.1) Ar68.2.2 hin70 hat70 (g := (mkF m 136 (LS_RIRRIJsJs r0 p1 r2 r3 p4 (36028797018963967 : Int64) z65) [(.int (3 : Int32)), (.ref r2)])) rfl rfl (hb hby d2_136) _ ?_
      show Steps p.tables e below (T67.setTop (mkF m 137 (LS_RIRRIJsJs r0 p1 r2 r3 p4 (36028797018963967 : Int64) z65) [(.long x3)])) _
      refine XS.aloadN X67.here hx rfl (hb hby d2_137) rfl rfl ?_
      show Steps p.tables e below (T67.setTop (mkF m 138 (LS_RIRRIJsJs r0 p1 r2 r3 p4 (36028797018963967 : Int64) z65) [(.ref r3), (.long x3)])) _
      refine XS.iconst X67.here hx rfl (hb hby d2_138) ?_
      show Steps p.tables e below (T67.setTop (mkF m 139 (LS_RIRRIJsJs r0 p1 r2 r3 p4 (36028797018963967 : Int64) z65) [(.int (3 : Int32)), (.ref r3), (.long x3)])) _
      refine X67.laload hx (j := (3 : Int32)) (v := (.long (7925923977987733 : Int64))) (by rw [e67]; exact Ar71.1) (State.isArrayOf_alike hZ.alike Ar71.2.1) Ar71.2.2 hin73 hat73 (g := (mkF m 139 (LS_RIRRIJsJs r0 p1 r2 r3 p4 (36028797018963967 : Int64) z65) [(.int (3 : Int32)), (.ref r3), (.long x3)])) rfl rfl (hb hby d2_139) _ ?_
      show Steps p.tables e below (T67.setTop (mkF m 140 (LS_RIRRIJsJs r0 p1 r2 r3 p4 (36028797018963967 : Int64) z65) [(.long (7925923977987733 : Int64)), (.long x3)])) _
      refine XS.ladd X67.here hx rfl (hb hby d2_140) rfl ?_
      show Steps p.tables e below (T67.setTop (mkF m 141 (LS_RIRRIJsJs r0 p1 r2 r3 p4 (36028797018963967 : Int64) z65) [(.long (x3 + (7925923977987733 : Int64)))])) _
      refine XS.lload X67.here hx rfl (hb hby d2_141) rfl ?_
      show Steps p.tables e below (T67.setTop (mkF m 143 (LS_RIRRIJsJs r0 p1 r2 r3 p4 (36028797018963967 : Int64) z65) [(.long z65), (.long (x3 + (7925923977987733 : Int64)))])) _
      refine XS.bipush X67.here hx rfl (hb hby d2_143) ?_
      show Steps p.tables e below (T67.setTop (mkF m 145 (LS_RIRRIJsJs r0 p1 r2 r3 p4 (36028797018963967 : Int64) z65) [(.int (55 : Int32)), (.long z65), (.long (x3 + (7925923977987733 : Int64)))])) _
      refine XS.lushr X67.here hx rfl (hb hby d2_145) rfl ?_
      show Steps p.tables e below (T67.setTop (mkF m 146 (LS_RIRRIJsJs r0 p1 r2 r3 p4 (36028797018963967 : Int64) z65) [(.long ((z65.toUInt64 >>> ((55 : Int32) &&& 0x3f).toInt64.toUInt64).toInt64)), (.long (x3 + (7925923977987733 : Int64)))])) _
      refine XS.ladd X67.here hx rfl (hb hby d2_146) rfl ?_
      show Steps p.tables e below (T67.setTop (mkF m 147 (LS_RIRRIJsJs r0 p1 r2 r3 p4 (36028797018963967 : Int64) z65) [(.long ((x3 + (7925923977987733 : Int64)) + ((z65.toUInt64 >>> ((55 : Int32) &&& 0x3f).toInt64.toUInt64).toInt64)))])) _
      refine XS.lstore X67.here hx rfl (hb hby d2_147) rfl (l' := (LS_RIRRIJsJs r0 p1 r2 r3 p4 (36028797018963967 : Int64) ((x3 + (7925923977987733 : Int64)) + ((z65.toUInt64 >>> ((55 : Int32) &&& 0x3f).toInt64.toUInt64).toInt64)))) rfl ?_
      exact k
    obtain ⟨z74, hz74⟩ : ∃ z, z = ((x3 + (7925923977987733 : Int64)) + ((z65.toUInt64 >>> ((55 : Int32) &&& 0x3f).toInt64.toUInt64).toInt64)) := ⟨_, rfl⟩
    refine own_go (B := T67.setTop (mkF m 149 (LS_RIRRIJsJs r0 p1 r2 r3 p4 (36028797018963967 : Int64) z74) [])) (fun t k => by rw [hz74] at k; exact k) ?_
    refine own_go (B := T67.setTop (mkF m 158 (LS_RIRRIJsJs r0 p1 r2 r3 p4 (36028797018963967 : Int64) z74) [(.long (z74 &&& (36028797018963967 : Int64))), (.int (p1 + (3 : Int32))), (.ref r0)])) (fun t k => ?_) ?_
    · show Steps p.tables e below (T67.setTop (mkF m 149 (LS_RIRRIJsJs r0 p1 r2 r3 p4 (36028797018963967 : Int64) z74) [])) _
      refine XS.aloadN X67.here hx rfl (hb hby d2_149) rfl rfl ?_
      show Steps p.tables e below (T67.setTop (mkF m 150 (LS_RIRRIJsJs r0 p1 r2 r3 p4 (36028797018963967 : Int64) z74) [(.ref r0)])) _
      refine XS.iloadN X67.here hx rfl (hb hby d2_150) rfl ?_
      show Steps p.tables e below (T67.setTop (mkF m 151 (LS_RIRRIJsJs r0 p1 r2 r3 p4 (36028797018963967 : Int64) z74) [(.int p1), (.ref r0)])) _
      refine XS.iconst X67.here hx rfl (hb hby d2_151) ?_
      show Steps p.tables e below (T67.setTop (mkF m 152 (LS_RIRRIJsJs r0 p1 r2 r3 p4 (36028797018963967 : Int64) z74) [(.int (3 : Int32)), (.int p1), (.ref r0)])) _
      refine XS.iadd X67.here hx rfl (hb hby d2_152) rfl ?_
      show Steps p.tables e below (T67.setTop (mkF m 153 (LS_RIRRIJsJs r0 p1 r2 r3 p4 (36028797018963967 : Int64) z74) [(.int (p1 + (3 : Int32))), (.ref r0)])) _
      refine XS.lload X67.here hx rfl (hb hby d2_153) rfl ?_
      show Steps p.tables e below (T67.setTop (mkF m 155 (LS_RIRRIJsJs r0 p1 r2 r3 p4 (36028797018963967 : Int64) z74) [(.long z74), (.int (p1 + (3 : Int32))), (.ref r0)])) _
      refine XS.lload X67.here hx rfl (hb hby d2_155) rfl ?_
      show Steps p.tables e below (T67.setTop (mkF m 157 (LS_RIRRIJsJs r0 p1 r2 r3 p4 (36028797018963967 : Int64) z74) [(.long (36028797018963967 : Int64)), (.long z74), (.int (p1 + (3 : Int32))), (.ref r0)])) _
      refine XS.land X67.here hx rfl (hb hby d2_157) rfl ?_
      exact k
    obtain ⟨cl75, Ar75, qa75, Sa75, Na75, Ha75, Ga75⟩ := id V67
    have hin76 : ¬ ((p1 + (3 : Int32)) < 0 ∨ cl75.slots.size ≤ ((p1 + (3 : Int32))).toNatClampNeg) := inb_of Sa75 hb3
    obtain ⟨T76, h76, X76, e76, W76, st76⟩ := stJ X67 hx hZ e67 Ar75 (j := (p1 + (3 : Int32))) hin76 (g := (mkF m 158 (LS_RIRRIJsJs r0 p1 r2 r3 p4 (36028797018963967 : Int64) z74) [(.long (z74 &&& (36028797018963967 : Int64))), (.int (p1 + (3 : Int32))), (.ref r0)])) rfl rfl (hb hby d2_158)
    have N76 := Fr.snoc X76 N67 g_r0
    have V76 : Arv Z h76 r0 kqb .long (21 : Int32) ((((vs.set m0 (.long (z47 &&& (36028797018963967 : Int64)))).set m1 (.long (z56 &&& (36028797018963967 : Int64)))).set m2 (.long (z65 &&& (36028797018963967 : Int64)))).set m3 (.long (z74 &&& (36028797018963967 : Int64)))) (.long (0 : Int64)) := Arv.set Ar75 qa75 Sa75 Na75 Ha75 Ga75 rfl W76 m3 hm3 (by simp only [List.length_set, hlen]; exact hl3)
    refine own_go (B := T76.setTop (mkF m 159 (LS_RIRRIJsJs r0 p1 r2 r3 p4 (36028797018963967 : Int64) z74) [])) (fun t k => st76 _ k) ?_
    have Vq1_v78 := Vq1_v69.other W76 ne2
    obtain ⟨cl77, Ar77, qa77, Sa77, Na77, Ha77, Ga77⟩ := id Vq1_v78
    have hin79 : ¬ ((4 : Int32) < 0 ∨ cl77.slots.size ≤ ((4 : Int32)).toNatClampNeg) := inb_of Sa77 ⟨by decide, by decide⟩
    have hat79 : cl77.slots[((4 : Int32)).toNatClampNeg]? = some (.long x4) := Has.at Ha77 hin79 rfl
    have Vq2_v81 := Vq2_v72.other W76 ne3
    obtain ⟨cl80, Ar80, qa80, Sa80, Na80, Ha80, Ga80⟩ := id Vq2_v81
    have hin82 : ¬ ((4 : Int32) < 0 ∨ cl80.slots.size ≤ ((4 : Int32)).toNatClampNeg) := inb_of Sa80 ⟨by decide, by decide⟩
    have hat82 : cl80.slots[((4 : Int32)).toNatClampNeg]? = some (.long (16551456537884751 : Int64)) := Has.at Ha80 hin82 rfl
    refine own_go (B := T76.setTop (mkF m 174 (LS_RIRRIJsJs r0 p1 r2 r3 p4 (36028797018963967 : Int64) ((x4 + (16551456537884751 : Int64)) + ((z74.toUInt64 >>> ((55 : Int32) &&& 0x3f).toInt64.toUInt64).toInt64))) [])) (fun t k => ?_) ?_
    · show Steps p.tables e below (T76.setTop (mkF m 159 (LS_RIRRIJsJs r0 p1 r2 r3 p4 (36028797018963967 : Int64) z74) [])) _
      refine XS.aloadN X76.here hx rfl (hb hby d2_159) rfl rfl ?_
      show Steps p.tables e below (T76.setTop (mkF m 160 (LS_RIRRIJsJs r0 p1 r2 r3 p4 (36028797018963967 : Int64) z74) [(.ref r2)])) _
      refine XS.iconst X76.here hx rfl (hb hby d2_160) ?_
      show Steps p.tables e below (T76.setTop (mkF m 161 (LS_RIRRIJsJs r0 p1 r2 r3 p4 (36028797018963967 : Int64) z74) [(.int (4 : Int32)), (.ref r2)])) _
      refine X76.laload hx (j := (4 : Int32)) (v := (.long x4)) (by rw [e76]; exact Ar77.1) (State.isArrayOf_alike hZ.alike Ar77.2.1) Ar77.2.2 hin79 hat79 (g := (mkF m 161 (LS_RIRRIJsJs r0 p1 r2 r3 p4 (36028797018963967 : Int64) z74) [(.int (4 : Int32)), (.ref r2)])) rfl rfl (hb hby d2_161) _ ?_
      show Steps p.tables e below (T76.setTop (mkF m 162 (LS_RIRRIJsJs r0 p1 r2 r3 p4 (36028797018963967 : Int64) z74) [(.long x4)])) _
      refine XS.aloadN X76.here hx rfl (hb hby d2_162) rfl rfl ?_
      show Steps p.tables e below (T76.setTop (mkF m 163 (LS_RIRRIJsJs r0 p1 r2 r3 p4 (36028797018963967 : Int64) z74) [(.ref r3), (.long x4)])) _
      refine XS.iconst X76.here hx rfl (hb hby d2_163) ?_
      show Steps p.tables e below (T76.setTop (mkF m 164 (LS_RIRRIJsJs r0 p1 r2 r3 p4 (36028797018963967 : Int64) z74) [(.int (4 : Int32)), (.ref r3), (.long x4)])) _
      refine X76.laload hx (j := (4 : Int32)) (v := (.long (16551456537884751 : Int64))) (by rw [e76]; exact Ar80.1) (State.isArrayOf_alike hZ.alike Ar80.2.1) Ar80.2.2 hin82 hat82 (g := (mkF m 164 (LS_RIRRIJsJs r0 p1 r2 r3 p4 (36028797018963967 : Int64) z74) [(.int (4 : Int32)), (.ref r3), (.long x4)])) rfl rfl (hb hby d2_164) _ ?_
      show Steps p.tables e below (T76.setTop (mkF m 165 (LS_RIRRIJsJs r0 p1 r2 r3 p4 (36028797018963967 : Int64) z74) [(.long (16551456537884751 : Int64)), (.long x4)])) _
      refine XS.ladd X76.here hx rfl (hb hby d2_165) rfl ?_
      show Steps p.tables e below (T76.setTop (mkF m 166 (LS_RIRRIJsJs r0 p1 r2 r3 p4 (36028797018963967 : Int64) z74) [(.long (x4 + (16551456537884751 : Int64)))])) _
      refine XS.lload X76.here hx rfl (hb hby d2_166) rfl ?_
      show Steps p.tables e below (T76.setTop (mkF m 168 (LS_RIRRIJsJs r0 p1 r2 r3 p4 (36028797018963967 : Int64) z74) [(.long z74), (.long (x4 + (16551456537884751 : Int64)))])) _
      refine XS.bipush X76.here hx rfl (hb hby d2_168) ?_
      show Steps p.tables e below (T76.setTop (mkF m 170 (LS_RIRRIJsJs r0 p1 r2 r3 p4 (36028797018963967 : Int64) z74) [(.int (55 : Int32)), (.long z74), (.long (x4 + (16551456537884751 : Int64)))])) _
      refine XS.lushr X76.here hx rfl (hb hby d2_170) rfl ?_
      show Steps p.tables e below (T76.setTop (mkF m 171 (LS_RIRRIJsJs r0 p1 r2 r3 p4 (36028797018963967 : Int64) z74) [(.long ((z74.toUInt64 >>> ((55 : Int32) &&& 0x3f).toInt64.toUInt64).toInt64)), (.long (x4 + (16551456537884751 : Int64)))])) _
      refine XS.ladd X76.here hx rfl (hb hby d2_171) rfl ?_
      show Steps p.tables e below (T76.setTop (mkF m 172 (LS_RIRRIJsJs r0 p1 r2 r3 p4 (36028797018963967 : Int64) z74) [(.long ((x4 + (16551456537884751 : Int64)) + ((z74.toUInt64 >>> ((55 : Int32) &&& 0x3f).toInt64.toUInt64).toInt64)))])) _
      refine XS.lstore X76.here hx rfl (hb hby d2_172) rfl (l' := (LS_RIRRIJsJs r0 p1 r2 r3 p4 (36028797018963967 : Int64) ((x4 + (16551456537884751 : Int64)) + ((z74.toUInt64 >>> ((55 : Int32) &&& 0x3f).toInt64.toUInt64).toInt64)))) rfl ?_
      exact k
    obtain ⟨z83, hz83⟩ : ∃ z, z = ((x4 + (16551456537884751 : Int64)) + ((z74.toUInt64 >>> ((55 : Int32) &&& 0x3f).toInt64.toUInt64).toInt64)) := ⟨_, rfl⟩
    refine own_go (B := T76.setTop (mkF m 174 (LS_RIRRIJsJs r0 p1 r2 r3 p4 (36028797018963967 : Int64) z83) [])) (fun t k => by rw [hz83] at k; exact k) ?_
    refine own_go (B := T76.setTop (mkF m 183 (LS_RIRRIJsJs r0 p1 r2 r3 p4 (36028797018963967 : Int64) z83) [(.long (z83 &&& (36028797018963967 : Int64))), (.int (p1 + (4 : Int32))), (.ref r0)])) (fun t k => ?_) ?_
    · show Steps p.tables e below (T76.setTop (mkF m 174 (LS_RIRRIJsJs r0 p1 r2 r3 p4 (36028797018963967 : Int64) z83) [])) _
      refine XS.aloadN X76.here hx rfl (hb hby d2_174) rfl rfl ?_
      show Steps p.tables e below (T76.setTop (mkF m 175 (LS_RIRRIJsJs r0 p1 r2 r3 p4 (36028797018963967 : Int64) z83) [(.ref r0)])) _
      refine XS.iloadN X76.here hx rfl (hb hby d2_175) rfl ?_
      show Steps p.tables e below (T76.setTop (mkF m 176 (LS_RIRRIJsJs r0 p1 r2 r3 p4 (36028797018963967 : Int64) z83) [(.int p1), (.ref r0)])) _
      refine XS.iconst X76.here hx rfl (hb hby d2_176) ?_
      show Steps p.tables e below (T76.setTop (mkF m 177 (LS_RIRRIJsJs r0 p1 r2 r3 p4 (36028797018963967 : Int64) z83) [(.int (4 : Int32)), (.int p1), (.ref r0)])) _
      refine XS.iadd X76.here hx rfl (hb hby d2_177) rfl ?_
      show Steps p.tables e below (T76.setTop (mkF m 178 (LS_RIRRIJsJs r0 p1 r2 r3 p4 (36028797018963967 : Int64) z83) [(.int (p1 + (4 : Int32))), (.ref r0)])) _
      refine XS.lload X76.here hx rfl (hb hby d2_178) rfl ?_
      show Steps p.tables e below (T76.setTop (mkF m 180 (LS_RIRRIJsJs r0 p1 r2 r3 p4 (36028797018963967 : Int64) z83) [(.long z83), (.int (p1 + (4 : Int32))), (.ref r0)])) _
      refine XS.lload X76.here hx rfl (hb hby d2_180) rfl ?_
      show Steps p.tables e below (T76.setTop (mkF m 182 (LS_RIRRIJsJs r0 p1 r2 r3 p4 (36028797018963967 : Int64) z83) [(.long (36028797018963967 : Int64)), (.long z83), (.int (p1 + (4 : Int32))), (.ref r0)])) _
      refine XS.land X76.here hx rfl (hb hby d2_182) rfl ?_
      exact k
    obtain ⟨cl84, Ar84, qa84, Sa84, Na84, Ha84, Ga84⟩ := id V76
    have hin85 : ¬ ((p1 + (4 : Int32)) < 0 ∨ cl84.slots.size ≤ ((p1 + (4 : Int32))).toNatClampNeg) := inb_of Sa84 hb4
    obtain ⟨T85, h85, X85, e85, W85, st85⟩ := stJ X76 hx hZ e76 Ar84 (j := (p1 + (4 : Int32))) hin85 (g := (mkF m 183 (LS_RIRRIJsJs r0 p1 r2 r3 p4 (36028797018963967 : Int64) z83) [(.long (z83 &&& (36028797018963967 : Int64))), (.int (p1 + (4 : Int32))), (.ref r0)])) rfl rfl (hb hby d2_183)
    have N85 := Fr.snoc X85 N76 g_r0
    have V85 : Arv Z h85 r0 kqb .long (21 : Int32) (((((vs.set m0 (.long (z47 &&& (36028797018963967 : Int64)))).set m1 (.long (z56 &&& (36028797018963967 : Int64)))).set m2 (.long (z65 &&& (36028797018963967 : Int64)))).set m3 (.long (z74 &&& (36028797018963967 : Int64)))).set m4 (.long (z83 &&& (36028797018963967 : Int64)))) (.long (0 : Int64)) := Arv.set Ar84 qa84 Sa84 Na84 Ha84 Ga84 rfl W85 m4 hm4 (by simp only [List.length_set, hlen]; exact hl4)
    refine own_go (B := T85.setTop (mkF m 184 (LS_RIRRIJsJs r0 p1 r2 r3 p4 (36028797018963967 : Int64) z83) [])) (fun t k => st85 _ k) ?_
    have Vq1_v87 := Vq1_v78.other W85 ne2
    obtain ⟨cl86, Ar86, qa86, Sa86, Na86, Ha86, Ga86⟩ := id Vq1_v87
    have hin88 : ¬ ((5 : Int32) < 0 ∨ cl86.slots.size ≤ ((5 : Int32)).toNatClampNeg) := inb_of Sa86 ⟨by decide, by decide⟩
    have hat88 : cl86.slots[((5 : Int32)).toNatClampNeg]? = some (.long x5) := Has.at Ha86 hin88 rfl
    have Vq2_v90 := Vq2_v81.other W85 ne3
    obtain ⟨cl89, Ar89, qa89, Sa89, Na89, Ha89, Ga89⟩ := id Vq2_v90
    have hin91 : ¬ ((5 : Int32) < 0 ∨ cl89.slots.size ≤ ((5 : Int32)).toNatClampNeg) := inb_of Sa89 ⟨by decide, by decide⟩
    have hat91 : cl89.slots[((5 : Int32)).toNatClampNeg]? = some (.long (23443114579904617 : Int64)) := Has.at Ha89 hin91 rfl
    refine own_go (B := T85.setTop (mkF m 199 (LS_RIRRIJsJs r0 p1 r2 r3 p4 (36028797018963967 : Int64) ((x5 + (23443114579904617 : Int64)) + ((z83.toUInt64 >>> ((55 : Int32) &&& 0x3f).toInt64.toUInt64).toInt64))) [])) (fun t k => ?_) ?_
    · show Steps p.tables e below (T85.setTop (mkF m 184 (LS_RIRRIJsJs r0 p1 r2 r3 p4 (36028797018963967 : Int64) z83) [])) _
      refine XS.aloadN X85.here hx rfl (hb hby d2_184) rfl rfl ?_
      show Steps p.tables e below (T85.setTop (mkF m 185 (LS_RIRRIJsJs r0 p1 r2 r3 p4 (36028797018963967 : Int64) z83) [(.ref r2)])) _
      refine XS.iconst X85.here hx rfl (hb hby d2_185) ?_
      show Steps p.tables e below (T85.setTop (mkF m 186 (LS_RIRRIJsJs r0 p1 r2 r3 p4 (36028797018963967 : Int64) z83) [(.int (5 : Int32)), (.ref r2)])) _
      refine X85.laload hx (j := (5 : Int32)) (v := (.long x5)) (by rw [e85]; exact Ar86.1) (State.isArrayOf_alike hZ.alike Ar86.2.1) Ar86.2.2 hin88 hat88 (g := (mkF m 186 (LS_RIRRIJsJs r0 p1 r2 r3 p4 (36028797018963967 : Int64) z83) [(.int (5 : Int32)), (.ref r2)])) rfl rfl (hb hby d2_186) _ ?_
      show Steps p.tables e below (T85.setTop (mkF m 187 (LS_RIRRIJsJs r0 p1 r2 r3 p4 (36028797018963967 : Int64) z83) [(.long x5)])) _
      refine XS.aloadN X85.here hx rfl (hb hby d2_187) rfl rfl ?_
      show Steps p.tables e below (T85.setTop (mkF m 188 (LS_RIRRIJsJs r0 p1 r2 r3 p4 (36028797018963967 : Int64) z83) [(.ref r3), (.long x5)])) _
      refine XS.iconst X85.here hx rfl (hb hby d2_188) ?_
      show Steps p.tables e below (T85.setTop (mkF m 189 (LS_RIRRIJsJs r0 p1 r2 r3 p4 (36028797018963967 : Int64) z83) [(.int (5 : Int32)), (.ref r3), (.long x5)])) _
      refine X85.laload hx (j := (5 : Int32)) (v := (.long (23443114579904617 : Int64))) (by rw [e85]; exact Ar89.1) (State.isArrayOf_alike hZ.alike Ar89.2.1) Ar89.2.2 hin91 hat91 (g := (mkF m 189 (LS_RIRRIJsJs r0 p1 r2 r3 p4 (36028797018963967 : Int64) z83) [(.int (5 : Int32)), (.ref r3), (.long x5)])) rfl rfl (hb hby d2_189) _ ?_
      show Steps p.tables e below (T85.setTop (mkF m 190 (LS_RIRRIJsJs r0 p1 r2 r3 p4 (36028797018963967 : Int64) z83) [(.long (23443114579904617 : Int64)), (.long x5)])) _
      refine XS.ladd X85.here hx rfl (hb hby d2_190) rfl ?_
      show Steps p.tables e below (T85.setTop (mkF m 191 (LS_RIRRIJsJs r0 p1 r2 r3 p4 (36028797018963967 : Int64) z83) [(.long (x5 + (23443114579904617 : Int64)))])) _
      refine XS.lload X85.here hx rfl (hb hby d2_191) rfl ?_
      show Steps p.tables e below (T85.setTop (mkF m 193 (LS_RIRRIJsJs r0 p1 r2 r3 p4 (36028797018963967 : Int64) z83) [(.long z83), (.long (x5 + (23443114579904617 : Int64)))])) _
      refine XS.bipush X85.here hx rfl (hb hby d2_193) ?_
      show Steps p.tables e below (T85.setTop (mkF m 195 (LS_RIRRIJsJs r0 p1 r2 r3 p4 (36028797018963967 : Int64) z83) [(.int (55 : Int32)), (.long z83), (.long (x5 + (23443114579904617 : Int64)))])) _
      refine XS.lushr X85.here hx rfl (hb hby d2_195) rfl ?_
      show Steps p.tables e below (T85.setTop (mkF m 196 (LS_RIRRIJsJs r0 p1 r2 r3 p4 (36028797018963967 : Int64) z83) [(.long ((z83.toUInt64 >>> ((55 : Int32) &&& 0x3f).toInt64.toUInt64).toInt64)), (.long (x5 + (23443114579904617 : Int64)))])) _
      refine XS.ladd X85.here hx rfl (hb hby d2_196) rfl ?_
      show Steps p.tables e below (T85.setTop (mkF m 197 (LS_RIRRIJsJs r0 p1 r2 r3 p4 (36028797018963967 : Int64) z83) [(.long ((x5 + (23443114579904617 : Int64)) + ((z83.toUInt64 >>> ((55 : Int32) &&& 0x3f).toInt64.toUInt64).toInt64)))])) _
      refine XS.lstore X85.here hx rfl (hb hby d2_197) rfl (l' := (LS_RIRRIJsJs r0 p1 r2 r3 p4 (36028797018963967 : Int64) ((x5 + (23443114579904617 : Int64)) + ((z83.toUInt64 >>> ((55 : Int32) &&& 0x3f).toInt64.toUInt64).toInt64)))) rfl ?_
      exact k
    obtain ⟨z92, hz92⟩ : ∃ z, z = ((x5 + (23443114579904617 : Int64)) + ((z83.toUInt64 >>> ((55 : Int32) &&& 0x3f).toInt64.toUInt64).toInt64)) := ⟨_, rfl⟩
    refine own_go (B := T85.setTop (mkF m 199 (LS_RIRRIJsJs r0 p1 r2 r3 p4 (36028797018963967 : Int64) z92) [])) (fun t k => by rw [hz92] at k; exact k) ?_
    refine own_go (B := T85.setTop (mkF m 208 (LS_RIRRIJsJs r0 p1 r2 r3 p4 (36028797018963967 : Int64) z92) [(.long (z92 &&& (36028797018963967 : Int64))), (.int (p1 + (5 : Int32))), (.ref r0)])) (fun t k => ?_) ?_
    · show Steps p.tables e below (T85.setTop (mkF m 199 (LS_RIRRIJsJs r0 p1 r2 r3 p4 (36028797018963967 : Int64) z92) [])) _
      refine XS.aloadN X85.here hx rfl (hb hby d2_199) rfl rfl ?_
      show Steps p.tables e below (T85.setTop (mkF m 200 (LS_RIRRIJsJs r0 p1 r2 r3 p4 (36028797018963967 : Int64) z92) [(.ref r0)])) _
      refine XS.iloadN X85.here hx rfl (hb hby d2_200) rfl ?_
      show Steps p.tables e below (T85.setTop (mkF m 201 (LS_RIRRIJsJs r0 p1 r2 r3 p4 (36028797018963967 : Int64) z92) [(.int p1), (.ref r0)])) _
      refine XS.iconst X85.here hx rfl (hb hby d2_201) ?_
      show Steps p.tables e below (T85.setTop (mkF m 202 (LS_RIRRIJsJs r0 p1 r2 r3 p4 (36028797018963967 : Int64) z92) [(.int (5 : Int32)), (.int p1), (.ref r0)])) _
      refine XS.iadd X85.here hx rfl (hb hby d2_202) rfl ?_
      show Steps p.tables e below (T85.setTop (mkF m 203 (LS_RIRRIJsJs r0 p1 r2 r3 p4 (36028797018963967 : Int64) z92) [(.int (p1 + (5 : Int32))), (.ref r0)])) _
      refine XS.lload X85.here hx rfl (hb hby d2_203) rfl ?_
      show Steps p.tables e below (T85.setTop (mkF m 205 (LS_RIRRIJsJs r0 p1 r2 r3 p4 (36028797018963967 : Int64) z92) [(.long z92), (.int (p1 + (5 : Int32))), (.ref r0)])) _
      refine XS.lload X85.here hx rfl (hb hby d2_205) rfl ?_
      show Steps p.tables e below (T85.setTop (mkF m 207 (LS_RIRRIJsJs r0 p1 r2 r3 p4 (36028797018963967 : Int64) z92) [(.long (36028797018963967 : Int64)), (.long z92), (.int (p1 + (5 : Int32))), (.ref r0)])) _
      refine XS.land X85.here hx rfl (hb hby d2_207) rfl ?_
      exact k
    obtain ⟨cl93, Ar93, qa93, Sa93, Na93, Ha93, Ga93⟩ := id V85
    have hin94 : ¬ ((p1 + (5 : Int32)) < 0 ∨ cl93.slots.size ≤ ((p1 + (5 : Int32))).toNatClampNeg) := inb_of Sa93 hb5
    obtain ⟨T94, h94, X94, e94, W94, st94⟩ := stJ X85 hx hZ e85 Ar93 (j := (p1 + (5 : Int32))) hin94 (g := (mkF m 208 (LS_RIRRIJsJs r0 p1 r2 r3 p4 (36028797018963967 : Int64) z92) [(.long (z92 &&& (36028797018963967 : Int64))), (.int (p1 + (5 : Int32))), (.ref r0)])) rfl rfl (hb hby d2_208)
    have N94 := Fr.snoc X94 N85 g_r0
    have V94 : Arv Z h94 r0 kqb .long (21 : Int32) ((((((vs.set m0 (.long (z47 &&& (36028797018963967 : Int64)))).set m1 (.long (z56 &&& (36028797018963967 : Int64)))).set m2 (.long (z65 &&& (36028797018963967 : Int64)))).set m3 (.long (z74 &&& (36028797018963967 : Int64)))).set m4 (.long (z83 &&& (36028797018963967 : Int64)))).set m5 (.long (z92 &&& (36028797018963967 : Int64)))) (.long (0 : Int64)) := Arv.set Ar93 qa93 Sa93 Na93 Ha93 Ga93 rfl W94 m5 hm5 (by simp only [List.length_set, hlen]; exact hl5)
    refine own_go (B := T94.setTop (mkF m 209 (LS_RIRRIJsJs r0 p1 r2 r3 p4 (36028797018963967 : Int64) z92) [])) (fun t k => st94 _ k) ?_
    have Vq1_v96 := Vq1_v87.other W94 ne2
    obtain ⟨cl95, Ar95, qa95, Sa95, Na95, Ha95, Ga95⟩ := id Vq1_v96
    have hin97 : ¬ ((6 : Int32) < 0 ∨ cl95.slots.size ≤ ((6 : Int32)).toNatClampNeg) := inb_of Sa95 ⟨by decide, by decide⟩
    have hat97 : cl95.slots[((6 : Int32)).toNatClampNeg]? = some (.long x6) := Has.at Ha95 hin97 rfl
    have Vq2_v99 := Vq2_v90.other W94 ne3
    obtain ⟨cl98, Ar98, qa98, Sa98, Na98, Ha98, Ga98⟩ := id Vq2_v99
    have hin100 : ¬ ((6 : Int32) < 0 ∨ cl98.slots.size ≤ ((6 : Int32)).toNatClampNeg) := inb_of Sa98 ⟨by decide, by decide⟩
    have hat100 : cl98.slots[((6 : Int32)).toNatClampNeg]? = some (.long (1829881462546425 : Int64)) := Has.at Ha98 hin100 rfl
    refine own_go (B := T94.setTop (mkF m 226 (LS_RIRRIJsJs r0 p1 r2 r3 p4 (36028797018963967 : Int64) ((x6 + (1829881462546425 : Int64)) + ((z92.toUInt64 >>> ((55 : Int32) &&& 0x3f).toInt64.toUInt64).toInt64))) [])) (fun t k => ?_) ?_
    · show Steps p.tables e below (T94.setTop (mkF m 209 (LS_RIRRIJsJs r0 p1 r2 r3 p4 (36028797018963967 : Int64) z92) [])) _
      refine XS.aloadN X94.here hx rfl (hb hby d2_209) rfl rfl ?_
      show Steps p.tables e below (T94.setTop (mkF m 210 (LS_RIRRIJsJs r0 p1 r2 r3 p4 (36028797018963967 : Int64) z92) [(.ref r2)])) _
      refine XS.bipush X94.here hx rfl (hb hby d2_210) ?_
      show Steps p.tables e below (T94.setTop (mkF m 212 (LS_RIRRIJsJs r0 p1 r2 r3 p4 (36028797018963967 : Int64) z92) [(.int (6 : Int32)), (.ref r2)])) _
      refine X94.laload hx (j := (6 : Int32)) (v := (.long x6)) (by rw [e94]; exact Ar95.1) (State.isArrayOf_alike hZ.alike Ar95.2.1) Ar95.2.2 hin97 hat97 (g := (mkF m 212 (LS_RIRRIJsJs r0 p1 r2 r3 p4 (36028797018963967 : Int64) z92) [(.int (6 : Int32)), (.ref r2)])) rfl rfl (hb hby d2_212) _ ?_
      show Steps p.tables e below (T94.setTop (mkF m 213 (LS_RIRRIJsJs r0 p1 r2 r3 p4 (36028797018963967 : Int64) z92) [(.long x6)])) _
      refine XS.aloadN X94.here hx rfl (hb hby d2_213) rfl rfl ?_
      show Steps p.tables e below (T94.setTop (mkF m 214 (LS_RIRRIJsJs r0 p1 r2 r3 p4 (36028797018963967 : Int64) z92) [(.ref r3), (.long x6)])) _
      refine XS.bipush X94.here hx rfl (hb hby d2_214) ?_
      show Steps p.tables e below (T94.setTop (mkF m 216 (LS_RIRRIJsJs r0 p1 r2 r3 p4 (36028797018963967 : Int64) z92) [(.int (6 : Int32)), (.ref r3), (.long x6)])) _
      refine X94.laload hx (j := (6 : Int32)) (v := (.long (1829881462546425 : Int64))) (by rw [e94]; exact Ar98.1) (State.isArrayOf_alike hZ.alike Ar98.2.1) Ar98.2.2 hin100 hat100 (g := (mkF m 216 (LS_RIRRIJsJs r0 p1 r2 r3 p4 (36028797018963967 : Int64) z92) [(.int (6 : Int32)), (.ref r3), (.long x6)])) rfl rfl (hb hby d2_216) _ ?_
      show Steps p.tables e below (T94.setTop (mkF m 217 (LS_RIRRIJsJs r0 p1 r2 r3 p4 (36028797018963967 : Int64) z92) [(.long (1829881462546425 : Int64)), (.long x6)])) _
      refine XS.ladd X94.here hx rfl (hb hby d2_217) rfl ?_
      show Steps p.tables e below (T94.setTop (mkF m 218 (LS_RIRRIJsJs r0 p1 r2 r3 p4 (36028797018963967 : Int64) z92) [(.long (x6 + (1829881462546425 : Int64)))])) _
      refine XS.lload X94.here hx rfl (hb hby d2_218) rfl ?_
      show Steps p.tables e below (T94.setTop (mkF m 220 (LS_RIRRIJsJs r0 p1 r2 r3 p4 (36028797018963967 : Int64) z92) [(.long z92), (.long (x6 + (1829881462546425 : Int64)))])) _
      refine XS.bipush X94.here hx rfl (hb hby d2_220) ?_
      show Steps p.tables e below (T94.setTop (mkF m 222 (LS_RIRRIJsJs r0 p1 r2 r3 p4 (36028797018963967 : Int64) z92) [(.int (55 : Int32)), (.long z92), (.long (x6 + (1829881462546425 : Int64)))])) _
      refine XS.lushr X94.here hx rfl (hb hby d2_222) rfl ?_
      show Steps p.tables e below (T94.setTop (mkF m 223 (LS_RIRRIJsJs r0 p1 r2 r3 p4 (36028797018963967 : Int64) z92) [(.long ((z92.toUInt64 >>> ((55 : Int32) &&& 0x3f).toInt64.toUInt64).toInt64)), (.long (x6 + (1829881462546425 : Int64)))])) _
      refine XS.ladd X94.here hx rfl (hb hby d2_223) rfl ?_
      show Steps p.tables e below (T94.setTop (mkF m 224 (LS_RIRRIJsJs r0 p1 r2 r3 p4 (36028797018963967 : Int64) z92) [(.long ((x6 + (1829881462546425 : Int64)) + ((z92.toUInt64 >>> ((55 : Int32) &&& 0x3f).toInt64.toUInt64).toInt64)))])) _
      refine XS.lstore X94.here hx rfl (hb hby d2_224) rfl (l' := (LS_RIRRIJsJs r0 p1 r2 r3 p4 (36028797018963967 : Int64) ((x6 + (1829881462546425 : Int64)) + ((z92.toUInt64 >>> ((55 : Int32) &&& 0x3f).toInt64.toUInt64).toInt64)))) rfl ?_
      exact k
    obtain ⟨z101, hz101⟩ : ∃ z, z = ((x6 + (1829881462546425 : Int64)) + ((z92.toUInt64 >>> ((55 : Int32) &&& 0x3f).toInt64.toUInt64).toInt64)) := ⟨_, rfl⟩
    refine own_go (B := T94.setTop (mkF m 226 (LS_RIRRIJsJs r0 p1 r2 r3 p4 (36028797018963967 : Int64) z101) [])) (fun t k => by rw [hz101] at k; exact k) ?_
    refine own_go (B := T94.setTop (mkF m 233 (LS_RIRRIJsJs r0 p1 r2 r3 p4 (36028797018963967 : Int64) z101) [(.long z101), (.int (p1 + (6 : Int32))), (.ref r0)])) (fun t k => ?_) ?_
    · show Steps p.tables e below (T94.setTop (mkF m 226 (LS_RIRRIJsJs r0 p1 r2 r3 p4 (36028797018963967 : Int64) z101) [])) _
      refine XS.aloadN X94.here hx rfl (hb hby d2_226) rfl rfl ?_
      show Steps p.tables e below (T94.setTop (mkF m 227 (LS_RIRRIJsJs r0 p1 r2 r3 p4 (36028797018963967 : Int64) z101) [(.ref r0)])) _
      refine XS.iloadN X94.here hx rfl (hb hby d2_227) rfl ?_
      show Steps p.tables e below (T94.setTop (mkF m 228 (LS_RIRRIJsJs r0 p1 r2 r3 p4 (36028797018963967 : Int64) z101) [(.int p1), (.ref r0)])) _
      refine XS.bipush X94.here hx rfl (hb hby d2_228) ?_
      show Steps p.tables e below (T94.setTop (mkF m 230 (LS_RIRRIJsJs r0 p1 r2 r3 p4 (36028797018963967 : Int64) z101) [(.int (6 : Int32)), (.int p1), (.ref r0)])) _
      refine XS.iadd X94.here hx rfl (hb hby d2_230) rfl ?_
      show Steps p.tables e below (T94.setTop (mkF m 231 (LS_RIRRIJsJs r0 p1 r2 r3 p4 (36028797018963967 : Int64) z101) [(.int (p1 + (6 : Int32))), (.ref r0)])) _
      refine XS.lload X94.here hx rfl (hb hby d2_231) rfl ?_
      exact k
    obtain ⟨cl102, Ar102, qa102, Sa102, Na102, Ha102, Ga102⟩ := id V94
    have hin103 : ¬ ((p1 + (6 : Int32)) < 0 ∨ cl102.slots.size ≤ ((p1 + (6 : Int32))).toNatClampNeg) := inb_of Sa102 hb6
    obtain ⟨T103, h103, X103, e103, W103, st103⟩ := stJ X94 hx hZ e94 Ar102 (j := (p1 + (6 : Int32))) hin103 (g := (mkF m 233 (LS_RIRRIJsJs r0 p1 r2 r3 p4 (36028797018963967 : Int64) z101) [(.long z101), (.int (p1 + (6 : Int32))), (.ref r0)])) rfl rfl (hb hby d2_233)
    have N103 := Fr.snoc X103 N94 g_r0
    have V103 : Arv Z h103 r0 kqb .long (21 : Int32) (((((((vs.set m0 (.long (z47 &&& (36028797018963967 : Int64)))).set m1 (.long (z56 &&& (36028797018963967 : Int64)))).set m2 (.long (z65 &&& (36028797018963967 : Int64)))).set m3 (.long (z74 &&& (36028797018963967 : Int64)))).set m4 (.long (z83 &&& (36028797018963967 : Int64)))).set m5 (.long (z92 &&& (36028797018963967 : Int64)))).set m6 (.long z101)) (.long (0 : Int64)) := Arv.set Ar102 qa102 Sa102 Na102 Ha102 Ga102 rfl W103 m6 hm6 (by simp only [List.length_set, hlen]; exact hl6)
    refine own_go (B := T103.setTop (mkF m 234 (LS_RIRRIJsJs r0 p1 r2 r3 p4 (36028797018963967 : Int64) z101) [])) (fun t k => st103 _ k) ?_
    obtain ⟨fs, hr, hrun, hended, hW, hsame⟩ := X103.leave (v := none) (fun _ => rfl)
    refine ⟨_, _, ?_, hrun, hended, _, _, rfl, ?_, ⟨_, rfl⟩, hW, hsame.mono (by decide) (by decide)⟩
    · show Steps p.tables e below (T103.setTop (mkF m 234 (LS_RIRRIJsJs r0 p1 r2 r3 p4 (36028797018963967 : Int64) z101) [])) _
      exact X103.returnOut hx Bd.returns (hb hby d2_234) hr
    · show Q2 Z r0 p1 r2 r3 p4 kqb kq1 kq2 vs m0 m1 m2 m3 m4 m5 m6 x0 x1 x2 x3 x4 x5 x6 h0 n0 _ T103.heap _
      rw [e103]
      have K0_v104 := K0.wr W49 (Or.inl (List.mem_of_getElem? (i := 0) rfl))
      have K0_v105 := K0_v104.wr W58 (Or.inl (List.mem_of_getElem? (i := 0) rfl))
      have K0_v106 := K0_v105.wr W67 (Or.inl (List.mem_of_getElem? (i := 0) rfl))
      have K0_v107 := K0_v106.wr W76 (Or.inl (List.mem_of_getElem? (i := 0) rfl))
      have K0_v108 := K0_v107.wr W85 (Or.inl (List.mem_of_getElem? (i := 0) rfl))
      have K0_v109 := K0_v108.wr W94 (Or.inl (List.mem_of_getElem? (i := 0) rfl))
      have K0_v110 := K0_v109.wr W103 (Or.inl (List.mem_of_getElem? (i := 0) rfl))
      have Vz := V103
      have Kz := K0_v110
      have hq : (x0).toInt + (x1).toInt * 36028797018963968 + (x2).toInt * 1298074214633706907132624082305024 + (x3).toInt * 46768052394588893382517914646921056628989841375232 + (x4).toInt * 1684996666696914987166688442938726917102321526408785780068975640576 + (x5).toInt * 60708402882054033466233184588234965832575213720379360039119137804340758912662765568 + (x6).toInt * 2187250724783011924372502227117621365353169430893212436425770606409952999199375923223513177023053824 < 4002409555221667393417789825735904156556882819939007885332058136124031650490837864442687629129015664037894272559787 := by
        rcases hpl with q | q
        · exact absurd q hc2_1
        · exact q.2
      have pl := own_place hx0 hx1 hx2 hx3 hx4 hx5 hx6 ht
      have cx := own_canon hx0 hx1 hx2 hx3 hx4 hx5 hx6
      rcases cx with ⟨-, c0, c1, c2, c3, c4, c5, c6⟩ | ⟨q, -⟩
      · subst hz101 hz92 hz83 hz74 hz65 hz56 hz47
        exact ⟨(own_s0 x0 &&& (36028797018963967 : Int64)), (own_s1 x0 x1 &&& (36028797018963967 : Int64)), (own_s2 x0 x1 x2 &&& (36028797018963967 : Int64)), (own_s3 x0 x1 x2 x3 &&& (36028797018963967 : Int64)), (own_s4 x0 x1 x2 x3 x4 &&& (36028797018963967 : Int64)), (own_s5 x0 x1 x2 x3 x4 x5 &&& (36028797018963967 : Int64)), (own_s6 x0 x1 x2 x3 x4 x5 x6), rfl, N103, Kz, Vz, pl.1.trans c0.symm, pl.2.1.trans c1.symm, pl.2.2.1.trans c2.symm, pl.2.2.2.1.trans c3.symm, pl.2.2.2.2.1.trans c4.symm, pl.2.2.2.2.2.1.trans c5.symm, pl.2.2.2.2.2.2.1.trans c6.symm⟩
      · exact absurd hq q
theorem ef_5 (m : MethodId) (r0 : Addr) (r1 : Addr) (p2 : Int32) : entryFrame m #[(.ref r0), (.ref r1), (.int p2)] 21 = mkF m 0 #[.val (.ref r0), .val (.ref r1), .val (.int p2), .unset, .unset, .unset, .unset, .unset, .unset, .unset, .unset, .unset, .unset, .unset, .unset, .unset, .unset, .unset, .unset, .unset, .unset] [] := by first | (simp [entryFrame, mkF, argsToLocals, Value.category]; done) | rfl
theorem pn_5 : plainName "com/example/barred_rows/barredrows/crypto/Fp" = true := by first | (simp [plainName, overriddenIn]; done) | decide +kernel
abbrev LS_RRIuuuuuuuuuuuuuuuuuu (a0 : Addr) (a1 : Addr) (a2 : Int32) : Array Slot := #[.val (.ref a0), .val (.ref a1), .val (.int a2), .unset, .unset, .unset, .unset, .unset, .unset, .unset, .unset, .unset, .unset, .unset, .unset, .unset, .unset, .unset, .unset, .unset, .unset]
theorem d5_0 : decode prog_7_method_26_code 0 = .ok (.aload_n 1, 1) := by decide +kernel
theorem d5_1 : decode prog_7_method_26_code 1 = .ok (.iload_n 2, 1) := by decide +kernel
theorem d5_2 : decode prog_7_method_26_code 2 = .ok (.laload, 1) := by decide +kernel
theorem d5_3 : decode prog_7_method_26_code 3 = .ok (.getstatic 59, 3) := by decide +kernel
theorem d5_6 : decode prog_7_method_26_code 6 = .ok (.lsub, 1) := by decide +kernel
theorem d5_7 : decode prog_7_method_26_code 7 = .ok (.lstore_n 3, 1) := by decide +kernel
abbrev LS_RRIJsuuuuuuuuuuuuuuuu (a0 : Addr) (a1 : Addr) (a2 : Int32) (a3 : Int64) : Array Slot := #[.val (.ref a0), .val (.ref a1), .val (.int a2), .val (.long a3), .second, .unset, .unset, .unset, .unset, .unset, .unset, .unset, .unset, .unset, .unset, .unset, .unset, .unset, .unset, .unset, .unset]
theorem d5_8 : decode prog_7_method_26_code 8 = .ok (.lload_n 3, 1) := by decide +kernel
theorem d5_9 : decode prog_7_method_26_code 9 = .ok (.ldc2_w 57, 3) := by decide +kernel
theorem d5_12 : decode prog_7_method_26_code 12 = .ok (.land, 1) := by decide +kernel
theorem d5_13 : decode prog_7_method_26_code 13 = .ok (.lstore 5, 2) := by decide +kernel
abbrev LS_RRIJsJsuuuuuuuuuuuuuu (a0 : Addr) (a1 : Addr) (a2 : Int32) (a3 : Int64) (a4 : Int64) : Array Slot := #[.val (.ref a0), .val (.ref a1), .val (.int a2), .val (.long a3), .second, .val (.long a4), .second, .unset, .unset, .unset, .unset, .unset, .unset, .unset, .unset, .unset, .unset, .unset, .unset, .unset, .unset]
theorem d5_15 : decode prog_7_method_26_code 15 = .ok (.aload_n 1, 1) := by decide +kernel
theorem d5_16 : decode prog_7_method_26_code 16 = .ok (.iload_n 2, 1) := by decide +kernel
theorem d5_17 : decode prog_7_method_26_code 17 = .ok (.iconst 1, 1) := by decide +kernel
theorem d5_18 : decode prog_7_method_26_code 18 = .ok (.iadd, 1) := by decide +kernel
theorem d5_19 : decode prog_7_method_26_code 19 = .ok (.laload, 1) := by decide +kernel
theorem d5_20 : decode prog_7_method_26_code 20 = .ok (.getstatic 63, 3) := by decide +kernel
theorem d5_23 : decode prog_7_method_26_code 23 = .ok (.lsub, 1) := by decide +kernel
theorem d5_24 : decode prog_7_method_26_code 24 = .ok (.lload_n 3, 1) := by decide +kernel
theorem d5_25 : decode prog_7_method_26_code 25 = .ok (.bipush 63, 2) := by decide +kernel
theorem d5_27 : decode prog_7_method_26_code 27 = .ok (.lushr, 1) := by decide +kernel
theorem d5_28 : decode prog_7_method_26_code 28 = .ok (.lsub, 1) := by decide +kernel
theorem d5_29 : decode prog_7_method_26_code 29 = .ok (.lstore_n 3, 1) := by decide +kernel
theorem d5_30 : decode prog_7_method_26_code 30 = .ok (.lload_n 3, 1) := by decide +kernel
theorem d5_31 : decode prog_7_method_26_code 31 = .ok (.ldc2_w 57, 3) := by decide +kernel
theorem d5_34 : decode prog_7_method_26_code 34 = .ok (.land, 1) := by decide +kernel
theorem d5_35 : decode prog_7_method_26_code 35 = .ok (.lstore 7, 2) := by decide +kernel
abbrev LS_RRIJsJsJsuuuuuuuuuuuu (a0 : Addr) (a1 : Addr) (a2 : Int32) (a3 : Int64) (a4 : Int64) (a5 : Int64) : Array Slot := #[.val (.ref a0), .val (.ref a1), .val (.int a2), .val (.long a3), .second, .val (.long a4), .second, .val (.long a5), .second, .unset, .unset, .unset, .unset, .unset, .unset, .unset, .unset, .unset, .unset, .unset, .unset]
theorem d5_37 : decode prog_7_method_26_code 37 = .ok (.aload_n 1, 1) := by decide +kernel
theorem d5_38 : decode prog_7_method_26_code 38 = .ok (.iload_n 2, 1) := by decide +kernel
theorem d5_39 : decode prog_7_method_26_code 39 = .ok (.iconst 2, 1) := by decide +kernel
theorem d5_40 : decode prog_7_method_26_code 40 = .ok (.iadd, 1) := by decide +kernel
theorem d5_41 : decode prog_7_method_26_code 41 = .ok (.laload, 1) := by decide +kernel
theorem d5_42 : decode prog_7_method_26_code 42 = .ok (.getstatic 66, 3) := by decide +kernel
theorem d5_45 : decode prog_7_method_26_code 45 = .ok (.lsub, 1) := by decide +kernel
theorem d5_46 : decode prog_7_method_26_code 46 = .ok (.lload_n 3, 1) := by decide +kernel
theorem d5_47 : decode prog_7_method_26_code 47 = .ok (.bipush 63, 2) := by decide +kernel
theorem d5_49 : decode prog_7_method_26_code 49 = .ok (.lushr, 1) := by decide +kernel
theorem d5_50 : decode prog_7_method_26_code 50 = .ok (.lsub, 1) := by decide +kernel
theorem d5_51 : decode prog_7_method_26_code 51 = .ok (.lstore_n 3, 1) := by decide +kernel
theorem d5_52 : decode prog_7_method_26_code 52 = .ok (.lload_n 3, 1) := by decide +kernel
theorem d5_53 : decode prog_7_method_26_code 53 = .ok (.ldc2_w 57, 3) := by decide +kernel
theorem d5_56 : decode prog_7_method_26_code 56 = .ok (.land, 1) := by decide +kernel
theorem d5_57 : decode prog_7_method_26_code 57 = .ok (.lstore 9, 2) := by decide +kernel
abbrev LS_RRIJsJsJsJsuuuuuuuuuu (a0 : Addr) (a1 : Addr) (a2 : Int32) (a3 : Int64) (a4 : Int64) (a5 : Int64) (a6 : Int64) : Array Slot := #[.val (.ref a0), .val (.ref a1), .val (.int a2), .val (.long a3), .second, .val (.long a4), .second, .val (.long a5), .second, .val (.long a6), .second, .unset, .unset, .unset, .unset, .unset, .unset, .unset, .unset, .unset, .unset]
theorem d5_59 : decode prog_7_method_26_code 59 = .ok (.aload_n 1, 1) := by decide +kernel
theorem d5_60 : decode prog_7_method_26_code 60 = .ok (.iload_n 2, 1) := by decide +kernel
theorem d5_61 : decode prog_7_method_26_code 61 = .ok (.iconst 3, 1) := by decide +kernel
theorem d5_62 : decode prog_7_method_26_code 62 = .ok (.iadd, 1) := by decide +kernel
theorem d5_63 : decode prog_7_method_26_code 63 = .ok (.laload, 1) := by decide +kernel
theorem d5_64 : decode prog_7_method_26_code 64 = .ok (.getstatic 69, 3) := by decide +kernel
theorem d5_67 : decode prog_7_method_26_code 67 = .ok (.lsub, 1) := by decide +kernel
theorem d5_68 : decode prog_7_method_26_code 68 = .ok (.lload_n 3, 1) := by decide +kernel
theorem d5_69 : decode prog_7_method_26_code 69 = .ok (.bipush 63, 2) := by decide +kernel
theorem d5_71 : decode prog_7_method_26_code 71 = .ok (.lushr, 1) := by decide +kernel
theorem d5_72 : decode prog_7_method_26_code 72 = .ok (.lsub, 1) := by decide +kernel
theorem d5_73 : decode prog_7_method_26_code 73 = .ok (.lstore_n 3, 1) := by decide +kernel
theorem d5_74 : decode prog_7_method_26_code 74 = .ok (.lload_n 3, 1) := by decide +kernel
theorem d5_75 : decode prog_7_method_26_code 75 = .ok (.ldc2_w 57, 3) := by decide +kernel
theorem d5_78 : decode prog_7_method_26_code 78 = .ok (.land, 1) := by decide +kernel
theorem d5_79 : decode prog_7_method_26_code 79 = .ok (.lstore 11, 2) := by decide +kernel
abbrev LS_RRIJsJsJsJsJsuuuuuuuu (a0 : Addr) (a1 : Addr) (a2 : Int32) (a3 : Int64) (a4 : Int64) (a5 : Int64) (a6 : Int64) (a7 : Int64) : Array Slot := #[.val (.ref a0), .val (.ref a1), .val (.int a2), .val (.long a3), .second, .val (.long a4), .second, .val (.long a5), .second, .val (.long a6), .second, .val (.long a7), .second, .unset, .unset, .unset, .unset, .unset, .unset, .unset, .unset]
theorem d5_81 : decode prog_7_method_26_code 81 = .ok (.aload_n 1, 1) := by decide +kernel
theorem d5_82 : decode prog_7_method_26_code 82 = .ok (.iload_n 2, 1) := by decide +kernel
theorem d5_83 : decode prog_7_method_26_code 83 = .ok (.iconst 4, 1) := by decide +kernel
theorem d5_84 : decode prog_7_method_26_code 84 = .ok (.iadd, 1) := by decide +kernel
theorem d5_85 : decode prog_7_method_26_code 85 = .ok (.laload, 1) := by decide +kernel
theorem d5_86 : decode prog_7_method_26_code 86 = .ok (.getstatic 72, 3) := by decide +kernel
theorem d5_89 : decode prog_7_method_26_code 89 = .ok (.lsub, 1) := by decide +kernel
theorem d5_90 : decode prog_7_method_26_code 90 = .ok (.lload_n 3, 1) := by decide +kernel
theorem d5_91 : decode prog_7_method_26_code 91 = .ok (.bipush 63, 2) := by decide +kernel
theorem d5_93 : decode prog_7_method_26_code 93 = .ok (.lushr, 1) := by decide +kernel
theorem d5_94 : decode prog_7_method_26_code 94 = .ok (.lsub, 1) := by decide +kernel
theorem d5_95 : decode prog_7_method_26_code 95 = .ok (.lstore_n 3, 1) := by decide +kernel
theorem d5_96 : decode prog_7_method_26_code 96 = .ok (.lload_n 3, 1) := by decide +kernel
theorem d5_97 : decode prog_7_method_26_code 97 = .ok (.ldc2_w 57, 3) := by decide +kernel
theorem d5_100 : decode prog_7_method_26_code 100 = .ok (.land, 1) := by decide +kernel
theorem d5_101 : decode prog_7_method_26_code 101 = .ok (.lstore 13, 2) := by decide +kernel
abbrev LS_RRIJsJsJsJsJsJsuuuuuu (a0 : Addr) (a1 : Addr) (a2 : Int32) (a3 : Int64) (a4 : Int64) (a5 : Int64) (a6 : Int64) (a7 : Int64) (a8 : Int64) : Array Slot := #[.val (.ref a0), .val (.ref a1), .val (.int a2), .val (.long a3), .second, .val (.long a4), .second, .val (.long a5), .second, .val (.long a6), .second, .val (.long a7), .second, .val (.long a8), .second, .unset, .unset, .unset, .unset, .unset, .unset]
theorem d5_103 : decode prog_7_method_26_code 103 = .ok (.aload_n 1, 1) := by decide +kernel
theorem d5_104 : decode prog_7_method_26_code 104 = .ok (.iload_n 2, 1) := by decide +kernel
theorem d5_105 : decode prog_7_method_26_code 105 = .ok (.iconst 5, 1) := by decide +kernel
theorem d5_106 : decode prog_7_method_26_code 106 = .ok (.iadd, 1) := by decide +kernel
theorem d5_107 : decode prog_7_method_26_code 107 = .ok (.laload, 1) := by decide +kernel
theorem d5_108 : decode prog_7_method_26_code 108 = .ok (.getstatic 75, 3) := by decide +kernel
theorem d5_111 : decode prog_7_method_26_code 111 = .ok (.lsub, 1) := by decide +kernel
theorem d5_112 : decode prog_7_method_26_code 112 = .ok (.lload_n 3, 1) := by decide +kernel
theorem d5_113 : decode prog_7_method_26_code 113 = .ok (.bipush 63, 2) := by decide +kernel
theorem d5_115 : decode prog_7_method_26_code 115 = .ok (.lushr, 1) := by decide +kernel
theorem d5_116 : decode prog_7_method_26_code 116 = .ok (.lsub, 1) := by decide +kernel
theorem d5_117 : decode prog_7_method_26_code 117 = .ok (.lstore_n 3, 1) := by decide +kernel
theorem d5_118 : decode prog_7_method_26_code 118 = .ok (.lload_n 3, 1) := by decide +kernel
theorem d5_119 : decode prog_7_method_26_code 119 = .ok (.ldc2_w 57, 3) := by decide +kernel
theorem d5_122 : decode prog_7_method_26_code 122 = .ok (.land, 1) := by decide +kernel
theorem d5_123 : decode prog_7_method_26_code 123 = .ok (.lstore 15, 2) := by decide +kernel
abbrev LS_RRIJsJsJsJsJsJsJsuuuu (a0 : Addr) (a1 : Addr) (a2 : Int32) (a3 : Int64) (a4 : Int64) (a5 : Int64) (a6 : Int64) (a7 : Int64) (a8 : Int64) (a9 : Int64) : Array Slot := #[.val (.ref a0), .val (.ref a1), .val (.int a2), .val (.long a3), .second, .val (.long a4), .second, .val (.long a5), .second, .val (.long a6), .second, .val (.long a7), .second, .val (.long a8), .second, .val (.long a9), .second, .unset, .unset, .unset, .unset]
theorem d5_125 : decode prog_7_method_26_code 125 = .ok (.aload_n 1, 1) := by decide +kernel
theorem d5_126 : decode prog_7_method_26_code 126 = .ok (.iload_n 2, 1) := by decide +kernel
theorem d5_127 : decode prog_7_method_26_code 127 = .ok (.bipush 6, 2) := by decide +kernel
theorem d5_129 : decode prog_7_method_26_code 129 = .ok (.iadd, 1) := by decide +kernel
theorem d5_130 : decode prog_7_method_26_code 130 = .ok (.laload, 1) := by decide +kernel
theorem d5_131 : decode prog_7_method_26_code 131 = .ok (.getstatic 78, 3) := by decide +kernel
theorem d5_134 : decode prog_7_method_26_code 134 = .ok (.lsub, 1) := by decide +kernel
theorem d5_135 : decode prog_7_method_26_code 135 = .ok (.lload_n 3, 1) := by decide +kernel
theorem d5_136 : decode prog_7_method_26_code 136 = .ok (.bipush 63, 2) := by decide +kernel
theorem d5_138 : decode prog_7_method_26_code 138 = .ok (.lushr, 1) := by decide +kernel
theorem d5_139 : decode prog_7_method_26_code 139 = .ok (.lsub, 1) := by decide +kernel
theorem d5_140 : decode prog_7_method_26_code 140 = .ok (.lstore_n 3, 1) := by decide +kernel
theorem d5_141 : decode prog_7_method_26_code 141 = .ok (.lload_n 3, 1) := by decide +kernel
theorem d5_142 : decode prog_7_method_26_code 142 = .ok (.ldc2_w 57, 3) := by decide +kernel
theorem d5_145 : decode prog_7_method_26_code 145 = .ok (.land, 1) := by decide +kernel
theorem d5_146 : decode prog_7_method_26_code 146 = .ok (.lstore 17, 2) := by decide +kernel
abbrev LS_RRIJsJsJsJsJsJsJsJsuu (a0 : Addr) (a1 : Addr) (a2 : Int32) (a3 : Int64) (a4 : Int64) (a5 : Int64) (a6 : Int64) (a7 : Int64) (a8 : Int64) (a9 : Int64) (a10 : Int64) : Array Slot := #[.val (.ref a0), .val (.ref a1), .val (.int a2), .val (.long a3), .second, .val (.long a4), .second, .val (.long a5), .second, .val (.long a6), .second, .val (.long a7), .second, .val (.long a8), .second, .val (.long a9), .second, .val (.long a10), .second, .unset, .unset]
theorem d5_148 : decode prog_7_method_26_code 148 = .ok (.lload_n 3, 1) := by decide +kernel
theorem d5_149 : decode prog_7_method_26_code 149 = .ok (.bipush 63, 2) := by decide +kernel
theorem d5_151 : decode prog_7_method_26_code 151 = .ok (.lushr, 1) := by decide +kernel
theorem d5_152 : decode prog_7_method_26_code 152 = .ok (.lneg, 1) := by decide +kernel
theorem d5_153 : decode prog_7_method_26_code 153 = .ok (.lstore 19, 2) := by decide +kernel
abbrev LS_RRIJsJsJsJsJsJsJsJsJs (a0 : Addr) (a1 : Addr) (a2 : Int32) (a3 : Int64) (a4 : Int64) (a5 : Int64) (a6 : Int64) (a7 : Int64) (a8 : Int64) (a9 : Int64) (a10 : Int64) (a11 : Int64) : Array Slot := #[.val (.ref a0), .val (.ref a1), .val (.int a2), .val (.long a3), .second, .val (.long a4), .second, .val (.long a5), .second, .val (.long a6), .second, .val (.long a7), .second, .val (.long a8), .second, .val (.long a9), .second, .val (.long a10), .second, .val (.long a11), .second]
theorem d5_155 : decode prog_7_method_26_code 155 = .ok (.aload_n 0, 1) := by decide +kernel
theorem d5_156 : decode prog_7_method_26_code 156 = .ok (.iconst 0, 1) := by decide +kernel
theorem d5_157 : decode prog_7_method_26_code 157 = .ok (.aload_n 1, 1) := by decide +kernel
theorem d5_158 : decode prog_7_method_26_code 158 = .ok (.iload_n 2, 1) := by decide +kernel
theorem d5_159 : decode prog_7_method_26_code 159 = .ok (.laload, 1) := by decide +kernel
theorem d5_160 : decode prog_7_method_26_code 160 = .ok (.lload 19, 2) := by decide +kernel
theorem d5_162 : decode prog_7_method_26_code 162 = .ok (.land, 1) := by decide +kernel
theorem d5_163 : decode prog_7_method_26_code 163 = .ok (.lload 5, 2) := by decide +kernel
theorem d5_165 : decode prog_7_method_26_code 165 = .ok (.lload 19, 2) := by decide +kernel
theorem d5_167 : decode prog_7_method_26_code 167 = .ok (.ldc2_w 136, 3) := by decide +kernel
theorem d5_170 : decode prog_7_method_26_code 170 = .ok (.lxor, 1) := by decide +kernel
theorem d5_171 : decode prog_7_method_26_code 171 = .ok (.land, 1) := by decide +kernel
theorem d5_172 : decode prog_7_method_26_code 172 = .ok (.lor, 1) := by decide +kernel
theorem d5_173 : decode prog_7_method_26_code 173 = .ok (.lastore, 1) := by decide +kernel
theorem d5_174 : decode prog_7_method_26_code 174 = .ok (.aload_n 0, 1) := by decide +kernel
theorem d5_175 : decode prog_7_method_26_code 175 = .ok (.iconst 1, 1) := by decide +kernel
theorem d5_176 : decode prog_7_method_26_code 176 = .ok (.aload_n 1, 1) := by decide +kernel
theorem d5_177 : decode prog_7_method_26_code 177 = .ok (.iload_n 2, 1) := by decide +kernel
theorem d5_178 : decode prog_7_method_26_code 178 = .ok (.iconst 1, 1) := by decide +kernel
theorem d5_179 : decode prog_7_method_26_code 179 = .ok (.iadd, 1) := by decide +kernel
theorem d5_180 : decode prog_7_method_26_code 180 = .ok (.laload, 1) := by decide +kernel
theorem d5_181 : decode prog_7_method_26_code 181 = .ok (.lload 19, 2) := by decide +kernel
theorem d5_183 : decode prog_7_method_26_code 183 = .ok (.land, 1) := by decide +kernel
theorem d5_184 : decode prog_7_method_26_code 184 = .ok (.lload 7, 2) := by decide +kernel
theorem d5_186 : decode prog_7_method_26_code 186 = .ok (.lload 19, 2) := by decide +kernel
theorem d5_188 : decode prog_7_method_26_code 188 = .ok (.ldc2_w 136, 3) := by decide +kernel
theorem d5_191 : decode prog_7_method_26_code 191 = .ok (.lxor, 1) := by decide +kernel
theorem d5_192 : decode prog_7_method_26_code 192 = .ok (.land, 1) := by decide +kernel
theorem d5_193 : decode prog_7_method_26_code 193 = .ok (.lor, 1) := by decide +kernel
theorem d5_194 : decode prog_7_method_26_code 194 = .ok (.lastore, 1) := by decide +kernel
theorem d5_195 : decode prog_7_method_26_code 195 = .ok (.aload_n 0, 1) := by decide +kernel
theorem d5_196 : decode prog_7_method_26_code 196 = .ok (.iconst 2, 1) := by decide +kernel
theorem d5_197 : decode prog_7_method_26_code 197 = .ok (.aload_n 1, 1) := by decide +kernel
theorem d5_198 : decode prog_7_method_26_code 198 = .ok (.iload_n 2, 1) := by decide +kernel
theorem d5_199 : decode prog_7_method_26_code 199 = .ok (.iconst 2, 1) := by decide +kernel
theorem d5_200 : decode prog_7_method_26_code 200 = .ok (.iadd, 1) := by decide +kernel
theorem d5_201 : decode prog_7_method_26_code 201 = .ok (.laload, 1) := by decide +kernel
theorem d5_202 : decode prog_7_method_26_code 202 = .ok (.lload 19, 2) := by decide +kernel
theorem d5_204 : decode prog_7_method_26_code 204 = .ok (.land, 1) := by decide +kernel
theorem d5_205 : decode prog_7_method_26_code 205 = .ok (.lload 9, 2) := by decide +kernel
theorem d5_207 : decode prog_7_method_26_code 207 = .ok (.lload 19, 2) := by decide +kernel
theorem d5_209 : decode prog_7_method_26_code 209 = .ok (.ldc2_w 136, 3) := by decide +kernel
theorem d5_212 : decode prog_7_method_26_code 212 = .ok (.lxor, 1) := by decide +kernel
theorem d5_213 : decode prog_7_method_26_code 213 = .ok (.land, 1) := by decide +kernel
theorem d5_214 : decode prog_7_method_26_code 214 = .ok (.lor, 1) := by decide +kernel
theorem d5_215 : decode prog_7_method_26_code 215 = .ok (.lastore, 1) := by decide +kernel
theorem d5_216 : decode prog_7_method_26_code 216 = .ok (.aload_n 0, 1) := by decide +kernel
theorem d5_217 : decode prog_7_method_26_code 217 = .ok (.iconst 3, 1) := by decide +kernel
theorem d5_218 : decode prog_7_method_26_code 218 = .ok (.aload_n 1, 1) := by decide +kernel
theorem d5_219 : decode prog_7_method_26_code 219 = .ok (.iload_n 2, 1) := by decide +kernel
theorem d5_220 : decode prog_7_method_26_code 220 = .ok (.iconst 3, 1) := by decide +kernel
theorem d5_221 : decode prog_7_method_26_code 221 = .ok (.iadd, 1) := by decide +kernel
theorem d5_222 : decode prog_7_method_26_code 222 = .ok (.laload, 1) := by decide +kernel
theorem d5_223 : decode prog_7_method_26_code 223 = .ok (.lload 19, 2) := by decide +kernel
theorem d5_225 : decode prog_7_method_26_code 225 = .ok (.land, 1) := by decide +kernel
theorem d5_226 : decode prog_7_method_26_code 226 = .ok (.lload 11, 2) := by decide +kernel
theorem d5_228 : decode prog_7_method_26_code 228 = .ok (.lload 19, 2) := by decide +kernel
theorem d5_230 : decode prog_7_method_26_code 230 = .ok (.ldc2_w 136, 3) := by decide +kernel
theorem d5_233 : decode prog_7_method_26_code 233 = .ok (.lxor, 1) := by decide +kernel
theorem d5_234 : decode prog_7_method_26_code 234 = .ok (.land, 1) := by decide +kernel
theorem d5_235 : decode prog_7_method_26_code 235 = .ok (.lor, 1) := by decide +kernel
theorem d5_236 : decode prog_7_method_26_code 236 = .ok (.lastore, 1) := by decide +kernel
theorem d5_237 : decode prog_7_method_26_code 237 = .ok (.aload_n 0, 1) := by decide +kernel
theorem d5_238 : decode prog_7_method_26_code 238 = .ok (.iconst 4, 1) := by decide +kernel
theorem d5_239 : decode prog_7_method_26_code 239 = .ok (.aload_n 1, 1) := by decide +kernel
theorem d5_240 : decode prog_7_method_26_code 240 = .ok (.iload_n 2, 1) := by decide +kernel
theorem d5_241 : decode prog_7_method_26_code 241 = .ok (.iconst 4, 1) := by decide +kernel
theorem d5_242 : decode prog_7_method_26_code 242 = .ok (.iadd, 1) := by decide +kernel
theorem d5_243 : decode prog_7_method_26_code 243 = .ok (.laload, 1) := by decide +kernel
theorem d5_244 : decode prog_7_method_26_code 244 = .ok (.lload 19, 2) := by decide +kernel
theorem d5_246 : decode prog_7_method_26_code 246 = .ok (.land, 1) := by decide +kernel
theorem d5_247 : decode prog_7_method_26_code 247 = .ok (.lload 13, 2) := by decide +kernel
theorem d5_249 : decode prog_7_method_26_code 249 = .ok (.lload 19, 2) := by decide +kernel
theorem d5_251 : decode prog_7_method_26_code 251 = .ok (.ldc2_w 136, 3) := by decide +kernel
theorem d5_254 : decode prog_7_method_26_code 254 = .ok (.lxor, 1) := by decide +kernel
theorem d5_255 : decode prog_7_method_26_code 255 = .ok (.land, 1) := by decide +kernel
theorem d5_256 : decode prog_7_method_26_code 256 = .ok (.lor, 1) := by decide +kernel
theorem d5_257 : decode prog_7_method_26_code 257 = .ok (.lastore, 1) := by decide +kernel
theorem d5_258 : decode prog_7_method_26_code 258 = .ok (.aload_n 0, 1) := by decide +kernel
theorem d5_259 : decode prog_7_method_26_code 259 = .ok (.iconst 5, 1) := by decide +kernel
theorem d5_260 : decode prog_7_method_26_code 260 = .ok (.aload_n 1, 1) := by decide +kernel
theorem d5_261 : decode prog_7_method_26_code 261 = .ok (.iload_n 2, 1) := by decide +kernel
theorem d5_262 : decode prog_7_method_26_code 262 = .ok (.iconst 5, 1) := by decide +kernel
theorem d5_263 : decode prog_7_method_26_code 263 = .ok (.iadd, 1) := by decide +kernel
theorem d5_264 : decode prog_7_method_26_code 264 = .ok (.laload, 1) := by decide +kernel
theorem d5_265 : decode prog_7_method_26_code 265 = .ok (.lload 19, 2) := by decide +kernel
theorem d5_267 : decode prog_7_method_26_code 267 = .ok (.land, 1) := by decide +kernel
theorem d5_268 : decode prog_7_method_26_code 268 = .ok (.lload 15, 2) := by decide +kernel
theorem d5_270 : decode prog_7_method_26_code 270 = .ok (.lload 19, 2) := by decide +kernel
theorem d5_272 : decode prog_7_method_26_code 272 = .ok (.ldc2_w 136, 3) := by decide +kernel
theorem d5_275 : decode prog_7_method_26_code 275 = .ok (.lxor, 1) := by decide +kernel
theorem d5_276 : decode prog_7_method_26_code 276 = .ok (.land, 1) := by decide +kernel
theorem d5_277 : decode prog_7_method_26_code 277 = .ok (.lor, 1) := by decide +kernel
theorem d5_278 : decode prog_7_method_26_code 278 = .ok (.lastore, 1) := by decide +kernel
theorem d5_279 : decode prog_7_method_26_code 279 = .ok (.aload_n 0, 1) := by decide +kernel
theorem d5_280 : decode prog_7_method_26_code 280 = .ok (.bipush 6, 2) := by decide +kernel
theorem d5_282 : decode prog_7_method_26_code 282 = .ok (.aload_n 1, 1) := by decide +kernel
theorem d5_283 : decode prog_7_method_26_code 283 = .ok (.iload_n 2, 1) := by decide +kernel
theorem d5_284 : decode prog_7_method_26_code 284 = .ok (.bipush 6, 2) := by decide +kernel
theorem d5_286 : decode prog_7_method_26_code 286 = .ok (.iadd, 1) := by decide +kernel
theorem d5_287 : decode prog_7_method_26_code 287 = .ok (.laload, 1) := by decide +kernel
theorem d5_288 : decode prog_7_method_26_code 288 = .ok (.lload 19, 2) := by decide +kernel
theorem d5_290 : decode prog_7_method_26_code 290 = .ok (.land, 1) := by decide +kernel
theorem d5_291 : decode prog_7_method_26_code 291 = .ok (.lload 17, 2) := by decide +kernel
theorem d5_293 : decode prog_7_method_26_code 293 = .ok (.lload 19, 2) := by decide +kernel
theorem d5_295 : decode prog_7_method_26_code 295 = .ok (.ldc2_w 136, 3) := by decide +kernel
theorem d5_298 : decode prog_7_method_26_code 298 = .ok (.lxor, 1) := by decide +kernel
theorem d5_299 : decode prog_7_method_26_code 299 = .ok (.land, 1) := by decide +kernel
theorem d5_300 : decode prog_7_method_26_code 300 = .ok (.lor, 1) := by decide +kernel
theorem d5_301 : decode prog_7_method_26_code 301 = .ok (.lastore, 1) := by decide +kernel
theorem d5_302 : decode prog_7_method_26_code 302 = .ok (.return_, 1) := by decide +kernel
def Q5 (Z : State) (r0 : Addr) (r1 : Addr) (p2 : Int32) (kq1 : ClassId) (cl : Cell) (x0 x1 x2 x3 x4 x5 x6 : Int64) (h0 : Heap) (n0 : Nat) (v : Option Value) (h : Heap) (L : List Loc) : Prop := v = none ∧ Fr n0 L ∧ Keep h0 h [r0] ∧ Arv Z h r0 kq1 .long (7 : Int32) [(.long (own_c0 x0 x1 x2 x3 x4 x5 x6)), (.long (own_c1 x0 x1 x2 x3 x4 x5 x6)), (.long (own_c2 x0 x1 x2 x3 x4 x5 x6)), (.long (own_c3 x0 x1 x2 x3 x4 x5 x6)), (.long (own_c4 x0 x1 x2 x3 x4 x5 x6)), (.long (own_c5 x0 x1 x2 x3 x4 x5 x6)), (.long (own_c6 x0 x1 x2 x3 x4 x5 x6))] (.long (0 : Int64))
set_option maxRecDepth 65536 in
set_option maxHeartbeats 40000000 in
theorem rm5 (l : Launch) (Z : State) (a0 : Array Value) (hw : ∀ d ∈ tables_1, d.before a0 Z = true) (ws : List Jvm.Cond) (r0 : Addr) (r1 : Addr) (p2 : Int32) (kq1 : ClassId) (cl : Cell) (x0 x1 x2 x3 x4 x5 x6 : Int64) (h0 : Heap) (n0 : Nat) (Z0 : n0 ≤ h0.size) (Vq1 : Arv Z h0 r0 kq1 .long (7 : Int32) [(.long (0 : Int64)), (.long (0 : Int64)), (.long (0 : Int64)), (.long (0 : Int64)), (.long (0 : Int64)), (.long (0 : Int64)), (.long (0 : Int64))] (.long (0 : Int64))) (Aq1 : Arr Z h0 r1 cl .long) (hin0 : ¬ (p2 < 0 ∨ cl.slots.size ≤ (p2).toNatClampNeg)) (hin1 : ¬ ((p2 + (1 : Int32)) < 0 ∨ cl.slots.size ≤ ((p2 + (1 : Int32))).toNatClampNeg)) (hin2 : ¬ ((p2 + (2 : Int32)) < 0 ∨ cl.slots.size ≤ ((p2 + (2 : Int32))).toNatClampNeg)) (hin3 : ¬ ((p2 + (3 : Int32)) < 0 ∨ cl.slots.size ≤ ((p2 + (3 : Int32))).toNatClampNeg)) (hin4 : ¬ ((p2 + (4 : Int32)) < 0 ∨ cl.slots.size ≤ ((p2 + (4 : Int32))).toNatClampNeg)) (hin5 : ¬ ((p2 + (5 : Int32)) < 0 ∨ cl.slots.size ≤ ((p2 + (5 : Int32))).toNatClampNeg)) (hin6 : ¬ ((p2 + (6 : Int32)) < 0 ∨ cl.slots.size ≤ ((p2 + (6 : Int32))).toNatClampNeg)) (hat0 : cl.slots[(p2).toNatClampNeg]? = some (.long x0)) (hat1 : cl.slots[((p2 + (1 : Int32))).toNatClampNeg]? = some (.long x1)) (hat2 : cl.slots[((p2 + (2 : Int32))).toNatClampNeg]? = some (.long x2)) (hat3 : cl.slots[((p2 + (3 : Int32))).toNatClampNeg]? = some (.long x3)) (hat4 : cl.slots[((p2 + (4 : Int32))).toNatClampNeg]? = some (.long x4)) (hat5 : cl.slots[((p2 + (5 : Int32))).toNatClampNeg]? = some (.long x5)) (hat6 : cl.slots[((p2 + (6 : Int32))).toNatClampNeg]? = some (.long x6)) (S0 : Sta Z h0 "com/example/barred_rows/barredrows/crypto/Fp" "P0" "J" (.long (35747322042231467 : Int64))) (S1 : Sta Z h0 "com/example/barred_rows/barredrows/crypto/Fp" "P1" "J" (.long (36025922209447795 : Int64))) (S2 : Sta Z h0 "com/example/barred_rows/barredrows/crypto/Fp" "P2" "J" (.long (1084959616957103 : Int64))) (S3 : Sta Z h0 "com/example/barred_rows/barredrows/crypto/Fp" "P3" "J" (.long (7925923977987733 : Int64))) (S4 : Sta Z h0 "com/example/barred_rows/barredrows/crypto/Fp" "P4" "J" (.long (16551456537884751 : Int64))) (S5 : Sta Z h0 "com/example/barred_rows/barredrows/crypto/Fp" "P5" "J" (.long (23443114579904617 : Int64))) (S6 : Sta Z h0 "com/example/barred_rows/barredrows/crypto/Fp" "P6" "J" (.long (1829881462546425 : Int64))) (hne : r1 ≠ r0) (g_r0 : n0 ≤ r0) :
    MetFree l (⟨"com/example/barred_rows/barredrows/crypto/Fp", "canonical", "([J[JI)V"⟩ : MethodName) (head1 (Jvm.Cond.code (⟨"com/example/barred_rows/barredrows/crypto/Fp", "canonical", "([J[JI)V"⟩ : MethodName) prog_7_method_26_code 21 none :: ws) ({ frames := 0, cells := 0, slots := 0, locals := 0 } : Room)) (fun a U => a = #[(.ref r0), (.ref r1), (.int p2)] ∧ Z.Warmed39 U.vm ∧ U.heap = h0) (fun _ _ _ _ _ => True) (fun _ U o U' => ∃ v L, o = .returned v ∧ Q5 Z r0 r1 p2 kq1 cl x0 x1 x2 x3 x4 x5 x6 h0 n0 v U'.heap L ∧ FrameEnd U o U' L ({ frames := 0, cells := 0, slots := 0, locals := 0 } : Room).cells ({ frames := 0, cells := 0, slots := 0, locals := 0 } : Room).slots) := by
  refine MetFree.of_bodySF (plainFor_of_name pn_5) hisR ?_
  intro p e s m args below meth c s₁ Bd hml0 hP hK
  obtain ⟨rfl, hZ, hh⟩ := hP
  have hx := Bd.exec
  have hby := Bd.bytes
  have hml : c.maxLocals = 21 := hml0
  have hown : s.vm.findClass "com/example/barred_rows/barredrows/crypto/Fp" = some m.cls := findClass_of_methodNamed Bd.named
  have hnm := (name_of_methodNamed Bd.named Bd.method).1
  have X0 : Stand p l e ({ frames := 0, cells := 0, slots := 0, locals := 0 } : Room) s m #[(.ref r0), (.ref r1), (.int p2)] below meth c s₁ [] 0 0 := Stand.of_body Bd
  have e0 : s₁.heap = h0 := by rw [← hh, Bd.state]; rfl
  have N0 := Fr.nil n0
  refine own_go (B := s₁.setTop (mkF m 0 (LS_RRIuuuuuuuuuuuuuuuuuu r0 r1 p2) [])) (fun t k => castTop (ef_5 m r0 r1 p2) k) ?_
  have K0 : Keep h0 h0 [r0] := Keep.refl _ _
  refine own_go (B := s₁.setTop (mkF m 3 (LS_RRIuuuuuuuuuuuuuuuuuu r0 r1 p2) [(.long x0)])) (fun t k => ?_) ?_
  · show Steps p.tables e below (s₁.setTop (mkF m 0 (LS_RRIuuuuuuuuuuuuuuuuuu r0 r1 p2) [])) _
    refine XS.aloadN X0.here hx rfl (hb hby d5_0) rfl rfl ?_
    show Steps p.tables e below (s₁.setTop (mkF m 1 (LS_RRIuuuuuuuuuuuuuuuuuu r0 r1 p2) [(.ref r1)])) _
    refine XS.iloadN X0.here hx rfl (hb hby d5_1) rfl ?_
    show Steps p.tables e below (s₁.setTop (mkF m 2 (LS_RRIuuuuuuuuuuuuuuuuuu r0 r1 p2) [(.int p2), (.ref r1)])) _
    refine X0.laload hx (j := p2) (v := (.long x0)) (by rw [e0]; exact Aq1.1) (State.isArrayOf_alike hZ.alike Aq1.2.1) Aq1.2.2 hin0 hat0 (g := (mkF m 2 (LS_RRIuuuuuuuuuuuuuuuuuu r0 r1 p2) [(.int p2), (.ref r1)])) rfl rfl (hb hby d5_2) _ ?_
    exact k
  obtain ⟨T1, X1, e1, st1⟩ := getS2 X0 hx hZ hown (host := "") (Or.inl (hw _ (List.mem_of_getElem? (i := 27) rfl))) Via.refl e0 S0 (g := (mkF m 3 (LS_RRIuuuuuuuuuuuuuuuuuu r0 r1 p2) [(.long x0)])) rfl (hb hby d5_3)
  refine own_go (B := T1.setTop (mkF m 6 (LS_RRIuuuuuuuuuuuuuuuuuu r0 r1 p2) [(.long (35747322042231467 : Int64)), (.long x0)])) (fun t k => st1 _ k) ?_
  refine own_go (B := T1.setTop (mkF m 8 (LS_RRIJsuuuuuuuuuuuuuuuu r0 r1 p2 (x0 - (35747322042231467 : Int64))) [])) (fun t k => ?_) ?_
  · show Steps p.tables e below (T1.setTop (mkF m 6 (LS_RRIuuuuuuuuuuuuuuuuuu r0 r1 p2) [(.long (35747322042231467 : Int64)), (.long x0)])) _
    refine XS.lsub X1.here hx rfl (hb hby d5_6) rfl ?_
    show Steps p.tables e below (T1.setTop (mkF m 7 (LS_RRIuuuuuuuuuuuuuuuuuu r0 r1 p2) [(.long (x0 - (35747322042231467 : Int64)))])) _
    refine XS.lstoreN X1.here hx rfl (hb hby d5_7) rfl (l' := (LS_RRIJsuuuuuuuuuuuuuuuu r0 r1 p2 (x0 - (35747322042231467 : Int64)))) rfl ?_
    exact k
  obtain ⟨z2, hz2⟩ : ∃ z, z = (x0 - (35747322042231467 : Int64)) := ⟨_, rfl⟩
  refine own_go (B := T1.setTop (mkF m 8 (LS_RRIJsuuuuuuuuuuuuuuuu r0 r1 p2 z2) [])) (fun t k => by rw [hz2] at k; exact k) ?_
  refine own_go (B := T1.setTop (mkF m 15 (LS_RRIJsJsuuuuuuuuuuuuuu r0 r1 p2 z2 (z2 &&& (36028797018963967 : Int64))) [])) (fun t k => ?_) ?_
  · show Steps p.tables e below (T1.setTop (mkF m 8 (LS_RRIJsuuuuuuuuuuuuuuuu r0 r1 p2 z2) [])) _
    refine XS.lloadN X1.here hx rfl (hb hby d5_8) rfl ?_
    show Steps p.tables e below (T1.setTop (mkF m 9 (LS_RRIJsuuuuuuuuuuuuuuuu r0 r1 p2 z2) [(.long z2)])) _
    refine X1.ldc2Long hx hown (mvT hZ (hw _ (List.mem_of_getElem? (i := 29) rfl))) (g := (mkF m 9 (LS_RRIJsuuuuuuuuuuuuuuuu r0 r1 p2 z2) [(.long z2)])) rfl (hb hby d5_9) _ ?_
    show Steps p.tables e below (T1.setTop (mkF m 12 (LS_RRIJsuuuuuuuuuuuuuuuu r0 r1 p2 z2) [(.long (36028797018963967 : Int64)), (.long z2)])) _
    refine XS.land X1.here hx rfl (hb hby d5_12) rfl ?_
    show Steps p.tables e below (T1.setTop (mkF m 13 (LS_RRIJsuuuuuuuuuuuuuuuu r0 r1 p2 z2) [(.long (z2 &&& (36028797018963967 : Int64)))])) _
    refine XS.lstore X1.here hx rfl (hb hby d5_13) rfl (l' := (LS_RRIJsJsuuuuuuuuuuuuuu r0 r1 p2 z2 (z2 &&& (36028797018963967 : Int64)))) rfl ?_
    exact k
  obtain ⟨z3, hz3⟩ : ∃ z, z = (z2 &&& (36028797018963967 : Int64)) := ⟨_, rfl⟩
  refine own_go (B := T1.setTop (mkF m 15 (LS_RRIJsJsuuuuuuuuuuuuuu r0 r1 p2 z2 z3) [])) (fun t k => by rw [hz3] at k; exact k) ?_
  refine own_go (B := T1.setTop (mkF m 20 (LS_RRIJsJsuuuuuuuuuuuuuu r0 r1 p2 z2 z3) [(.long x1)])) (fun t k => ?_) ?_
  · show Steps p.tables e below (T1.setTop (mkF m 15 (LS_RRIJsJsuuuuuuuuuuuuuu r0 r1 p2 z2 z3) [])) _
    refine XS.aloadN X1.here hx rfl (hb hby d5_15) rfl rfl ?_
    show Steps p.tables e below (T1.setTop (mkF m 16 (LS_RRIJsJsuuuuuuuuuuuuuu r0 r1 p2 z2 z3) [(.ref r1)])) _
    refine XS.iloadN X1.here hx rfl (hb hby d5_16) rfl ?_
    show Steps p.tables e below (T1.setTop (mkF m 17 (LS_RRIJsJsuuuuuuuuuuuuuu r0 r1 p2 z2 z3) [(.int p2), (.ref r1)])) _
    refine XS.iconst X1.here hx rfl (hb hby d5_17) ?_
    show Steps p.tables e below (T1.setTop (mkF m 18 (LS_RRIJsJsuuuuuuuuuuuuuu r0 r1 p2 z2 z3) [(.int (1 : Int32)), (.int p2), (.ref r1)])) _
    refine XS.iadd X1.here hx rfl (hb hby d5_18) rfl ?_
    show Steps p.tables e below (T1.setTop (mkF m 19 (LS_RRIJsJsuuuuuuuuuuuuuu r0 r1 p2 z2 z3) [(.int (p2 + (1 : Int32))), (.ref r1)])) _
    refine X1.laload hx (j := (p2 + (1 : Int32))) (v := (.long x1)) (by rw [e1]; exact Aq1.1) (State.isArrayOf_alike hZ.alike Aq1.2.1) Aq1.2.2 hin1 hat1 (g := (mkF m 19 (LS_RRIJsJsuuuuuuuuuuuuuu r0 r1 p2 z2 z3) [(.int (p2 + (1 : Int32))), (.ref r1)])) rfl rfl (hb hby d5_19) _ ?_
    exact k
  obtain ⟨T4, X4, e4, st4⟩ := getS2 X1 hx hZ hown (host := "") (Or.inl (hw _ (List.mem_of_getElem? (i := 30) rfl))) Via.refl e1 S1 (g := (mkF m 20 (LS_RRIJsJsuuuuuuuuuuuuuu r0 r1 p2 z2 z3) [(.long x1)])) rfl (hb hby d5_20)
  refine own_go (B := T4.setTop (mkF m 23 (LS_RRIJsJsuuuuuuuuuuuuuu r0 r1 p2 z2 z3) [(.long (36025922209447795 : Int64)), (.long x1)])) (fun t k => st4 _ k) ?_
  refine own_go (B := T4.setTop (mkF m 30 (LS_RRIJsJsuuuuuuuuuuuuuu r0 r1 p2 ((x1 - (36025922209447795 : Int64)) - ((z2.toUInt64 >>> ((63 : Int32) &&& 0x3f).toInt64.toUInt64).toInt64)) z3) [])) (fun t k => ?_) ?_
  · show Steps p.tables e below (T4.setTop (mkF m 23 (LS_RRIJsJsuuuuuuuuuuuuuu r0 r1 p2 z2 z3) [(.long (36025922209447795 : Int64)), (.long x1)])) _
    refine XS.lsub X4.here hx rfl (hb hby d5_23) rfl ?_
    show Steps p.tables e below (T4.setTop (mkF m 24 (LS_RRIJsJsuuuuuuuuuuuuuu r0 r1 p2 z2 z3) [(.long (x1 - (36025922209447795 : Int64)))])) _
    refine XS.lloadN X4.here hx rfl (hb hby d5_24) rfl ?_
    show Steps p.tables e below (T4.setTop (mkF m 25 (LS_RRIJsJsuuuuuuuuuuuuuu r0 r1 p2 z2 z3) [(.long z2), (.long (x1 - (36025922209447795 : Int64)))])) _
    refine XS.bipush X4.here hx rfl (hb hby d5_25) ?_
    show Steps p.tables e below (T4.setTop (mkF m 27 (LS_RRIJsJsuuuuuuuuuuuuuu r0 r1 p2 z2 z3) [(.int (63 : Int32)), (.long z2), (.long (x1 - (36025922209447795 : Int64)))])) _
    refine XS.lushr X4.here hx rfl (hb hby d5_27) rfl ?_
    show Steps p.tables e below (T4.setTop (mkF m 28 (LS_RRIJsJsuuuuuuuuuuuuuu r0 r1 p2 z2 z3) [(.long ((z2.toUInt64 >>> ((63 : Int32) &&& 0x3f).toInt64.toUInt64).toInt64)), (.long (x1 - (36025922209447795 : Int64)))])) _
    refine XS.lsub X4.here hx rfl (hb hby d5_28) rfl ?_
    show Steps p.tables e below (T4.setTop (mkF m 29 (LS_RRIJsJsuuuuuuuuuuuuuu r0 r1 p2 z2 z3) [(.long ((x1 - (36025922209447795 : Int64)) - ((z2.toUInt64 >>> ((63 : Int32) &&& 0x3f).toInt64.toUInt64).toInt64)))])) _
    refine XS.lstoreN X4.here hx rfl (hb hby d5_29) rfl (l' := (LS_RRIJsJsuuuuuuuuuuuuuu r0 r1 p2 ((x1 - (36025922209447795 : Int64)) - ((z2.toUInt64 >>> ((63 : Int32) &&& 0x3f).toInt64.toUInt64).toInt64)) z3)) rfl ?_
    exact k
  obtain ⟨z5, hz5⟩ : ∃ z, z = ((x1 - (36025922209447795 : Int64)) - ((z2.toUInt64 >>> ((63 : Int32) &&& 0x3f).toInt64.toUInt64).toInt64)) := ⟨_, rfl⟩
  refine own_go (B := T4.setTop (mkF m 30 (LS_RRIJsJsuuuuuuuuuuuuuu r0 r1 p2 z5 z3) [])) (fun t k => by rw [hz5] at k; exact k) ?_
  refine own_go (B := T4.setTop (mkF m 37 (LS_RRIJsJsJsuuuuuuuuuuuu r0 r1 p2 z5 z3 (z5 &&& (36028797018963967 : Int64))) [])) (fun t k => ?_) ?_
  · show Steps p.tables e below (T4.setTop (mkF m 30 (LS_RRIJsJsuuuuuuuuuuuuuu r0 r1 p2 z5 z3) [])) _
    refine XS.lloadN X4.here hx rfl (hb hby d5_30) rfl ?_
    show Steps p.tables e below (T4.setTop (mkF m 31 (LS_RRIJsJsuuuuuuuuuuuuuu r0 r1 p2 z5 z3) [(.long z5)])) _
    refine X4.ldc2Long hx hown (mvT hZ (hw _ (List.mem_of_getElem? (i := 29) rfl))) (g := (mkF m 31 (LS_RRIJsJsuuuuuuuuuuuuuu r0 r1 p2 z5 z3) [(.long z5)])) rfl (hb hby d5_31) _ ?_
    show Steps p.tables e below (T4.setTop (mkF m 34 (LS_RRIJsJsuuuuuuuuuuuuuu r0 r1 p2 z5 z3) [(.long (36028797018963967 : Int64)), (.long z5)])) _
    refine XS.land X4.here hx rfl (hb hby d5_34) rfl ?_
    show Steps p.tables e below (T4.setTop (mkF m 35 (LS_RRIJsJsuuuuuuuuuuuuuu r0 r1 p2 z5 z3) [(.long (z5 &&& (36028797018963967 : Int64)))])) _
    refine XS.lstore X4.here hx rfl (hb hby d5_35) rfl (l' := (LS_RRIJsJsJsuuuuuuuuuuuu r0 r1 p2 z5 z3 (z5 &&& (36028797018963967 : Int64)))) rfl ?_
    exact k
  obtain ⟨z6, hz6⟩ : ∃ z, z = (z5 &&& (36028797018963967 : Int64)) := ⟨_, rfl⟩
  refine own_go (B := T4.setTop (mkF m 37 (LS_RRIJsJsJsuuuuuuuuuuuu r0 r1 p2 z5 z3 z6) [])) (fun t k => by rw [hz6] at k; exact k) ?_
  refine own_go (B := T4.setTop (mkF m 42 (LS_RRIJsJsJsuuuuuuuuuuuu r0 r1 p2 z5 z3 z6) [(.long x2)])) (fun t k => ?_) ?_
  · show Steps p.tables e below (T4.setTop (mkF m 37 (LS_RRIJsJsJsuuuuuuuuuuuu r0 r1 p2 z5 z3 z6) [])) _
    refine XS.aloadN X4.here hx rfl (hb hby d5_37) rfl rfl ?_
    show Steps p.tables e below (T4.setTop (mkF m 38 (LS_RRIJsJsJsuuuuuuuuuuuu r0 r1 p2 z5 z3 z6) [(.ref r1)])) _
    refine XS.iloadN X4.here hx rfl (hb hby d5_38) rfl ?_
    show Steps p.tables e below (T4.setTop (mkF m 39 (LS_RRIJsJsJsuuuuuuuuuuuu r0 r1 p2 z5 z3 z6) [(.int p2), (.ref r1)])) _
    refine XS.iconst X4.here hx rfl (hb hby d5_39) ?_
    show Steps p.tables e below (T4.setTop (mkF m 40 (LS_RRIJsJsJsuuuuuuuuuuuu r0 r1 p2 z5 z3 z6) [(.int (2 : Int32)), (.int p2), (.ref r1)])) _
    refine XS.iadd X4.here hx rfl (hb hby d5_40) rfl ?_
    show Steps p.tables e below (T4.setTop (mkF m 41 (LS_RRIJsJsJsuuuuuuuuuuuu r0 r1 p2 z5 z3 z6) [(.int (p2 + (2 : Int32))), (.ref r1)])) _
    refine X4.laload hx (j := (p2 + (2 : Int32))) (v := (.long x2)) (by rw [e4]; exact Aq1.1) (State.isArrayOf_alike hZ.alike Aq1.2.1) Aq1.2.2 hin2 hat2 (g := (mkF m 41 (LS_RRIJsJsJsuuuuuuuuuuuu r0 r1 p2 z5 z3 z6) [(.int (p2 + (2 : Int32))), (.ref r1)])) rfl rfl (hb hby d5_41) _ ?_
    exact k
  obtain ⟨T7, X7, e7, st7⟩ := getS2 X4 hx hZ hown (host := "") (Or.inl (hw _ (List.mem_of_getElem? (i := 32) rfl))) Via.refl e4 S2 (g := (mkF m 42 (LS_RRIJsJsJsuuuuuuuuuuuu r0 r1 p2 z5 z3 z6) [(.long x2)])) rfl (hb hby d5_42)
  refine own_go (B := T7.setTop (mkF m 45 (LS_RRIJsJsJsuuuuuuuuuuuu r0 r1 p2 z5 z3 z6) [(.long (1084959616957103 : Int64)), (.long x2)])) (fun t k => st7 _ k) ?_
  refine own_go (B := T7.setTop (mkF m 52 (LS_RRIJsJsJsuuuuuuuuuuuu r0 r1 p2 ((x2 - (1084959616957103 : Int64)) - ((z5.toUInt64 >>> ((63 : Int32) &&& 0x3f).toInt64.toUInt64).toInt64)) z3 z6) [])) (fun t k => ?_) ?_
  · show Steps p.tables e below (T7.setTop (mkF m 45 (LS_RRIJsJsJsuuuuuuuuuuuu r0 r1 p2 z5 z3 z6) [(.long (1084959616957103 : Int64)), (.long x2)])) _
    refine XS.lsub X7.here hx rfl (hb hby d5_45) rfl ?_
    show Steps p.tables e below (T7.setTop (mkF m 46 (LS_RRIJsJsJsuuuuuuuuuuuu r0 r1 p2 z5 z3 z6) [(.long (x2 - (1084959616957103 : Int64)))])) _
    refine XS.lloadN X7.here hx rfl (hb hby d5_46) rfl ?_
    show Steps p.tables e below (T7.setTop (mkF m 47 (LS_RRIJsJsJsuuuuuuuuuuuu r0 r1 p2 z5 z3 z6) [(.long z5), (.long (x2 - (1084959616957103 : Int64)))])) _
    refine XS.bipush X7.here hx rfl (hb hby d5_47) ?_
    show Steps p.tables e below (T7.setTop (mkF m 49 (LS_RRIJsJsJsuuuuuuuuuuuu r0 r1 p2 z5 z3 z6) [(.int (63 : Int32)), (.long z5), (.long (x2 - (1084959616957103 : Int64)))])) _
    refine XS.lushr X7.here hx rfl (hb hby d5_49) rfl ?_
    show Steps p.tables e below (T7.setTop (mkF m 50 (LS_RRIJsJsJsuuuuuuuuuuuu r0 r1 p2 z5 z3 z6) [(.long ((z5.toUInt64 >>> ((63 : Int32) &&& 0x3f).toInt64.toUInt64).toInt64)), (.long (x2 - (1084959616957103 : Int64)))])) _
    refine XS.lsub X7.here hx rfl (hb hby d5_50) rfl ?_
    show Steps p.tables e below (T7.setTop (mkF m 51 (LS_RRIJsJsJsuuuuuuuuuuuu r0 r1 p2 z5 z3 z6) [(.long ((x2 - (1084959616957103 : Int64)) - ((z5.toUInt64 >>> ((63 : Int32) &&& 0x3f).toInt64.toUInt64).toInt64)))])) _
    refine XS.lstoreN X7.here hx rfl (hb hby d5_51) rfl (l' := (LS_RRIJsJsJsuuuuuuuuuuuu r0 r1 p2 ((x2 - (1084959616957103 : Int64)) - ((z5.toUInt64 >>> ((63 : Int32) &&& 0x3f).toInt64.toUInt64).toInt64)) z3 z6)) rfl ?_
    exact k
  obtain ⟨z8, hz8⟩ : ∃ z, z = ((x2 - (1084959616957103 : Int64)) - ((z5.toUInt64 >>> ((63 : Int32) &&& 0x3f).toInt64.toUInt64).toInt64)) := ⟨_, rfl⟩
  refine own_go (B := T7.setTop (mkF m 52 (LS_RRIJsJsJsuuuuuuuuuuuu r0 r1 p2 z8 z3 z6) [])) (fun t k => by rw [hz8] at k; exact k) ?_
  refine own_go (B := T7.setTop (mkF m 59 (LS_RRIJsJsJsJsuuuuuuuuuu r0 r1 p2 z8 z3 z6 (z8 &&& (36028797018963967 : Int64))) [])) (fun t k => ?_) ?_
  · show Steps p.tables e below (T7.setTop (mkF m 52 (LS_RRIJsJsJsuuuuuuuuuuuu r0 r1 p2 z8 z3 z6) [])) _
    refine XS.lloadN X7.here hx rfl (hb hby d5_52) rfl ?_
    show Steps p.tables e below (T7.setTop (mkF m 53 (LS_RRIJsJsJsuuuuuuuuuuuu r0 r1 p2 z8 z3 z6) [(.long z8)])) _
    refine X7.ldc2Long hx hown (mvT hZ (hw _ (List.mem_of_getElem? (i := 29) rfl))) (g := (mkF m 53 (LS_RRIJsJsJsuuuuuuuuuuuu r0 r1 p2 z8 z3 z6) [(.long z8)])) rfl (hb hby d5_53) _ ?_
    show Steps p.tables e below (T7.setTop (mkF m 56 (LS_RRIJsJsJsuuuuuuuuuuuu r0 r1 p2 z8 z3 z6) [(.long (36028797018963967 : Int64)), (.long z8)])) _
    refine XS.land X7.here hx rfl (hb hby d5_56) rfl ?_
    show Steps p.tables e below (T7.setTop (mkF m 57 (LS_RRIJsJsJsuuuuuuuuuuuu r0 r1 p2 z8 z3 z6) [(.long (z8 &&& (36028797018963967 : Int64)))])) _
    refine XS.lstore X7.here hx rfl (hb hby d5_57) rfl (l' := (LS_RRIJsJsJsJsuuuuuuuuuu r0 r1 p2 z8 z3 z6 (z8 &&& (36028797018963967 : Int64)))) rfl ?_
    exact k
  obtain ⟨z9, hz9⟩ : ∃ z, z = (z8 &&& (36028797018963967 : Int64)) := ⟨_, rfl⟩
  refine own_go (B := T7.setTop (mkF m 59 (LS_RRIJsJsJsJsuuuuuuuuuu r0 r1 p2 z8 z3 z6 z9) [])) (fun t k => by rw [hz9] at k; exact k) ?_
  refine own_go (B := T7.setTop (mkF m 64 (LS_RRIJsJsJsJsuuuuuuuuuu r0 r1 p2 z8 z3 z6 z9) [(.long x3)])) (fun t k => ?_) ?_
  · show Steps p.tables e below (T7.setTop (mkF m 59 (LS_RRIJsJsJsJsuuuuuuuuuu r0 r1 p2 z8 z3 z6 z9) [])) _
    refine XS.aloadN X7.here hx rfl (hb hby d5_59) rfl rfl ?_
    show Steps p.tables e below (T7.setTop (mkF m 60 (LS_RRIJsJsJsJsuuuuuuuuuu r0 r1 p2 z8 z3 z6 z9) [(.ref r1)])) _
    refine XS.iloadN X7.here hx rfl (hb hby d5_60) rfl ?_
    show Steps p.tables e below (T7.setTop (mkF m 61 (LS_RRIJsJsJsJsuuuuuuuuuu r0 r1 p2 z8 z3 z6 z9) [(.int p2), (.ref r1)])) _
    refine XS.iconst X7.here hx rfl (hb hby d5_61) ?_
    show Steps p.tables e below (T7.setTop (mkF m 62 (LS_RRIJsJsJsJsuuuuuuuuuu r0 r1 p2 z8 z3 z6 z9) [(.int (3 : Int32)), (.int p2), (.ref r1)])) _
    refine XS.iadd X7.here hx rfl (hb hby d5_62) rfl ?_
    show Steps p.tables e below (T7.setTop (mkF m 63 (LS_RRIJsJsJsJsuuuuuuuuuu r0 r1 p2 z8 z3 z6 z9) [(.int (p2 + (3 : Int32))), (.ref r1)])) _
    refine X7.laload hx (j := (p2 + (3 : Int32))) (v := (.long x3)) (by rw [e7]; exact Aq1.1) (State.isArrayOf_alike hZ.alike Aq1.2.1) Aq1.2.2 hin3 hat3 (g := (mkF m 63 (LS_RRIJsJsJsJsuuuuuuuuuu r0 r1 p2 z8 z3 z6 z9) [(.int (p2 + (3 : Int32))), (.ref r1)])) rfl rfl (hb hby d5_63) _ ?_
    exact k
  obtain ⟨T10, X10, e10, st10⟩ := getS2 X7 hx hZ hown (host := "") (Or.inl (hw _ (List.mem_of_getElem? (i := 34) rfl))) Via.refl e7 S3 (g := (mkF m 64 (LS_RRIJsJsJsJsuuuuuuuuuu r0 r1 p2 z8 z3 z6 z9) [(.long x3)])) rfl (hb hby d5_64)
  refine own_go (B := T10.setTop (mkF m 67 (LS_RRIJsJsJsJsuuuuuuuuuu r0 r1 p2 z8 z3 z6 z9) [(.long (7925923977987733 : Int64)), (.long x3)])) (fun t k => st10 _ k) ?_
  refine own_go (B := T10.setTop (mkF m 74 (LS_RRIJsJsJsJsuuuuuuuuuu r0 r1 p2 ((x3 - (7925923977987733 : Int64)) - ((z8.toUInt64 >>> ((63 : Int32) &&& 0x3f).toInt64.toUInt64).toInt64)) z3 z6 z9) [])) (fun t k => ?_) ?_
  · show Steps p.tables e below (T10.setTop (mkF m 67 (LS_RRIJsJsJsJsuuuuuuuuuu r0 r1 p2 z8 z3 z6 z9) [(.long (7925923977987733 : Int64)), (.long x3)])) _
    refine XS.lsub X10.here hx rfl (hb hby d5_67) rfl ?_
    show Steps p.tables e below (T10.setTop (mkF m 68 (LS_RRIJsJsJsJsuuuuuuuuuu r0 r1 p2 z8 z3 z6 z9) [(.long (x3 - (7925923977987733 : Int64)))])) _
    refine XS.lloadN X10.here hx rfl (hb hby d5_68) rfl ?_
    show Steps p.tables e below (T10.setTop (mkF m 69 (LS_RRIJsJsJsJsuuuuuuuuuu r0 r1 p2 z8 z3 z6 z9) [(.long z8), (.long (x3 - (7925923977987733 : Int64)))])) _
    refine XS.bipush X10.here hx rfl (hb hby d5_69) ?_
    show Steps p.tables e below (T10.setTop (mkF m 71 (LS_RRIJsJsJsJsuuuuuuuuuu r0 r1 p2 z8 z3 z6 z9) [(.int (63 : Int32)), (.long z8), (.long (x3 - (7925923977987733 : Int64)))])) _
    refine XS.lushr X10.here hx rfl (hb hby d5_71) rfl ?_
    show Steps p.tables e below (T10.setTop (mkF m 72 (LS_RRIJsJsJsJsuuuuuuuuuu r0 r1 p2 z8 z3 z6 z9) [(.long ((z8.toUInt64 >>> ((63 : Int32) &&& 0x3f).toInt64.toUInt64).toInt64)), (.long (x3 - (7925923977987733 : Int64)))])) _
    refine XS.lsub X10.here hx rfl (hb hby d5_72) rfl ?_
    show Steps p.tables e below (T10.setTop (mkF m 73 (LS_RRIJsJsJsJsuuuuuuuuuu r0 r1 p2 z8 z3 z6 z9) [(.long ((x3 - (7925923977987733 : Int64)) - ((z8.toUInt64 >>> ((63 : Int32) &&& 0x3f).toInt64.toUInt64).toInt64)))])) _
    refine XS.lstoreN X10.here hx rfl (hb hby d5_73) rfl (l' := (LS_RRIJsJsJsJsuuuuuuuuuu r0 r1 p2 ((x3 - (7925923977987733 : Int64)) - ((z8.toUInt64 >>> ((63 : Int32) &&& 0x3f).toInt64.toUInt64).toInt64)) z3 z6 z9)) rfl ?_
    exact k
  obtain ⟨z11, hz11⟩ : ∃ z, z = ((x3 - (7925923977987733 : Int64)) - ((z8.toUInt64 >>> ((63 : Int32) &&& 0x3f).toInt64.toUInt64).toInt64)) := ⟨_, rfl⟩
  refine own_go (B := T10.setTop (mkF m 74 (LS_RRIJsJsJsJsuuuuuuuuuu r0 r1 p2 z11 z3 z6 z9) [])) (fun t k => by rw [hz11] at k; exact k) ?_
  refine own_go (B := T10.setTop (mkF m 81 (LS_RRIJsJsJsJsJsuuuuuuuu r0 r1 p2 z11 z3 z6 z9 (z11 &&& (36028797018963967 : Int64))) [])) (fun t k => ?_) ?_
  · show Steps p.tables e below (T10.setTop (mkF m 74 (LS_RRIJsJsJsJsuuuuuuuuuu r0 r1 p2 z11 z3 z6 z9) [])) _
    refine XS.lloadN X10.here hx rfl (hb hby d5_74) rfl ?_
    show Steps p.tables e below (T10.setTop (mkF m 75 (LS_RRIJsJsJsJsuuuuuuuuuu r0 r1 p2 z11 z3 z6 z9) [(.long z11)])) _
    refine X10.ldc2Long hx hown (mvT hZ (hw _ (List.mem_of_getElem? (i := 29) rfl))) (g := (mkF m 75 (LS_RRIJsJsJsJsuuuuuuuuuu r0 r1 p2 z11 z3 z6 z9) [(.long z11)])) rfl (hb hby d5_75) _ ?_
    show Steps p.tables e below (T10.setTop (mkF m 78 (LS_RRIJsJsJsJsuuuuuuuuuu r0 r1 p2 z11 z3 z6 z9) [(.long (36028797018963967 : Int64)), (.long z11)])) _
    refine XS.land X10.here hx rfl (hb hby d5_78) rfl ?_
    show Steps p.tables e below (T10.setTop (mkF m 79 (LS_RRIJsJsJsJsuuuuuuuuuu r0 r1 p2 z11 z3 z6 z9) [(.long (z11 &&& (36028797018963967 : Int64)))])) _
    refine XS.lstore X10.here hx rfl (hb hby d5_79) rfl (l' := (LS_RRIJsJsJsJsJsuuuuuuuu r0 r1 p2 z11 z3 z6 z9 (z11 &&& (36028797018963967 : Int64)))) rfl ?_
    exact k
  obtain ⟨z12, hz12⟩ : ∃ z, z = (z11 &&& (36028797018963967 : Int64)) := ⟨_, rfl⟩
  refine own_go (B := T10.setTop (mkF m 81 (LS_RRIJsJsJsJsJsuuuuuuuu r0 r1 p2 z11 z3 z6 z9 z12) [])) (fun t k => by rw [hz12] at k; exact k) ?_
  refine own_go (B := T10.setTop (mkF m 86 (LS_RRIJsJsJsJsJsuuuuuuuu r0 r1 p2 z11 z3 z6 z9 z12) [(.long x4)])) (fun t k => ?_) ?_
  · show Steps p.tables e below (T10.setTop (mkF m 81 (LS_RRIJsJsJsJsJsuuuuuuuu r0 r1 p2 z11 z3 z6 z9 z12) [])) _
    refine XS.aloadN X10.here hx rfl (hb hby d5_81) rfl rfl ?_
    show Steps p.tables e below (T10.setTop (mkF m 82 (LS_RRIJsJsJsJsJsuuuuuuuu r0 r1 p2 z11 z3 z6 z9 z12) [(.ref r1)])) _
    refine XS.iloadN X10.here hx rfl (hb hby d5_82) rfl ?_
    show Steps p.tables e below (T10.setTop (mkF m 83 (LS_RRIJsJsJsJsJsuuuuuuuu r0 r1 p2 z11 z3 z6 z9 z12) [(.int p2), (.ref r1)])) _
    refine XS.iconst X10.here hx rfl (hb hby d5_83) ?_
    show Steps p.tables e below (T10.setTop (mkF m 84 (LS_RRIJsJsJsJsJsuuuuuuuu r0 r1 p2 z11 z3 z6 z9 z12) [(.int (4 : Int32)), (.int p2), (.ref r1)])) _
    refine XS.iadd X10.here hx rfl (hb hby d5_84) rfl ?_
    show Steps p.tables e below (T10.setTop (mkF m 85 (LS_RRIJsJsJsJsJsuuuuuuuu r0 r1 p2 z11 z3 z6 z9 z12) [(.int (p2 + (4 : Int32))), (.ref r1)])) _
    refine X10.laload hx (j := (p2 + (4 : Int32))) (v := (.long x4)) (by rw [e10]; exact Aq1.1) (State.isArrayOf_alike hZ.alike Aq1.2.1) Aq1.2.2 hin4 hat4 (g := (mkF m 85 (LS_RRIJsJsJsJsJsuuuuuuuu r0 r1 p2 z11 z3 z6 z9 z12) [(.int (p2 + (4 : Int32))), (.ref r1)])) rfl rfl (hb hby d5_85) _ ?_
    exact k
  obtain ⟨T13, X13, e13, st13⟩ := getS2 X10 hx hZ hown (host := "") (Or.inl (hw _ (List.mem_of_getElem? (i := 36) rfl))) Via.refl e10 S4 (g := (mkF m 86 (LS_RRIJsJsJsJsJsuuuuuuuu r0 r1 p2 z11 z3 z6 z9 z12) [(.long x4)])) rfl (hb hby d5_86)
  refine own_go (B := T13.setTop (mkF m 89 (LS_RRIJsJsJsJsJsuuuuuuuu r0 r1 p2 z11 z3 z6 z9 z12) [(.long (16551456537884751 : Int64)), (.long x4)])) (fun t k => st13 _ k) ?_
  refine own_go (B := T13.setTop (mkF m 96 (LS_RRIJsJsJsJsJsuuuuuuuu r0 r1 p2 ((x4 - (16551456537884751 : Int64)) - ((z11.toUInt64 >>> ((63 : Int32) &&& 0x3f).toInt64.toUInt64).toInt64)) z3 z6 z9 z12) [])) (fun t k => ?_) ?_
  · show Steps p.tables e below (T13.setTop (mkF m 89 (LS_RRIJsJsJsJsJsuuuuuuuu r0 r1 p2 z11 z3 z6 z9 z12) [(.long (16551456537884751 : Int64)), (.long x4)])) _
    refine XS.lsub X13.here hx rfl (hb hby d5_89) rfl ?_
    show Steps p.tables e below (T13.setTop (mkF m 90 (LS_RRIJsJsJsJsJsuuuuuuuu r0 r1 p2 z11 z3 z6 z9 z12) [(.long (x4 - (16551456537884751 : Int64)))])) _
    refine XS.lloadN X13.here hx rfl (hb hby d5_90) rfl ?_
    show Steps p.tables e below (T13.setTop (mkF m 91 (LS_RRIJsJsJsJsJsuuuuuuuu r0 r1 p2 z11 z3 z6 z9 z12) [(.long z11), (.long (x4 - (16551456537884751 : Int64)))])) _
    refine XS.bipush X13.here hx rfl (hb hby d5_91) ?_
    show Steps p.tables e below (T13.setTop (mkF m 93 (LS_RRIJsJsJsJsJsuuuuuuuu r0 r1 p2 z11 z3 z6 z9 z12) [(.int (63 : Int32)), (.long z11), (.long (x4 - (16551456537884751 : Int64)))])) _
    refine XS.lushr X13.here hx rfl (hb hby d5_93) rfl ?_
    show Steps p.tables e below (T13.setTop (mkF m 94 (LS_RRIJsJsJsJsJsuuuuuuuu r0 r1 p2 z11 z3 z6 z9 z12) [(.long ((z11.toUInt64 >>> ((63 : Int32) &&& 0x3f).toInt64.toUInt64).toInt64)), (.long (x4 - (16551456537884751 : Int64)))])) _
    refine XS.lsub X13.here hx rfl (hb hby d5_94) rfl ?_
    show Steps p.tables e below (T13.setTop (mkF m 95 (LS_RRIJsJsJsJsJsuuuuuuuu r0 r1 p2 z11 z3 z6 z9 z12) [(.long ((x4 - (16551456537884751 : Int64)) - ((z11.toUInt64 >>> ((63 : Int32) &&& 0x3f).toInt64.toUInt64).toInt64)))])) _
    refine XS.lstoreN X13.here hx rfl (hb hby d5_95) rfl (l' := (LS_RRIJsJsJsJsJsuuuuuuuu r0 r1 p2 ((x4 - (16551456537884751 : Int64)) - ((z11.toUInt64 >>> ((63 : Int32) &&& 0x3f).toInt64.toUInt64).toInt64)) z3 z6 z9 z12)) rfl ?_
    exact k
  obtain ⟨z14, hz14⟩ : ∃ z, z = ((x4 - (16551456537884751 : Int64)) - ((z11.toUInt64 >>> ((63 : Int32) &&& 0x3f).toInt64.toUInt64).toInt64)) := ⟨_, rfl⟩
  refine own_go (B := T13.setTop (mkF m 96 (LS_RRIJsJsJsJsJsuuuuuuuu r0 r1 p2 z14 z3 z6 z9 z12) [])) (fun t k => by rw [hz14] at k; exact k) ?_
  refine own_go (B := T13.setTop (mkF m 103 (LS_RRIJsJsJsJsJsJsuuuuuu r0 r1 p2 z14 z3 z6 z9 z12 (z14 &&& (36028797018963967 : Int64))) [])) (fun t k => ?_) ?_
  · show Steps p.tables e below (T13.setTop (mkF m 96 (LS_RRIJsJsJsJsJsuuuuuuuu r0 r1 p2 z14 z3 z6 z9 z12) [])) _
    refine XS.lloadN X13.here hx rfl (hb hby d5_96) rfl ?_
    show Steps p.tables e below (T13.setTop (mkF m 97 (LS_RRIJsJsJsJsJsuuuuuuuu r0 r1 p2 z14 z3 z6 z9 z12) [(.long z14)])) _
    refine X13.ldc2Long hx hown (mvT hZ (hw _ (List.mem_of_getElem? (i := 29) rfl))) (g := (mkF m 97 (LS_RRIJsJsJsJsJsuuuuuuuu r0 r1 p2 z14 z3 z6 z9 z12) [(.long z14)])) rfl (hb hby d5_97) _ ?_
    show Steps p.tables e below (T13.setTop (mkF m 100 (LS_RRIJsJsJsJsJsuuuuuuuu r0 r1 p2 z14 z3 z6 z9 z12) [(.long (36028797018963967 : Int64)), (.long z14)])) _
    refine XS.land X13.here hx rfl (hb hby d5_100) rfl ?_
    show Steps p.tables e below (T13.setTop (mkF m 101 (LS_RRIJsJsJsJsJsuuuuuuuu r0 r1 p2 z14 z3 z6 z9 z12) [(.long (z14 &&& (36028797018963967 : Int64)))])) _
    refine XS.lstore X13.here hx rfl (hb hby d5_101) rfl (l' := (LS_RRIJsJsJsJsJsJsuuuuuu r0 r1 p2 z14 z3 z6 z9 z12 (z14 &&& (36028797018963967 : Int64)))) rfl ?_
    exact k
  obtain ⟨z15, hz15⟩ : ∃ z, z = (z14 &&& (36028797018963967 : Int64)) := ⟨_, rfl⟩
  refine own_go (B := T13.setTop (mkF m 103 (LS_RRIJsJsJsJsJsJsuuuuuu r0 r1 p2 z14 z3 z6 z9 z12 z15) [])) (fun t k => by rw [hz15] at k; exact k) ?_
  refine own_go (B := T13.setTop (mkF m 108 (LS_RRIJsJsJsJsJsJsuuuuuu r0 r1 p2 z14 z3 z6 z9 z12 z15) [(.long x5)])) (fun t k => ?_) ?_
  · show Steps p.tables e below (T13.setTop (mkF m 103 (LS_RRIJsJsJsJsJsJsuuuuuu r0 r1 p2 z14 z3 z6 z9 z12 z15) [])) _
    refine XS.aloadN X13.here hx rfl (hb hby d5_103) rfl rfl ?_
    show Steps p.tables e below (T13.setTop (mkF m 104 (LS_RRIJsJsJsJsJsJsuuuuuu r0 r1 p2 z14 z3 z6 z9 z12 z15) [(.ref r1)])) _
    refine XS.iloadN X13.here hx rfl (hb hby d5_104) rfl ?_
    show Steps p.tables e below (T13.setTop (mkF m 105 (LS_RRIJsJsJsJsJsJsuuuuuu r0 r1 p2 z14 z3 z6 z9 z12 z15) [(.int p2), (.ref r1)])) _
    refine XS.iconst X13.here hx rfl (hb hby d5_105) ?_
    show Steps p.tables e below (T13.setTop (mkF m 106 (LS_RRIJsJsJsJsJsJsuuuuuu r0 r1 p2 z14 z3 z6 z9 z12 z15) [(.int (5 : Int32)), (.int p2), (.ref r1)])) _
    refine XS.iadd X13.here hx rfl (hb hby d5_106) rfl ?_
    show Steps p.tables e below (T13.setTop (mkF m 107 (LS_RRIJsJsJsJsJsJsuuuuuu r0 r1 p2 z14 z3 z6 z9 z12 z15) [(.int (p2 + (5 : Int32))), (.ref r1)])) _
    refine X13.laload hx (j := (p2 + (5 : Int32))) (v := (.long x5)) (by rw [e13]; exact Aq1.1) (State.isArrayOf_alike hZ.alike Aq1.2.1) Aq1.2.2 hin5 hat5 (g := (mkF m 107 (LS_RRIJsJsJsJsJsJsuuuuuu r0 r1 p2 z14 z3 z6 z9 z12 z15) [(.int (p2 + (5 : Int32))), (.ref r1)])) rfl rfl (hb hby d5_107) _ ?_
    exact k
  obtain ⟨T16, X16, e16, st16⟩ := getS2 X13 hx hZ hown (host := "") (Or.inl (hw _ (List.mem_of_getElem? (i := 38) rfl))) Via.refl e13 S5 (g := (mkF m 108 (LS_RRIJsJsJsJsJsJsuuuuuu r0 r1 p2 z14 z3 z6 z9 z12 z15) [(.long x5)])) rfl (hb hby d5_108)
  refine own_go (B := T16.setTop (mkF m 111 (LS_RRIJsJsJsJsJsJsuuuuuu r0 r1 p2 z14 z3 z6 z9 z12 z15) [(.long (23443114579904617 : Int64)), (.long x5)])) (fun t k => st16 _ k) ?_
  refine own_go (B := T16.setTop (mkF m 118 (LS_RRIJsJsJsJsJsJsuuuuuu r0 r1 p2 ((x5 - (23443114579904617 : Int64)) - ((z14.toUInt64 >>> ((63 : Int32) &&& 0x3f).toInt64.toUInt64).toInt64)) z3 z6 z9 z12 z15) [])) (fun t k => ?_) ?_
  · show Steps p.tables e below (T16.setTop (mkF m 111 (LS_RRIJsJsJsJsJsJsuuuuuu r0 r1 p2 z14 z3 z6 z9 z12 z15) [(.long (23443114579904617 : Int64)), (.long x5)])) _
    refine XS.lsub X16.here hx rfl (hb hby d5_111) rfl ?_
    show Steps p.tables e below (T16.setTop (mkF m 112 (LS_RRIJsJsJsJsJsJsuuuuuu r0 r1 p2 z14 z3 z6 z9 z12 z15) [(.long (x5 - (23443114579904617 : Int64)))])) _
    refine XS.lloadN X16.here hx rfl (hb hby d5_112) rfl ?_
    show Steps p.tables e below (T16.setTop (mkF m 113 (LS_RRIJsJsJsJsJsJsuuuuuu r0 r1 p2 z14 z3 z6 z9 z12 z15) [(.long z14), (.long (x5 - (23443114579904617 : Int64)))])) _
    refine XS.bipush X16.here hx rfl (hb hby d5_113) ?_
    show Steps p.tables e below (T16.setTop (mkF m 115 (LS_RRIJsJsJsJsJsJsuuuuuu r0 r1 p2 z14 z3 z6 z9 z12 z15) [(.int (63 : Int32)), (.long z14), (.long (x5 - (23443114579904617 : Int64)))])) _
    refine XS.lushr X16.here hx rfl (hb hby d5_115) rfl ?_
    show Steps p.tables e below (T16.setTop (mkF m 116 (LS_RRIJsJsJsJsJsJsuuuuuu r0 r1 p2 z14 z3 z6 z9 z12 z15) [(.long ((z14.toUInt64 >>> ((63 : Int32) &&& 0x3f).toInt64.toUInt64).toInt64)), (.long (x5 - (23443114579904617 : Int64)))])) _
    refine XS.lsub X16.here hx rfl (hb hby d5_116) rfl ?_
    show Steps p.tables e below (T16.setTop (mkF m 117 (LS_RRIJsJsJsJsJsJsuuuuuu r0 r1 p2 z14 z3 z6 z9 z12 z15) [(.long ((x5 - (23443114579904617 : Int64)) - ((z14.toUInt64 >>> ((63 : Int32) &&& 0x3f).toInt64.toUInt64).toInt64)))])) _
    refine XS.lstoreN X16.here hx rfl (hb hby d5_117) rfl (l' := (LS_RRIJsJsJsJsJsJsuuuuuu r0 r1 p2 ((x5 - (23443114579904617 : Int64)) - ((z14.toUInt64 >>> ((63 : Int32) &&& 0x3f).toInt64.toUInt64).toInt64)) z3 z6 z9 z12 z15)) rfl ?_
    exact k
  obtain ⟨z17, hz17⟩ : ∃ z, z = ((x5 - (23443114579904617 : Int64)) - ((z14.toUInt64 >>> ((63 : Int32) &&& 0x3f).toInt64.toUInt64).toInt64)) := ⟨_, rfl⟩
  refine own_go (B := T16.setTop (mkF m 118 (LS_RRIJsJsJsJsJsJsuuuuuu r0 r1 p2 z17 z3 z6 z9 z12 z15) [])) (fun t k => by rw [hz17] at k; exact k) ?_
  refine own_go (B := T16.setTop (mkF m 125 (LS_RRIJsJsJsJsJsJsJsuuuu r0 r1 p2 z17 z3 z6 z9 z12 z15 (z17 &&& (36028797018963967 : Int64))) [])) (fun t k => ?_) ?_
  · show Steps p.tables e below (T16.setTop (mkF m 118 (LS_RRIJsJsJsJsJsJsuuuuuu r0 r1 p2 z17 z3 z6 z9 z12 z15) [])) _
    refine XS.lloadN X16.here hx rfl (hb hby d5_118) rfl ?_
    show Steps p.tables e below (T16.setTop (mkF m 119 (LS_RRIJsJsJsJsJsJsuuuuuu r0 r1 p2 z17 z3 z6 z9 z12 z15) [(.long z17)])) _
    refine X16.ldc2Long hx hown (mvT hZ (hw _ (List.mem_of_getElem? (i := 29) rfl))) (g := (mkF m 119 (LS_RRIJsJsJsJsJsJsuuuuuu r0 r1 p2 z17 z3 z6 z9 z12 z15) [(.long z17)])) rfl (hb hby d5_119) _ ?_
    show Steps p.tables e below (T16.setTop (mkF m 122 (LS_RRIJsJsJsJsJsJsuuuuuu r0 r1 p2 z17 z3 z6 z9 z12 z15) [(.long (36028797018963967 : Int64)), (.long z17)])) _
    refine XS.land X16.here hx rfl (hb hby d5_122) rfl ?_
    show Steps p.tables e below (T16.setTop (mkF m 123 (LS_RRIJsJsJsJsJsJsuuuuuu r0 r1 p2 z17 z3 z6 z9 z12 z15) [(.long (z17 &&& (36028797018963967 : Int64)))])) _
    refine XS.lstore X16.here hx rfl (hb hby d5_123) rfl (l' := (LS_RRIJsJsJsJsJsJsJsuuuu r0 r1 p2 z17 z3 z6 z9 z12 z15 (z17 &&& (36028797018963967 : Int64)))) rfl ?_
    exact k
  obtain ⟨z18, hz18⟩ : ∃ z, z = (z17 &&& (36028797018963967 : Int64)) := ⟨_, rfl⟩
  refine own_go (B := T16.setTop (mkF m 125 (LS_RRIJsJsJsJsJsJsJsuuuu r0 r1 p2 z17 z3 z6 z9 z12 z15 z18) [])) (fun t k => by rw [hz18] at k; exact k) ?_
  refine own_go (B := T16.setTop (mkF m 131 (LS_RRIJsJsJsJsJsJsJsuuuu r0 r1 p2 z17 z3 z6 z9 z12 z15 z18) [(.long x6)])) (fun t k => ?_) ?_
  · show Steps p.tables e below (T16.setTop (mkF m 125 (LS_RRIJsJsJsJsJsJsJsuuuu r0 r1 p2 z17 z3 z6 z9 z12 z15 z18) [])) _
    refine XS.aloadN X16.here hx rfl (hb hby d5_125) rfl rfl ?_
    show Steps p.tables e below (T16.setTop (mkF m 126 (LS_RRIJsJsJsJsJsJsJsuuuu r0 r1 p2 z17 z3 z6 z9 z12 z15 z18) [(.ref r1)])) _
    refine XS.iloadN X16.here hx rfl (hb hby d5_126) rfl ?_
    show Steps p.tables e below (T16.setTop (mkF m 127 (LS_RRIJsJsJsJsJsJsJsuuuu r0 r1 p2 z17 z3 z6 z9 z12 z15 z18) [(.int p2), (.ref r1)])) _
    refine XS.bipush X16.here hx rfl (hb hby d5_127) ?_
    show Steps p.tables e below (T16.setTop (mkF m 129 (LS_RRIJsJsJsJsJsJsJsuuuu r0 r1 p2 z17 z3 z6 z9 z12 z15 z18) [(.int (6 : Int32)), (.int p2), (.ref r1)])) _
    refine XS.iadd X16.here hx rfl (hb hby d5_129) rfl ?_
    show Steps p.tables e below (T16.setTop (mkF m 130 (LS_RRIJsJsJsJsJsJsJsuuuu r0 r1 p2 z17 z3 z6 z9 z12 z15 z18) [(.int (p2 + (6 : Int32))), (.ref r1)])) _
    refine X16.laload hx (j := (p2 + (6 : Int32))) (v := (.long x6)) (by rw [e16]; exact Aq1.1) (State.isArrayOf_alike hZ.alike Aq1.2.1) Aq1.2.2 hin6 hat6 (g := (mkF m 130 (LS_RRIJsJsJsJsJsJsJsuuuu r0 r1 p2 z17 z3 z6 z9 z12 z15 z18) [(.int (p2 + (6 : Int32))), (.ref r1)])) rfl rfl (hb hby d5_130) _ ?_
    exact k
  obtain ⟨T19, X19, e19, st19⟩ := getS2 X16 hx hZ hown (host := "") (Or.inl (hw _ (List.mem_of_getElem? (i := 40) rfl))) Via.refl e16 S6 (g := (mkF m 131 (LS_RRIJsJsJsJsJsJsJsuuuu r0 r1 p2 z17 z3 z6 z9 z12 z15 z18) [(.long x6)])) rfl (hb hby d5_131)
  refine own_go (B := T19.setTop (mkF m 134 (LS_RRIJsJsJsJsJsJsJsuuuu r0 r1 p2 z17 z3 z6 z9 z12 z15 z18) [(.long (1829881462546425 : Int64)), (.long x6)])) (fun t k => st19 _ k) ?_
  refine own_go (B := T19.setTop (mkF m 141 (LS_RRIJsJsJsJsJsJsJsuuuu r0 r1 p2 ((x6 - (1829881462546425 : Int64)) - ((z17.toUInt64 >>> ((63 : Int32) &&& 0x3f).toInt64.toUInt64).toInt64)) z3 z6 z9 z12 z15 z18) [])) (fun t k => ?_) ?_
  · show Steps p.tables e below (T19.setTop (mkF m 134 (LS_RRIJsJsJsJsJsJsJsuuuu r0 r1 p2 z17 z3 z6 z9 z12 z15 z18) [(.long (1829881462546425 : Int64)), (.long x6)])) _
    refine XS.lsub X19.here hx rfl (hb hby d5_134) rfl ?_
    show Steps p.tables e below (T19.setTop (mkF m 135 (LS_RRIJsJsJsJsJsJsJsuuuu r0 r1 p2 z17 z3 z6 z9 z12 z15 z18) [(.long (x6 - (1829881462546425 : Int64)))])) _
    refine XS.lloadN X19.here hx rfl (hb hby d5_135) rfl ?_
    show Steps p.tables e below (T19.setTop (mkF m 136 (LS_RRIJsJsJsJsJsJsJsuuuu r0 r1 p2 z17 z3 z6 z9 z12 z15 z18) [(.long z17), (.long (x6 - (1829881462546425 : Int64)))])) _
    refine XS.bipush X19.here hx rfl (hb hby d5_136) ?_
    show Steps p.tables e below (T19.setTop (mkF m 138 (LS_RRIJsJsJsJsJsJsJsuuuu r0 r1 p2 z17 z3 z6 z9 z12 z15 z18) [(.int (63 : Int32)), (.long z17), (.long (x6 - (1829881462546425 : Int64)))])) _
    refine XS.lushr X19.here hx rfl (hb hby d5_138) rfl ?_
    show Steps p.tables e below (T19.setTop (mkF m 139 (LS_RRIJsJsJsJsJsJsJsuuuu r0 r1 p2 z17 z3 z6 z9 z12 z15 z18) [(.long ((z17.toUInt64 >>> ((63 : Int32) &&& 0x3f).toInt64.toUInt64).toInt64)), (.long (x6 - (1829881462546425 : Int64)))])) _
    refine XS.lsub X19.here hx rfl (hb hby d5_139) rfl ?_
    show Steps p.tables e below (T19.setTop (mkF m 140 (LS_RRIJsJsJsJsJsJsJsuuuu r0 r1 p2 z17 z3 z6 z9 z12 z15 z18) [(.long ((x6 - (1829881462546425 : Int64)) - ((z17.toUInt64 >>> ((63 : Int32) &&& 0x3f).toInt64.toUInt64).toInt64)))])) _
    refine XS.lstoreN X19.here hx rfl (hb hby d5_140) rfl (l' := (LS_RRIJsJsJsJsJsJsJsuuuu r0 r1 p2 ((x6 - (1829881462546425 : Int64)) - ((z17.toUInt64 >>> ((63 : Int32) &&& 0x3f).toInt64.toUInt64).toInt64)) z3 z6 z9 z12 z15 z18)) rfl ?_
    exact k
  obtain ⟨z20, hz20⟩ : ∃ z, z = ((x6 - (1829881462546425 : Int64)) - ((z17.toUInt64 >>> ((63 : Int32) &&& 0x3f).toInt64.toUInt64).toInt64)) := ⟨_, rfl⟩
  refine own_go (B := T19.setTop (mkF m 141 (LS_RRIJsJsJsJsJsJsJsuuuu r0 r1 p2 z20 z3 z6 z9 z12 z15 z18) [])) (fun t k => by rw [hz20] at k; exact k) ?_
  refine own_go (B := T19.setTop (mkF m 148 (LS_RRIJsJsJsJsJsJsJsJsuu r0 r1 p2 z20 z3 z6 z9 z12 z15 z18 (z20 &&& (36028797018963967 : Int64))) [])) (fun t k => ?_) ?_
  · show Steps p.tables e below (T19.setTop (mkF m 141 (LS_RRIJsJsJsJsJsJsJsuuuu r0 r1 p2 z20 z3 z6 z9 z12 z15 z18) [])) _
    refine XS.lloadN X19.here hx rfl (hb hby d5_141) rfl ?_
    show Steps p.tables e below (T19.setTop (mkF m 142 (LS_RRIJsJsJsJsJsJsJsuuuu r0 r1 p2 z20 z3 z6 z9 z12 z15 z18) [(.long z20)])) _
    refine X19.ldc2Long hx hown (mvT hZ (hw _ (List.mem_of_getElem? (i := 29) rfl))) (g := (mkF m 142 (LS_RRIJsJsJsJsJsJsJsuuuu r0 r1 p2 z20 z3 z6 z9 z12 z15 z18) [(.long z20)])) rfl (hb hby d5_142) _ ?_
    show Steps p.tables e below (T19.setTop (mkF m 145 (LS_RRIJsJsJsJsJsJsJsuuuu r0 r1 p2 z20 z3 z6 z9 z12 z15 z18) [(.long (36028797018963967 : Int64)), (.long z20)])) _
    refine XS.land X19.here hx rfl (hb hby d5_145) rfl ?_
    show Steps p.tables e below (T19.setTop (mkF m 146 (LS_RRIJsJsJsJsJsJsJsuuuu r0 r1 p2 z20 z3 z6 z9 z12 z15 z18) [(.long (z20 &&& (36028797018963967 : Int64)))])) _
    refine XS.lstore X19.here hx rfl (hb hby d5_146) rfl (l' := (LS_RRIJsJsJsJsJsJsJsJsuu r0 r1 p2 z20 z3 z6 z9 z12 z15 z18 (z20 &&& (36028797018963967 : Int64)))) rfl ?_
    exact k
  obtain ⟨z21, hz21⟩ : ∃ z, z = (z20 &&& (36028797018963967 : Int64)) := ⟨_, rfl⟩
  refine own_go (B := T19.setTop (mkF m 148 (LS_RRIJsJsJsJsJsJsJsJsuu r0 r1 p2 z20 z3 z6 z9 z12 z15 z18 z21) [])) (fun t k => by rw [hz21] at k; exact k) ?_
  refine own_go (B := T19.setTop (mkF m 155 (LS_RRIJsJsJsJsJsJsJsJsJs r0 r1 p2 z20 z3 z6 z9 z12 z15 z18 z21 (-((z20.toUInt64 >>> ((63 : Int32) &&& 0x3f).toInt64.toUInt64).toInt64))) [])) (fun t k => ?_) ?_
  · show Steps p.tables e below (T19.setTop (mkF m 148 (LS_RRIJsJsJsJsJsJsJsJsuu r0 r1 p2 z20 z3 z6 z9 z12 z15 z18 z21) [])) _
    refine XS.lloadN X19.here hx rfl (hb hby d5_148) rfl ?_
    show Steps p.tables e below (T19.setTop (mkF m 149 (LS_RRIJsJsJsJsJsJsJsJsuu r0 r1 p2 z20 z3 z6 z9 z12 z15 z18 z21) [(.long z20)])) _
    refine XS.bipush X19.here hx rfl (hb hby d5_149) ?_
    show Steps p.tables e below (T19.setTop (mkF m 151 (LS_RRIJsJsJsJsJsJsJsJsuu r0 r1 p2 z20 z3 z6 z9 z12 z15 z18 z21) [(.int (63 : Int32)), (.long z20)])) _
    refine XS.lushr X19.here hx rfl (hb hby d5_151) rfl ?_
    show Steps p.tables e below (T19.setTop (mkF m 152 (LS_RRIJsJsJsJsJsJsJsJsuu r0 r1 p2 z20 z3 z6 z9 z12 z15 z18 z21) [(.long ((z20.toUInt64 >>> ((63 : Int32) &&& 0x3f).toInt64.toUInt64).toInt64))])) _
    refine XS.lneg X19.here hx rfl (hb hby d5_152) rfl ?_
    show Steps p.tables e below (T19.setTop (mkF m 153 (LS_RRIJsJsJsJsJsJsJsJsuu r0 r1 p2 z20 z3 z6 z9 z12 z15 z18 z21) [(.long (-((z20.toUInt64 >>> ((63 : Int32) &&& 0x3f).toInt64.toUInt64).toInt64)))])) _
    refine XS.lstore X19.here hx rfl (hb hby d5_153) rfl (l' := (LS_RRIJsJsJsJsJsJsJsJsJs r0 r1 p2 z20 z3 z6 z9 z12 z15 z18 z21 (-((z20.toUInt64 >>> ((63 : Int32) &&& 0x3f).toInt64.toUInt64).toInt64)))) rfl ?_
    exact k
  obtain ⟨z22, hz22⟩ : ∃ z, z = (-((z20.toUInt64 >>> ((63 : Int32) &&& 0x3f).toInt64.toUInt64).toInt64)) := ⟨_, rfl⟩
  refine own_go (B := T19.setTop (mkF m 155 (LS_RRIJsJsJsJsJsJsJsJsJs r0 r1 p2 z20 z3 z6 z9 z12 z15 z18 z21 z22) [])) (fun t k => by rw [hz22] at k; exact k) ?_
  refine own_go (B := T19.setTop (mkF m 173 (LS_RRIJsJsJsJsJsJsJsJsJs r0 r1 p2 z20 z3 z6 z9 z12 z15 z18 z21 z22) [(.long ((x0 &&& z22) ||| (z3 &&& (z22 ^^^ (-1 : Int64))))), (.int (0 : Int32)), (.ref r0)])) (fun t k => ?_) ?_
  · show Steps p.tables e below (T19.setTop (mkF m 155 (LS_RRIJsJsJsJsJsJsJsJsJs r0 r1 p2 z20 z3 z6 z9 z12 z15 z18 z21 z22) [])) _
    refine XS.aloadN X19.here hx rfl (hb hby d5_155) rfl rfl ?_
    show Steps p.tables e below (T19.setTop (mkF m 156 (LS_RRIJsJsJsJsJsJsJsJsJs r0 r1 p2 z20 z3 z6 z9 z12 z15 z18 z21 z22) [(.ref r0)])) _
    refine XS.iconst X19.here hx rfl (hb hby d5_156) ?_
    show Steps p.tables e below (T19.setTop (mkF m 157 (LS_RRIJsJsJsJsJsJsJsJsJs r0 r1 p2 z20 z3 z6 z9 z12 z15 z18 z21 z22) [(.int (0 : Int32)), (.ref r0)])) _
    refine XS.aloadN X19.here hx rfl (hb hby d5_157) rfl rfl ?_
    show Steps p.tables e below (T19.setTop (mkF m 158 (LS_RRIJsJsJsJsJsJsJsJsJs r0 r1 p2 z20 z3 z6 z9 z12 z15 z18 z21 z22) [(.ref r1), (.int (0 : Int32)), (.ref r0)])) _
    refine XS.iloadN X19.here hx rfl (hb hby d5_158) rfl ?_
    show Steps p.tables e below (T19.setTop (mkF m 159 (LS_RRIJsJsJsJsJsJsJsJsJs r0 r1 p2 z20 z3 z6 z9 z12 z15 z18 z21 z22) [(.int p2), (.ref r1), (.int (0 : Int32)), (.ref r0)])) _
    refine X19.laload hx (j := p2) (v := (.long x0)) (by rw [e19]; exact Aq1.1) (State.isArrayOf_alike hZ.alike Aq1.2.1) Aq1.2.2 hin0 hat0 (g := (mkF m 159 (LS_RRIJsJsJsJsJsJsJsJsJs r0 r1 p2 z20 z3 z6 z9 z12 z15 z18 z21 z22) [(.int p2), (.ref r1), (.int (0 : Int32)), (.ref r0)])) rfl rfl (hb hby d5_159) _ ?_
    show Steps p.tables e below (T19.setTop (mkF m 160 (LS_RRIJsJsJsJsJsJsJsJsJs r0 r1 p2 z20 z3 z6 z9 z12 z15 z18 z21 z22) [(.long x0), (.int (0 : Int32)), (.ref r0)])) _
    refine XS.lload X19.here hx rfl (hb hby d5_160) rfl ?_
    show Steps p.tables e below (T19.setTop (mkF m 162 (LS_RRIJsJsJsJsJsJsJsJsJs r0 r1 p2 z20 z3 z6 z9 z12 z15 z18 z21 z22) [(.long z22), (.long x0), (.int (0 : Int32)), (.ref r0)])) _
    refine XS.land X19.here hx rfl (hb hby d5_162) rfl ?_
    show Steps p.tables e below (T19.setTop (mkF m 163 (LS_RRIJsJsJsJsJsJsJsJsJs r0 r1 p2 z20 z3 z6 z9 z12 z15 z18 z21 z22) [(.long (x0 &&& z22)), (.int (0 : Int32)), (.ref r0)])) _
    refine XS.lload X19.here hx rfl (hb hby d5_163) rfl ?_
    show Steps p.tables e below (T19.setTop (mkF m 165 (LS_RRIJsJsJsJsJsJsJsJsJs r0 r1 p2 z20 z3 z6 z9 z12 z15 z18 z21 z22) [(.long z3), (.long (x0 &&& z22)), (.int (0 : Int32)), (.ref r0)])) _
    refine XS.lload X19.here hx rfl (hb hby d5_165) rfl ?_
    show Steps p.tables e below (T19.setTop (mkF m 167 (LS_RRIJsJsJsJsJsJsJsJsJs r0 r1 p2 z20 z3 z6 z9 z12 z15 z18 z21 z22) [(.long z22), (.long z3), (.long (x0 &&& z22)), (.int (0 : Int32)), (.ref r0)])) _
    refine X19.ldc2Long hx hown (mvT hZ (hw _ (List.mem_of_getElem? (i := 42) rfl))) (g := (mkF m 167 (LS_RRIJsJsJsJsJsJsJsJsJs r0 r1 p2 z20 z3 z6 z9 z12 z15 z18 z21 z22) [(.long z22), (.long z3), (.long (x0 &&& z22)), (.int (0 : Int32)), (.ref r0)])) rfl (hb hby d5_167) _ ?_
    show Steps p.tables e below (T19.setTop (mkF m 170 (LS_RRIJsJsJsJsJsJsJsJsJs r0 r1 p2 z20 z3 z6 z9 z12 z15 z18 z21 z22) [(.long (-1 : Int64)), (.long z22), (.long z3), (.long (x0 &&& z22)), (.int (0 : Int32)), (.ref r0)])) _
    refine XS.lxor X19.here hx rfl (hb hby d5_170) rfl ?_
    show Steps p.tables e below (T19.setTop (mkF m 171 (LS_RRIJsJsJsJsJsJsJsJsJs r0 r1 p2 z20 z3 z6 z9 z12 z15 z18 z21 z22) [(.long (z22 ^^^ (-1 : Int64))), (.long z3), (.long (x0 &&& z22)), (.int (0 : Int32)), (.ref r0)])) _
    refine XS.land X19.here hx rfl (hb hby d5_171) rfl ?_
    show Steps p.tables e below (T19.setTop (mkF m 172 (LS_RRIJsJsJsJsJsJsJsJsJs r0 r1 p2 z20 z3 z6 z9 z12 z15 z18 z21 z22) [(.long (z3 &&& (z22 ^^^ (-1 : Int64)))), (.long (x0 &&& z22)), (.int (0 : Int32)), (.ref r0)])) _
    refine XS.lor X19.here hx rfl (hb hby d5_172) rfl ?_
    exact k
  obtain ⟨cl23, Ar23, qa23, Sa23, Na23, Ha23, Ga23⟩ := id Vq1
  have hin24 : ¬ ((0 : Int32) < 0 ∨ cl23.slots.size ≤ ((0 : Int32)).toNatClampNeg) := inb_of Sa23 ⟨by decide, by decide⟩
  obtain ⟨T24, h24, X24, e24, W24, st24⟩ := stJ X19 hx hZ e19 Ar23 (j := (0 : Int32)) hin24 (g := (mkF m 173 (LS_RRIJsJsJsJsJsJsJsJsJs r0 r1 p2 z20 z3 z6 z9 z12 z15 z18 z21 z22) [(.long ((x0 &&& z22) ||| (z3 &&& (z22 ^^^ (-1 : Int64))))), (.int (0 : Int32)), (.ref r0)])) rfl rfl (hb hby d5_173)
  have N24 := Fr.snoc X24 N0 g_r0
  have V24 : Arv Z h24 r0 kq1 .long (7 : Int32) [(.long ((x0 &&& z22) ||| (z3 &&& (z22 ^^^ (-1 : Int64))))), (.long (0 : Int64)), (.long (0 : Int64)), (.long (0 : Int64)), (.long (0 : Int64)), (.long (0 : Int64)), (.long (0 : Int64))] (.long (0 : Int64)) := Arv.set Ar23 qa23 Sa23 Na23 Ha23 Ga23 rfl W24 0 rfl (Nat.le_of_ble_eq_true rfl)
  refine own_go (B := T24.setTop (mkF m 174 (LS_RRIJsJsJsJsJsJsJsJsJs r0 r1 p2 z20 z3 z6 z9 z12 z15 z18 z21 z22) [])) (fun t k => st24 _ k) ?_
  have Aq1_v25 := Aq1.other W24 hne
  refine own_go (B := T24.setTop (mkF m 194 (LS_RRIJsJsJsJsJsJsJsJsJs r0 r1 p2 z20 z3 z6 z9 z12 z15 z18 z21 z22) [(.long ((x1 &&& z22) ||| (z6 &&& (z22 ^^^ (-1 : Int64))))), (.int (1 : Int32)), (.ref r0)])) (fun t k => ?_) ?_
  · show Steps p.tables e below (T24.setTop (mkF m 174 (LS_RRIJsJsJsJsJsJsJsJsJs r0 r1 p2 z20 z3 z6 z9 z12 z15 z18 z21 z22) [])) _
    refine XS.aloadN X24.here hx rfl (hb hby d5_174) rfl rfl ?_
    show Steps p.tables e below (T24.setTop (mkF m 175 (LS_RRIJsJsJsJsJsJsJsJsJs r0 r1 p2 z20 z3 z6 z9 z12 z15 z18 z21 z22) [(.ref r0)])) _
    refine XS.iconst X24.here hx rfl (hb hby d5_175) ?_
    show Steps p.tables e below (T24.setTop (mkF m 176 (LS_RRIJsJsJsJsJsJsJsJsJs r0 r1 p2 z20 z3 z6 z9 z12 z15 z18 z21 z22) [(.int (1 : Int32)), (.ref r0)])) _
    refine XS.aloadN X24.here hx rfl (hb hby d5_176) rfl rfl ?_
    show Steps p.tables e below (T24.setTop (mkF m 177 (LS_RRIJsJsJsJsJsJsJsJsJs r0 r1 p2 z20 z3 z6 z9 z12 z15 z18 z21 z22) [(.ref r1), (.int (1 : Int32)), (.ref r0)])) _
    refine XS.iloadN X24.here hx rfl (hb hby d5_177) rfl ?_
    show Steps p.tables e below (T24.setTop (mkF m 178 (LS_RRIJsJsJsJsJsJsJsJsJs r0 r1 p2 z20 z3 z6 z9 z12 z15 z18 z21 z22) [(.int p2), (.ref r1), (.int (1 : Int32)), (.ref r0)])) _
    refine XS.iconst X24.here hx rfl (hb hby d5_178) ?_
    show Steps p.tables e below (T24.setTop (mkF m 179 (LS_RRIJsJsJsJsJsJsJsJsJs r0 r1 p2 z20 z3 z6 z9 z12 z15 z18 z21 z22) [(.int (1 : Int32)), (.int p2), (.ref r1), (.int (1 : Int32)), (.ref r0)])) _
    refine XS.iadd X24.here hx rfl (hb hby d5_179) rfl ?_
    show Steps p.tables e below (T24.setTop (mkF m 180 (LS_RRIJsJsJsJsJsJsJsJsJs r0 r1 p2 z20 z3 z6 z9 z12 z15 z18 z21 z22) [(.int (p2 + (1 : Int32))), (.ref r1), (.int (1 : Int32)), (.ref r0)])) _
    refine X24.laload hx (j := (p2 + (1 : Int32))) (v := (.long x1)) (by rw [e24]; exact Aq1_v25.1) (State.isArrayOf_alike hZ.alike Aq1_v25.2.1) Aq1_v25.2.2 hin1 hat1 (g := (mkF m 180 (LS_RRIJsJsJsJsJsJsJsJsJs r0 r1 p2 z20 z3 z6 z9 z12 z15 z18 z21 z22) [(.int (p2 + (1 : Int32))), (.ref r1), (.int (1 : Int32)), (.ref r0)])) rfl rfl (hb hby d5_180) _ ?_
    show Steps p.tables e below (T24.setTop (mkF m 181 (LS_RRIJsJsJsJsJsJsJsJsJs r0 r1 p2 z20 z3 z6 z9 z12 z15 z18 z21 z22) [(.long x1), (.int (1 : Int32)), (.ref r0)])) _
    refine XS.lload X24.here hx rfl (hb hby d5_181) rfl ?_
    show Steps p.tables e below (T24.setTop (mkF m 183 (LS_RRIJsJsJsJsJsJsJsJsJs r0 r1 p2 z20 z3 z6 z9 z12 z15 z18 z21 z22) [(.long z22), (.long x1), (.int (1 : Int32)), (.ref r0)])) _
    refine XS.land X24.here hx rfl (hb hby d5_183) rfl ?_
    show Steps p.tables e below (T24.setTop (mkF m 184 (LS_RRIJsJsJsJsJsJsJsJsJs r0 r1 p2 z20 z3 z6 z9 z12 z15 z18 z21 z22) [(.long (x1 &&& z22)), (.int (1 : Int32)), (.ref r0)])) _
    refine XS.lload X24.here hx rfl (hb hby d5_184) rfl ?_
    show Steps p.tables e below (T24.setTop (mkF m 186 (LS_RRIJsJsJsJsJsJsJsJsJs r0 r1 p2 z20 z3 z6 z9 z12 z15 z18 z21 z22) [(.long z6), (.long (x1 &&& z22)), (.int (1 : Int32)), (.ref r0)])) _
    refine XS.lload X24.here hx rfl (hb hby d5_186) rfl ?_
    show Steps p.tables e below (T24.setTop (mkF m 188 (LS_RRIJsJsJsJsJsJsJsJsJs r0 r1 p2 z20 z3 z6 z9 z12 z15 z18 z21 z22) [(.long z22), (.long z6), (.long (x1 &&& z22)), (.int (1 : Int32)), (.ref r0)])) _
    refine X24.ldc2Long hx hown (mvT hZ (hw _ (List.mem_of_getElem? (i := 42) rfl))) (g := (mkF m 188 (LS_RRIJsJsJsJsJsJsJsJsJs r0 r1 p2 z20 z3 z6 z9 z12 z15 z18 z21 z22) [(.long z22), (.long z6), (.long (x1 &&& z22)), (.int (1 : Int32)), (.ref r0)])) rfl (hb hby d5_188) _ ?_
    show Steps p.tables e below (T24.setTop (mkF m 191 (LS_RRIJsJsJsJsJsJsJsJsJs r0 r1 p2 z20 z3 z6 z9 z12 z15 z18 z21 z22) [(.long (-1 : Int64)), (.long z22), (.long z6), (.long (x1 &&& z22)), (.int (1 : Int32)), (.ref r0)])) _
    refine XS.lxor X24.here hx rfl (hb hby d5_191) rfl ?_
    show Steps p.tables e below (T24.setTop (mkF m 192 (LS_RRIJsJsJsJsJsJsJsJsJs r0 r1 p2 z20 z3 z6 z9 z12 z15 z18 z21 z22) [(.long (z22 ^^^ (-1 : Int64))), (.long z6), (.long (x1 &&& z22)), (.int (1 : Int32)), (.ref r0)])) _
    refine XS.land X24.here hx rfl (hb hby d5_192) rfl ?_
    show Steps p.tables e below (T24.setTop (mkF m 193 (LS_RRIJsJsJsJsJsJsJsJsJs r0 r1 p2 z20 z3 z6 z9 z12 z15 z18 z21 z22) [(.long (z6 &&& (z22 ^^^ (-1 : Int64)))), (.long (x1 &&& z22)), (.int (1 : Int32)), (.ref r0)])) _
    refine XS.lor X24.here hx rfl (hb hby d5_193) rfl ?_
    exact k
  obtain ⟨cl26, Ar26, qa26, Sa26, Na26, Ha26, Ga26⟩ := id V24
  have hin27 : ¬ ((1 : Int32) < 0 ∨ cl26.slots.size ≤ ((1 : Int32)).toNatClampNeg) := inb_of Sa26 ⟨by decide, by decide⟩
  obtain ⟨T27, h27, X27, e27, W27, st27⟩ := stJ X24 hx hZ e24 Ar26 (j := (1 : Int32)) hin27 (g := (mkF m 194 (LS_RRIJsJsJsJsJsJsJsJsJs r0 r1 p2 z20 z3 z6 z9 z12 z15 z18 z21 z22) [(.long ((x1 &&& z22) ||| (z6 &&& (z22 ^^^ (-1 : Int64))))), (.int (1 : Int32)), (.ref r0)])) rfl rfl (hb hby d5_194)
  have N27 := Fr.snoc X27 N24 g_r0
  have V27 : Arv Z h27 r0 kq1 .long (7 : Int32) [(.long ((x0 &&& z22) ||| (z3 &&& (z22 ^^^ (-1 : Int64))))), (.long ((x1 &&& z22) ||| (z6 &&& (z22 ^^^ (-1 : Int64))))), (.long (0 : Int64)), (.long (0 : Int64)), (.long (0 : Int64)), (.long (0 : Int64)), (.long (0 : Int64))] (.long (0 : Int64)) := Arv.set Ar26 qa26 Sa26 Na26 Ha26 Ga26 rfl W27 1 rfl (Nat.le_of_ble_eq_true rfl)
  refine own_go (B := T27.setTop (mkF m 195 (LS_RRIJsJsJsJsJsJsJsJsJs r0 r1 p2 z20 z3 z6 z9 z12 z15 z18 z21 z22) [])) (fun t k => st27 _ k) ?_
  have Aq1_v28 := Aq1_v25.other W27 hne
  refine own_go (B := T27.setTop (mkF m 215 (LS_RRIJsJsJsJsJsJsJsJsJs r0 r1 p2 z20 z3 z6 z9 z12 z15 z18 z21 z22) [(.long ((x2 &&& z22) ||| (z9 &&& (z22 ^^^ (-1 : Int64))))), (.int (2 : Int32)), (.ref r0)])) (fun t k => ?_) ?_
  · show Steps p.tables e below (T27.setTop (mkF m 195 (LS_RRIJsJsJsJsJsJsJsJsJs r0 r1 p2 z20 z3 z6 z9 z12 z15 z18 z21 z22) [])) _
    refine XS.aloadN X27.here hx rfl (hb hby d5_195) rfl rfl ?_
    show Steps p.tables e below (T27.setTop (mkF m 196 (LS_RRIJsJsJsJsJsJsJsJsJs r0 r1 p2 z20 z3 z6 z9 z12 z15 z18 z21 z22) [(.ref r0)])) _
    refine XS.iconst X27.here hx rfl (hb hby d5_196) ?_
    show Steps p.tables e below (T27.setTop (mkF m 197 (LS_RRIJsJsJsJsJsJsJsJsJs r0 r1 p2 z20 z3 z6 z9 z12 z15 z18 z21 z22) [(.int (2 : Int32)), (.ref r0)])) _
    refine XS.aloadN X27.here hx rfl (hb hby d5_197) rfl rfl ?_
    show Steps p.tables e below (T27.setTop (mkF m 198 (LS_RRIJsJsJsJsJsJsJsJsJs r0 r1 p2 z20 z3 z6 z9 z12 z15 z18 z21 z22) [(.ref r1), (.int (2 : Int32)), (.ref r0)])) _
    refine XS.iloadN X27.here hx rfl (hb hby d5_198) rfl ?_
    show Steps p.tables e below (T27.setTop (mkF m 199 (LS_RRIJsJsJsJsJsJsJsJsJs r0 r1 p2 z20 z3 z6 z9 z12 z15 z18 z21 z22) [(.int p2), (.ref r1), (.int (2 : Int32)), (.ref r0)])) _
    refine XS.iconst X27.here hx rfl (hb hby d5_199) ?_
    show Steps p.tables e below (T27.setTop (mkF m 200 (LS_RRIJsJsJsJsJsJsJsJsJs r0 r1 p2 z20 z3 z6 z9 z12 z15 z18 z21 z22) [(.int (2 : Int32)), (.int p2), (.ref r1), (.int (2 : Int32)), (.ref r0)])) _
    refine XS.iadd X27.here hx rfl (hb hby d5_200) rfl ?_
    show Steps p.tables e below (T27.setTop (mkF m 201 (LS_RRIJsJsJsJsJsJsJsJsJs r0 r1 p2 z20 z3 z6 z9 z12 z15 z18 z21 z22) [(.int (p2 + (2 : Int32))), (.ref r1), (.int (2 : Int32)), (.ref r0)])) _
    refine X27.laload hx (j := (p2 + (2 : Int32))) (v := (.long x2)) (by rw [e27]; exact Aq1_v28.1) (State.isArrayOf_alike hZ.alike Aq1_v28.2.1) Aq1_v28.2.2 hin2 hat2 (g := (mkF m 201 (LS_RRIJsJsJsJsJsJsJsJsJs r0 r1 p2 z20 z3 z6 z9 z12 z15 z18 z21 z22) [(.int (p2 + (2 : Int32))), (.ref r1), (.int (2 : Int32)), (.ref r0)])) rfl rfl (hb hby d5_201) _ ?_
    show Steps p.tables e below (T27.setTop (mkF m 202 (LS_RRIJsJsJsJsJsJsJsJsJs r0 r1 p2 z20 z3 z6 z9 z12 z15 z18 z21 z22) [(.long x2), (.int (2 : Int32)), (.ref r0)])) _
    refine XS.lload X27.here hx rfl (hb hby d5_202) rfl ?_
    show Steps p.tables e below (T27.setTop (mkF m 204 (LS_RRIJsJsJsJsJsJsJsJsJs r0 r1 p2 z20 z3 z6 z9 z12 z15 z18 z21 z22) [(.long z22), (.long x2), (.int (2 : Int32)), (.ref r0)])) _
    refine XS.land X27.here hx rfl (hb hby d5_204) rfl ?_
    show Steps p.tables e below (T27.setTop (mkF m 205 (LS_RRIJsJsJsJsJsJsJsJsJs r0 r1 p2 z20 z3 z6 z9 z12 z15 z18 z21 z22) [(.long (x2 &&& z22)), (.int (2 : Int32)), (.ref r0)])) _
    refine XS.lload X27.here hx rfl (hb hby d5_205) rfl ?_
    show Steps p.tables e below (T27.setTop (mkF m 207 (LS_RRIJsJsJsJsJsJsJsJsJs r0 r1 p2 z20 z3 z6 z9 z12 z15 z18 z21 z22) [(.long z9), (.long (x2 &&& z22)), (.int (2 : Int32)), (.ref r0)])) _
    refine XS.lload X27.here hx rfl (hb hby d5_207) rfl ?_
    show Steps p.tables e below (T27.setTop (mkF m 209 (LS_RRIJsJsJsJsJsJsJsJsJs r0 r1 p2 z20 z3 z6 z9 z12 z15 z18 z21 z22) [(.long z22), (.long z9), (.long (x2 &&& z22)), (.int (2 : Int32)), (.ref r0)])) _
    refine X27.ldc2Long hx hown (mvT hZ (hw _ (List.mem_of_getElem? (i := 42) rfl))) (g := (mkF m 209 (LS_RRIJsJsJsJsJsJsJsJsJs r0 r1 p2 z20 z3 z6 z9 z12 z15 z18 z21 z22) [(.long z22), (.long z9), (.long (x2 &&& z22)), (.int (2 : Int32)), (.ref r0)])) rfl (hb hby d5_209) _ ?_
    show Steps p.tables e below (T27.setTop (mkF m 212 (LS_RRIJsJsJsJsJsJsJsJsJs r0 r1 p2 z20 z3 z6 z9 z12 z15 z18 z21 z22) [(.long (-1 : Int64)), (.long z22), (.long z9), (.long (x2 &&& z22)), (.int (2 : Int32)), (.ref r0)])) _
    refine XS.lxor X27.here hx rfl (hb hby d5_212) rfl ?_
    show Steps p.tables e below (T27.setTop (mkF m 213 (LS_RRIJsJsJsJsJsJsJsJsJs r0 r1 p2 z20 z3 z6 z9 z12 z15 z18 z21 z22) [(.long (z22 ^^^ (-1 : Int64))), (.long z9), (.long (x2 &&& z22)), (.int (2 : Int32)), (.ref r0)])) _
    refine XS.land X27.here hx rfl (hb hby d5_213) rfl ?_
    show Steps p.tables e below (T27.setTop (mkF m 214 (LS_RRIJsJsJsJsJsJsJsJsJs r0 r1 p2 z20 z3 z6 z9 z12 z15 z18 z21 z22) [(.long (z9 &&& (z22 ^^^ (-1 : Int64)))), (.long (x2 &&& z22)), (.int (2 : Int32)), (.ref r0)])) _
    refine XS.lor X27.here hx rfl (hb hby d5_214) rfl ?_
    exact k
  obtain ⟨cl29, Ar29, qa29, Sa29, Na29, Ha29, Ga29⟩ := id V27
  have hin30 : ¬ ((2 : Int32) < 0 ∨ cl29.slots.size ≤ ((2 : Int32)).toNatClampNeg) := inb_of Sa29 ⟨by decide, by decide⟩
  obtain ⟨T30, h30, X30, e30, W30, st30⟩ := stJ X27 hx hZ e27 Ar29 (j := (2 : Int32)) hin30 (g := (mkF m 215 (LS_RRIJsJsJsJsJsJsJsJsJs r0 r1 p2 z20 z3 z6 z9 z12 z15 z18 z21 z22) [(.long ((x2 &&& z22) ||| (z9 &&& (z22 ^^^ (-1 : Int64))))), (.int (2 : Int32)), (.ref r0)])) rfl rfl (hb hby d5_215)
  have N30 := Fr.snoc X30 N27 g_r0
  have V30 : Arv Z h30 r0 kq1 .long (7 : Int32) [(.long ((x0 &&& z22) ||| (z3 &&& (z22 ^^^ (-1 : Int64))))), (.long ((x1 &&& z22) ||| (z6 &&& (z22 ^^^ (-1 : Int64))))), (.long ((x2 &&& z22) ||| (z9 &&& (z22 ^^^ (-1 : Int64))))), (.long (0 : Int64)), (.long (0 : Int64)), (.long (0 : Int64)), (.long (0 : Int64))] (.long (0 : Int64)) := Arv.set Ar29 qa29 Sa29 Na29 Ha29 Ga29 rfl W30 2 rfl (Nat.le_of_ble_eq_true rfl)
  refine own_go (B := T30.setTop (mkF m 216 (LS_RRIJsJsJsJsJsJsJsJsJs r0 r1 p2 z20 z3 z6 z9 z12 z15 z18 z21 z22) [])) (fun t k => st30 _ k) ?_
  have Aq1_v31 := Aq1_v28.other W30 hne
  refine own_go (B := T30.setTop (mkF m 236 (LS_RRIJsJsJsJsJsJsJsJsJs r0 r1 p2 z20 z3 z6 z9 z12 z15 z18 z21 z22) [(.long ((x3 &&& z22) ||| (z12 &&& (z22 ^^^ (-1 : Int64))))), (.int (3 : Int32)), (.ref r0)])) (fun t k => ?_) ?_
  · show Steps p.tables e below (T30.setTop (mkF m 216 (LS_RRIJsJsJsJsJsJsJsJsJs r0 r1 p2 z20 z3 z6 z9 z12 z15 z18 z21 z22) [])) _
    refine XS.aloadN X30.here hx rfl (hb hby d5_216) rfl rfl ?_
    show Steps p.tables e below (T30.setTop (mkF m 217 (LS_RRIJsJsJsJsJsJsJsJsJs r0 r1 p2 z20 z3 z6 z9 z12 z15 z18 z21 z22) [(.ref r0)])) _
    refine XS.iconst X30.here hx rfl (hb hby d5_217) ?_
    show Steps p.tables e below (T30.setTop (mkF m 218 (LS_RRIJsJsJsJsJsJsJsJsJs r0 r1 p2 z20 z3 z6 z9 z12 z15 z18 z21 z22) [(.int (3 : Int32)), (.ref r0)])) _
    refine XS.aloadN X30.here hx rfl (hb hby d5_218) rfl rfl ?_
    show Steps p.tables e below (T30.setTop (mkF m 219 (LS_RRIJsJsJsJsJsJsJsJsJs r0 r1 p2 z20 z3 z6 z9 z12 z15 z18 z21 z22) [(.ref r1), (.int (3 : Int32)), (.ref r0)])) _
    refine XS.iloadN X30.here hx rfl (hb hby d5_219) rfl ?_
    show Steps p.tables e below (T30.setTop (mkF m 220 (LS_RRIJsJsJsJsJsJsJsJsJs r0 r1 p2 z20 z3 z6 z9 z12 z15 z18 z21 z22) [(.int p2), (.ref r1), (.int (3 : Int32)), (.ref r0)])) _
    refine XS.iconst X30.here hx rfl (hb hby d5_220) ?_
    show Steps p.tables e below (T30.setTop (mkF m 221 (LS_RRIJsJsJsJsJsJsJsJsJs r0 r1 p2 z20 z3 z6 z9 z12 z15 z18 z21 z22) [(.int (3 : Int32)), (.int p2), (.ref r1), (.int (3 : Int32)), (.ref r0)])) _
    refine XS.iadd X30.here hx rfl (hb hby d5_221) rfl ?_
    show Steps p.tables e below (T30.setTop (mkF m 222 (LS_RRIJsJsJsJsJsJsJsJsJs r0 r1 p2 z20 z3 z6 z9 z12 z15 z18 z21 z22) [(.int (p2 + (3 : Int32))), (.ref r1), (.int (3 : Int32)), (.ref r0)])) _
    refine X30.laload hx (j := (p2 + (3 : Int32))) (v := (.long x3)) (by rw [e30]; exact Aq1_v31.1) (State.isArrayOf_alike hZ.alike Aq1_v31.2.1) Aq1_v31.2.2 hin3 hat3 (g := (mkF m 222 (LS_RRIJsJsJsJsJsJsJsJsJs r0 r1 p2 z20 z3 z6 z9 z12 z15 z18 z21 z22) [(.int (p2 + (3 : Int32))), (.ref r1), (.int (3 : Int32)), (.ref r0)])) rfl rfl (hb hby d5_222) _ ?_
    show Steps p.tables e below (T30.setTop (mkF m 223 (LS_RRIJsJsJsJsJsJsJsJsJs r0 r1 p2 z20 z3 z6 z9 z12 z15 z18 z21 z22) [(.long x3), (.int (3 : Int32)), (.ref r0)])) _
    refine XS.lload X30.here hx rfl (hb hby d5_223) rfl ?_
    show Steps p.tables e below (T30.setTop (mkF m 225 (LS_RRIJsJsJsJsJsJsJsJsJs r0 r1 p2 z20 z3 z6 z9 z12 z15 z18 z21 z22) [(.long z22), (.long x3), (.int (3 : Int32)), (.ref r0)])) _
    refine XS.land X30.here hx rfl (hb hby d5_225) rfl ?_
    show Steps p.tables e below (T30.setTop (mkF m 226 (LS_RRIJsJsJsJsJsJsJsJsJs r0 r1 p2 z20 z3 z6 z9 z12 z15 z18 z21 z22) [(.long (x3 &&& z22)), (.int (3 : Int32)), (.ref r0)])) _
    refine XS.lload X30.here hx rfl (hb hby d5_226) rfl ?_
    show Steps p.tables e below (T30.setTop (mkF m 228 (LS_RRIJsJsJsJsJsJsJsJsJs r0 r1 p2 z20 z3 z6 z9 z12 z15 z18 z21 z22) [(.long z12), (.long (x3 &&& z22)), (.int (3 : Int32)), (.ref r0)])) _
    refine XS.lload X30.here hx rfl (hb hby d5_228) rfl ?_
    show Steps p.tables e below (T30.setTop (mkF m 230 (LS_RRIJsJsJsJsJsJsJsJsJs r0 r1 p2 z20 z3 z6 z9 z12 z15 z18 z21 z22) [(.long z22), (.long z12), (.long (x3 &&& z22)), (.int (3 : Int32)), (.ref r0)])) _
    refine X30.ldc2Long hx hown (mvT hZ (hw _ (List.mem_of_getElem? (i := 42) rfl))) (g := (mkF m 230 (LS_RRIJsJsJsJsJsJsJsJsJs r0 r1 p2 z20 z3 z6 z9 z12 z15 z18 z21 z22) [(.long z22), (.long z12), (.long (x3 &&& z22)), (.int (3 : Int32)), (.ref r0)])) rfl (hb hby d5_230) _ ?_
    show Steps p.tables e below (T30.setTop (mkF m 233 (LS_RRIJsJsJsJsJsJsJsJsJs r0 r1 p2 z20 z3 z6 z9 z12 z15 z18 z21 z22) [(.long (-1 : Int64)), (.long z22), (.long z12), (.long (x3 &&& z22)), (.int (3 : Int32)), (.ref r0)])) _
    refine XS.lxor X30.here hx rfl (hb hby d5_233) rfl ?_
    show Steps p.tables e below (T30.setTop (mkF m 234 (LS_RRIJsJsJsJsJsJsJsJsJs r0 r1 p2 z20 z3 z6 z9 z12 z15 z18 z21 z22) [(.long (z22 ^^^ (-1 : Int64))), (.long z12), (.long (x3 &&& z22)), (.int (3 : Int32)), (.ref r0)])) _
    refine XS.land X30.here hx rfl (hb hby d5_234) rfl ?_
    show Steps p.tables e below (T30.setTop (mkF m 235 (LS_RRIJsJsJsJsJsJsJsJsJs r0 r1 p2 z20 z3 z6 z9 z12 z15 z18 z21 z22) [(.long (z12 &&& (z22 ^^^ (-1 : Int64)))), (.long (x3 &&& z22)), (.int (3 : Int32)), (.ref r0)])) _
    refine XS.lor X30.here hx rfl (hb hby d5_235) rfl ?_
    exact k
  obtain ⟨cl32, Ar32, qa32, Sa32, Na32, Ha32, Ga32⟩ := id V30
  have hin33 : ¬ ((3 : Int32) < 0 ∨ cl32.slots.size ≤ ((3 : Int32)).toNatClampNeg) := inb_of Sa32 ⟨by decide, by decide⟩
  obtain ⟨T33, h33, X33, e33, W33, st33⟩ := stJ X30 hx hZ e30 Ar32 (j := (3 : Int32)) hin33 (g := (mkF m 236 (LS_RRIJsJsJsJsJsJsJsJsJs r0 r1 p2 z20 z3 z6 z9 z12 z15 z18 z21 z22) [(.long ((x3 &&& z22) ||| (z12 &&& (z22 ^^^ (-1 : Int64))))), (.int (3 : Int32)), (.ref r0)])) rfl rfl (hb hby d5_236)
  have N33 := Fr.snoc X33 N30 g_r0
  have V33 : Arv Z h33 r0 kq1 .long (7 : Int32) [(.long ((x0 &&& z22) ||| (z3 &&& (z22 ^^^ (-1 : Int64))))), (.long ((x1 &&& z22) ||| (z6 &&& (z22 ^^^ (-1 : Int64))))), (.long ((x2 &&& z22) ||| (z9 &&& (z22 ^^^ (-1 : Int64))))), (.long ((x3 &&& z22) ||| (z12 &&& (z22 ^^^ (-1 : Int64))))), (.long (0 : Int64)), (.long (0 : Int64)), (.long (0 : Int64))] (.long (0 : Int64)) := Arv.set Ar32 qa32 Sa32 Na32 Ha32 Ga32 rfl W33 3 rfl (Nat.le_of_ble_eq_true rfl)
  refine own_go (B := T33.setTop (mkF m 237 (LS_RRIJsJsJsJsJsJsJsJsJs r0 r1 p2 z20 z3 z6 z9 z12 z15 z18 z21 z22) [])) (fun t k => st33 _ k) ?_
  have Aq1_v34 := Aq1_v31.other W33 hne
  refine own_go (B := T33.setTop (mkF m 257 (LS_RRIJsJsJsJsJsJsJsJsJs r0 r1 p2 z20 z3 z6 z9 z12 z15 z18 z21 z22) [(.long ((x4 &&& z22) ||| (z15 &&& (z22 ^^^ (-1 : Int64))))), (.int (4 : Int32)), (.ref r0)])) (fun t k => ?_) ?_
  · show Steps p.tables e below (T33.setTop (mkF m 237 (LS_RRIJsJsJsJsJsJsJsJsJs r0 r1 p2 z20 z3 z6 z9 z12 z15 z18 z21 z22) [])) _
    refine XS.aloadN X33.here hx rfl (hb hby d5_237) rfl rfl ?_
    show Steps p.tables e below (T33.setTop (mkF m 238 (LS_RRIJsJsJsJsJsJsJsJsJs r0 r1 p2 z20 z3 z6 z9 z12 z15 z18 z21 z22) [(.ref r0)])) _
    refine XS.iconst X33.here hx rfl (hb hby d5_238) ?_
    show Steps p.tables e below (T33.setTop (mkF m 239 (LS_RRIJsJsJsJsJsJsJsJsJs r0 r1 p2 z20 z3 z6 z9 z12 z15 z18 z21 z22) [(.int (4 : Int32)), (.ref r0)])) _
    refine XS.aloadN X33.here hx rfl (hb hby d5_239) rfl rfl ?_
    show Steps p.tables e below (T33.setTop (mkF m 240 (LS_RRIJsJsJsJsJsJsJsJsJs r0 r1 p2 z20 z3 z6 z9 z12 z15 z18 z21 z22) [(.ref r1), (.int (4 : Int32)), (.ref r0)])) _
    refine XS.iloadN X33.here hx rfl (hb hby d5_240) rfl ?_
    show Steps p.tables e below (T33.setTop (mkF m 241 (LS_RRIJsJsJsJsJsJsJsJsJs r0 r1 p2 z20 z3 z6 z9 z12 z15 z18 z21 z22) [(.int p2), (.ref r1), (.int (4 : Int32)), (.ref r0)])) _
    refine XS.iconst X33.here hx rfl (hb hby d5_241) ?_
    show Steps p.tables e below (T33.setTop (mkF m 242 (LS_RRIJsJsJsJsJsJsJsJsJs r0 r1 p2 z20 z3 z6 z9 z12 z15 z18 z21 z22) [(.int (4 : Int32)), (.int p2), (.ref r1), (.int (4 : Int32)), (.ref r0)])) _
    refine XS.iadd X33.here hx rfl (hb hby d5_242) rfl ?_
    show Steps p.tables e below (T33.setTop (mkF m 243 (LS_RRIJsJsJsJsJsJsJsJsJs r0 r1 p2 z20 z3 z6 z9 z12 z15 z18 z21 z22) [(.int (p2 + (4 : Int32))), (.ref r1), (.int (4 : Int32)), (.ref r0)])) _
    refine X33.laload hx (j := (p2 + (4 : Int32))) (v := (.long x4)) (by rw [e33]; exact Aq1_v34.1) (State.isArrayOf_alike hZ.alike Aq1_v34.2.1) Aq1_v34.2.2 hin4 hat4 (g := (mkF m 243 (LS_RRIJsJsJsJsJsJsJsJsJs r0 r1 p2 z20 z3 z6 z9 z12 z15 z18 z21 z22) [(.int (p2 + (4 : Int32))), (.ref r1), (.int (4 : Int32)), (.ref r0)])) rfl rfl (hb hby d5_243) _ ?_
    show Steps p.tables e below (T33.setTop (mkF m 244 (LS_RRIJsJsJsJsJsJsJsJsJs r0 r1 p2 z20 z3 z6 z9 z12 z15 z18 z21 z22) [(.long x4), (.int (4 : Int32)), (.ref r0)])) _
    refine XS.lload X33.here hx rfl (hb hby d5_244) rfl ?_
    show Steps p.tables e below (T33.setTop (mkF m 246 (LS_RRIJsJsJsJsJsJsJsJsJs r0 r1 p2 z20 z3 z6 z9 z12 z15 z18 z21 z22) [(.long z22), (.long x4), (.int (4 : Int32)), (.ref r0)])) _
    refine XS.land X33.here hx rfl (hb hby d5_246) rfl ?_
    show Steps p.tables e below (T33.setTop (mkF m 247 (LS_RRIJsJsJsJsJsJsJsJsJs r0 r1 p2 z20 z3 z6 z9 z12 z15 z18 z21 z22) [(.long (x4 &&& z22)), (.int (4 : Int32)), (.ref r0)])) _
    refine XS.lload X33.here hx rfl (hb hby d5_247) rfl ?_
    show Steps p.tables e below (T33.setTop (mkF m 249 (LS_RRIJsJsJsJsJsJsJsJsJs r0 r1 p2 z20 z3 z6 z9 z12 z15 z18 z21 z22) [(.long z15), (.long (x4 &&& z22)), (.int (4 : Int32)), (.ref r0)])) _
    refine XS.lload X33.here hx rfl (hb hby d5_249) rfl ?_
    show Steps p.tables e below (T33.setTop (mkF m 251 (LS_RRIJsJsJsJsJsJsJsJsJs r0 r1 p2 z20 z3 z6 z9 z12 z15 z18 z21 z22) [(.long z22), (.long z15), (.long (x4 &&& z22)), (.int (4 : Int32)), (.ref r0)])) _
    refine X33.ldc2Long hx hown (mvT hZ (hw _ (List.mem_of_getElem? (i := 42) rfl))) (g := (mkF m 251 (LS_RRIJsJsJsJsJsJsJsJsJs r0 r1 p2 z20 z3 z6 z9 z12 z15 z18 z21 z22) [(.long z22), (.long z15), (.long (x4 &&& z22)), (.int (4 : Int32)), (.ref r0)])) rfl (hb hby d5_251) _ ?_
    show Steps p.tables e below (T33.setTop (mkF m 254 (LS_RRIJsJsJsJsJsJsJsJsJs r0 r1 p2 z20 z3 z6 z9 z12 z15 z18 z21 z22) [(.long (-1 : Int64)), (.long z22), (.long z15), (.long (x4 &&& z22)), (.int (4 : Int32)), (.ref r0)])) _
    refine XS.lxor X33.here hx rfl (hb hby d5_254) rfl ?_
    show Steps p.tables e below (T33.setTop (mkF m 255 (LS_RRIJsJsJsJsJsJsJsJsJs r0 r1 p2 z20 z3 z6 z9 z12 z15 z18 z21 z22) [(.long (z22 ^^^ (-1 : Int64))), (.long z15), (.long (x4 &&& z22)), (.int (4 : Int32)), (.ref r0)])) _
    refine XS.land X33.here hx rfl (hb hby d5_255) rfl ?_
    show Steps p.tables e below (T33.setTop (mkF m 256 (LS_RRIJsJsJsJsJsJsJsJsJs r0 r1 p2 z20 z3 z6 z9 z12 z15 z18 z21 z22) [(.long (z15 &&& (z22 ^^^ (-1 : Int64)))), (.long (x4 &&& z22)), (.int (4 : Int32)), (.ref r0)])) _
    refine XS.lor X33.here hx rfl (hb hby d5_256) rfl ?_
    exact k
  obtain ⟨cl35, Ar35, qa35, Sa35, Na35, Ha35, Ga35⟩ := id V33
  have hin36 : ¬ ((4 : Int32) < 0 ∨ cl35.slots.size ≤ ((4 : Int32)).toNatClampNeg) := inb_of Sa35 ⟨by decide, by decide⟩
  obtain ⟨T36, h36, X36, e36, W36, st36⟩ := stJ X33 hx hZ e33 Ar35 (j := (4 : Int32)) hin36 (g := (mkF m 257 (LS_RRIJsJsJsJsJsJsJsJsJs r0 r1 p2 z20 z3 z6 z9 z12 z15 z18 z21 z22) [(.long ((x4 &&& z22) ||| (z15 &&& (z22 ^^^ (-1 : Int64))))), (.int (4 : Int32)), (.ref r0)])) rfl rfl (hb hby d5_257)
  have N36 := Fr.snoc X36 N33 g_r0
  have V36 : Arv Z h36 r0 kq1 .long (7 : Int32) [(.long ((x0 &&& z22) ||| (z3 &&& (z22 ^^^ (-1 : Int64))))), (.long ((x1 &&& z22) ||| (z6 &&& (z22 ^^^ (-1 : Int64))))), (.long ((x2 &&& z22) ||| (z9 &&& (z22 ^^^ (-1 : Int64))))), (.long ((x3 &&& z22) ||| (z12 &&& (z22 ^^^ (-1 : Int64))))), (.long ((x4 &&& z22) ||| (z15 &&& (z22 ^^^ (-1 : Int64))))), (.long (0 : Int64)), (.long (0 : Int64))] (.long (0 : Int64)) := Arv.set Ar35 qa35 Sa35 Na35 Ha35 Ga35 rfl W36 4 rfl (Nat.le_of_ble_eq_true rfl)
  refine own_go (B := T36.setTop (mkF m 258 (LS_RRIJsJsJsJsJsJsJsJsJs r0 r1 p2 z20 z3 z6 z9 z12 z15 z18 z21 z22) [])) (fun t k => st36 _ k) ?_
  have Aq1_v37 := Aq1_v34.other W36 hne
  refine own_go (B := T36.setTop (mkF m 278 (LS_RRIJsJsJsJsJsJsJsJsJs r0 r1 p2 z20 z3 z6 z9 z12 z15 z18 z21 z22) [(.long ((x5 &&& z22) ||| (z18 &&& (z22 ^^^ (-1 : Int64))))), (.int (5 : Int32)), (.ref r0)])) (fun t k => ?_) ?_
  · show Steps p.tables e below (T36.setTop (mkF m 258 (LS_RRIJsJsJsJsJsJsJsJsJs r0 r1 p2 z20 z3 z6 z9 z12 z15 z18 z21 z22) [])) _
    refine XS.aloadN X36.here hx rfl (hb hby d5_258) rfl rfl ?_
    show Steps p.tables e below (T36.setTop (mkF m 259 (LS_RRIJsJsJsJsJsJsJsJsJs r0 r1 p2 z20 z3 z6 z9 z12 z15 z18 z21 z22) [(.ref r0)])) _
    refine XS.iconst X36.here hx rfl (hb hby d5_259) ?_
    show Steps p.tables e below (T36.setTop (mkF m 260 (LS_RRIJsJsJsJsJsJsJsJsJs r0 r1 p2 z20 z3 z6 z9 z12 z15 z18 z21 z22) [(.int (5 : Int32)), (.ref r0)])) _
    refine XS.aloadN X36.here hx rfl (hb hby d5_260) rfl rfl ?_
    show Steps p.tables e below (T36.setTop (mkF m 261 (LS_RRIJsJsJsJsJsJsJsJsJs r0 r1 p2 z20 z3 z6 z9 z12 z15 z18 z21 z22) [(.ref r1), (.int (5 : Int32)), (.ref r0)])) _
    refine XS.iloadN X36.here hx rfl (hb hby d5_261) rfl ?_
    show Steps p.tables e below (T36.setTop (mkF m 262 (LS_RRIJsJsJsJsJsJsJsJsJs r0 r1 p2 z20 z3 z6 z9 z12 z15 z18 z21 z22) [(.int p2), (.ref r1), (.int (5 : Int32)), (.ref r0)])) _
    refine XS.iconst X36.here hx rfl (hb hby d5_262) ?_
    show Steps p.tables e below (T36.setTop (mkF m 263 (LS_RRIJsJsJsJsJsJsJsJsJs r0 r1 p2 z20 z3 z6 z9 z12 z15 z18 z21 z22) [(.int (5 : Int32)), (.int p2), (.ref r1), (.int (5 : Int32)), (.ref r0)])) _
    refine XS.iadd X36.here hx rfl (hb hby d5_263) rfl ?_
    show Steps p.tables e below (T36.setTop (mkF m 264 (LS_RRIJsJsJsJsJsJsJsJsJs r0 r1 p2 z20 z3 z6 z9 z12 z15 z18 z21 z22) [(.int (p2 + (5 : Int32))), (.ref r1), (.int (5 : Int32)), (.ref r0)])) _
    refine X36.laload hx (j := (p2 + (5 : Int32))) (v := (.long x5)) (by rw [e36]; exact Aq1_v37.1) (State.isArrayOf_alike hZ.alike Aq1_v37.2.1) Aq1_v37.2.2 hin5 hat5 (g := (mkF m 264 (LS_RRIJsJsJsJsJsJsJsJsJs r0 r1 p2 z20 z3 z6 z9 z12 z15 z18 z21 z22) [(.int (p2 + (5 : Int32))), (.ref r1), (.int (5 : Int32)), (.ref r0)])) rfl rfl (hb hby d5_264) _ ?_
    show Steps p.tables e below (T36.setTop (mkF m 265 (LS_RRIJsJsJsJsJsJsJsJsJs r0 r1 p2 z20 z3 z6 z9 z12 z15 z18 z21 z22) [(.long x5), (.int (5 : Int32)), (.ref r0)])) _
    refine XS.lload X36.here hx rfl (hb hby d5_265) rfl ?_
    show Steps p.tables e below (T36.setTop (mkF m 267 (LS_RRIJsJsJsJsJsJsJsJsJs r0 r1 p2 z20 z3 z6 z9 z12 z15 z18 z21 z22) [(.long z22), (.long x5), (.int (5 : Int32)), (.ref r0)])) _
    refine XS.land X36.here hx rfl (hb hby d5_267) rfl ?_
    show Steps p.tables e below (T36.setTop (mkF m 268 (LS_RRIJsJsJsJsJsJsJsJsJs r0 r1 p2 z20 z3 z6 z9 z12 z15 z18 z21 z22) [(.long (x5 &&& z22)), (.int (5 : Int32)), (.ref r0)])) _
    refine XS.lload X36.here hx rfl (hb hby d5_268) rfl ?_
    show Steps p.tables e below (T36.setTop (mkF m 270 (LS_RRIJsJsJsJsJsJsJsJsJs r0 r1 p2 z20 z3 z6 z9 z12 z15 z18 z21 z22) [(.long z18), (.long (x5 &&& z22)), (.int (5 : Int32)), (.ref r0)])) _
    refine XS.lload X36.here hx rfl (hb hby d5_270) rfl ?_
    show Steps p.tables e below (T36.setTop (mkF m 272 (LS_RRIJsJsJsJsJsJsJsJsJs r0 r1 p2 z20 z3 z6 z9 z12 z15 z18 z21 z22) [(.long z22), (.long z18), (.long (x5 &&& z22)), (.int (5 : Int32)), (.ref r0)])) _
    refine X36.ldc2Long hx hown (mvT hZ (hw _ (List.mem_of_getElem? (i := 42) rfl))) (g := (mkF m 272 (LS_RRIJsJsJsJsJsJsJsJsJs r0 r1 p2 z20 z3 z6 z9 z12 z15 z18 z21 z22) [(.long z22), (.long z18), (.long (x5 &&& z22)), (.int (5 : Int32)), (.ref r0)])) rfl (hb hby d5_272) _ ?_
    show Steps p.tables e below (T36.setTop (mkF m 275 (LS_RRIJsJsJsJsJsJsJsJsJs r0 r1 p2 z20 z3 z6 z9 z12 z15 z18 z21 z22) [(.long (-1 : Int64)), (.long z22), (.long z18), (.long (x5 &&& z22)), (.int (5 : Int32)), (.ref r0)])) _
    refine XS.lxor X36.here hx rfl (hb hby d5_275) rfl ?_
    show Steps p.tables e below (T36.setTop (mkF m 276 (LS_RRIJsJsJsJsJsJsJsJsJs r0 r1 p2 z20 z3 z6 z9 z12 z15 z18 z21 z22) [(.long (z22 ^^^ (-1 : Int64))), (.long z18), (.long (x5 &&& z22)), (.int (5 : Int32)), (.ref r0)])) _
    refine XS.land X36.here hx rfl (hb hby d5_276) rfl ?_
    show Steps p.tables e below (T36.setTop (mkF m 277 (LS_RRIJsJsJsJsJsJsJsJsJs r0 r1 p2 z20 z3 z6 z9 z12 z15 z18 z21 z22) [(.long (z18 &&& (z22 ^^^ (-1 : Int64)))), (.long (x5 &&& z22)), (.int (5 : Int32)), (.ref r0)])) _
    refine XS.lor X36.here hx rfl (hb hby d5_277) rfl ?_
    exact k
  obtain ⟨cl38, Ar38, qa38, Sa38, Na38, Ha38, Ga38⟩ := id V36
  have hin39 : ¬ ((5 : Int32) < 0 ∨ cl38.slots.size ≤ ((5 : Int32)).toNatClampNeg) := inb_of Sa38 ⟨by decide, by decide⟩
  obtain ⟨T39, h39, X39, e39, W39, st39⟩ := stJ X36 hx hZ e36 Ar38 (j := (5 : Int32)) hin39 (g := (mkF m 278 (LS_RRIJsJsJsJsJsJsJsJsJs r0 r1 p2 z20 z3 z6 z9 z12 z15 z18 z21 z22) [(.long ((x5 &&& z22) ||| (z18 &&& (z22 ^^^ (-1 : Int64))))), (.int (5 : Int32)), (.ref r0)])) rfl rfl (hb hby d5_278)
  have N39 := Fr.snoc X39 N36 g_r0
  have V39 : Arv Z h39 r0 kq1 .long (7 : Int32) [(.long ((x0 &&& z22) ||| (z3 &&& (z22 ^^^ (-1 : Int64))))), (.long ((x1 &&& z22) ||| (z6 &&& (z22 ^^^ (-1 : Int64))))), (.long ((x2 &&& z22) ||| (z9 &&& (z22 ^^^ (-1 : Int64))))), (.long ((x3 &&& z22) ||| (z12 &&& (z22 ^^^ (-1 : Int64))))), (.long ((x4 &&& z22) ||| (z15 &&& (z22 ^^^ (-1 : Int64))))), (.long ((x5 &&& z22) ||| (z18 &&& (z22 ^^^ (-1 : Int64))))), (.long (0 : Int64))] (.long (0 : Int64)) := Arv.set Ar38 qa38 Sa38 Na38 Ha38 Ga38 rfl W39 5 rfl (Nat.le_of_ble_eq_true rfl)
  refine own_go (B := T39.setTop (mkF m 279 (LS_RRIJsJsJsJsJsJsJsJsJs r0 r1 p2 z20 z3 z6 z9 z12 z15 z18 z21 z22) [])) (fun t k => st39 _ k) ?_
  have Aq1_v40 := Aq1_v37.other W39 hne
  refine own_go (B := T39.setTop (mkF m 301 (LS_RRIJsJsJsJsJsJsJsJsJs r0 r1 p2 z20 z3 z6 z9 z12 z15 z18 z21 z22) [(.long ((x6 &&& z22) ||| (z21 &&& (z22 ^^^ (-1 : Int64))))), (.int (6 : Int32)), (.ref r0)])) (fun t k => ?_) ?_
  · show Steps p.tables e below (T39.setTop (mkF m 279 (LS_RRIJsJsJsJsJsJsJsJsJs r0 r1 p2 z20 z3 z6 z9 z12 z15 z18 z21 z22) [])) _
    refine XS.aloadN X39.here hx rfl (hb hby d5_279) rfl rfl ?_
    show Steps p.tables e below (T39.setTop (mkF m 280 (LS_RRIJsJsJsJsJsJsJsJsJs r0 r1 p2 z20 z3 z6 z9 z12 z15 z18 z21 z22) [(.ref r0)])) _
    refine XS.bipush X39.here hx rfl (hb hby d5_280) ?_
    show Steps p.tables e below (T39.setTop (mkF m 282 (LS_RRIJsJsJsJsJsJsJsJsJs r0 r1 p2 z20 z3 z6 z9 z12 z15 z18 z21 z22) [(.int (6 : Int32)), (.ref r0)])) _
    refine XS.aloadN X39.here hx rfl (hb hby d5_282) rfl rfl ?_
    show Steps p.tables e below (T39.setTop (mkF m 283 (LS_RRIJsJsJsJsJsJsJsJsJs r0 r1 p2 z20 z3 z6 z9 z12 z15 z18 z21 z22) [(.ref r1), (.int (6 : Int32)), (.ref r0)])) _
    refine XS.iloadN X39.here hx rfl (hb hby d5_283) rfl ?_
    show Steps p.tables e below (T39.setTop (mkF m 284 (LS_RRIJsJsJsJsJsJsJsJsJs r0 r1 p2 z20 z3 z6 z9 z12 z15 z18 z21 z22) [(.int p2), (.ref r1), (.int (6 : Int32)), (.ref r0)])) _
    refine XS.bipush X39.here hx rfl (hb hby d5_284) ?_
    show Steps p.tables e below (T39.setTop (mkF m 286 (LS_RRIJsJsJsJsJsJsJsJsJs r0 r1 p2 z20 z3 z6 z9 z12 z15 z18 z21 z22) [(.int (6 : Int32)), (.int p2), (.ref r1), (.int (6 : Int32)), (.ref r0)])) _
    refine XS.iadd X39.here hx rfl (hb hby d5_286) rfl ?_
    show Steps p.tables e below (T39.setTop (mkF m 287 (LS_RRIJsJsJsJsJsJsJsJsJs r0 r1 p2 z20 z3 z6 z9 z12 z15 z18 z21 z22) [(.int (p2 + (6 : Int32))), (.ref r1), (.int (6 : Int32)), (.ref r0)])) _
    refine X39.laload hx (j := (p2 + (6 : Int32))) (v := (.long x6)) (by rw [e39]; exact Aq1_v40.1) (State.isArrayOf_alike hZ.alike Aq1_v40.2.1) Aq1_v40.2.2 hin6 hat6 (g := (mkF m 287 (LS_RRIJsJsJsJsJsJsJsJsJs r0 r1 p2 z20 z3 z6 z9 z12 z15 z18 z21 z22) [(.int (p2 + (6 : Int32))), (.ref r1), (.int (6 : Int32)), (.ref r0)])) rfl rfl (hb hby d5_287) _ ?_
    show Steps p.tables e below (T39.setTop (mkF m 288 (LS_RRIJsJsJsJsJsJsJsJsJs r0 r1 p2 z20 z3 z6 z9 z12 z15 z18 z21 z22) [(.long x6), (.int (6 : Int32)), (.ref r0)])) _
    refine XS.lload X39.here hx rfl (hb hby d5_288) rfl ?_
    show Steps p.tables e below (T39.setTop (mkF m 290 (LS_RRIJsJsJsJsJsJsJsJsJs r0 r1 p2 z20 z3 z6 z9 z12 z15 z18 z21 z22) [(.long z22), (.long x6), (.int (6 : Int32)), (.ref r0)])) _
    refine XS.land X39.here hx rfl (hb hby d5_290) rfl ?_
    show Steps p.tables e below (T39.setTop (mkF m 291 (LS_RRIJsJsJsJsJsJsJsJsJs r0 r1 p2 z20 z3 z6 z9 z12 z15 z18 z21 z22) [(.long (x6 &&& z22)), (.int (6 : Int32)), (.ref r0)])) _
    refine XS.lload X39.here hx rfl (hb hby d5_291) rfl ?_
    show Steps p.tables e below (T39.setTop (mkF m 293 (LS_RRIJsJsJsJsJsJsJsJsJs r0 r1 p2 z20 z3 z6 z9 z12 z15 z18 z21 z22) [(.long z21), (.long (x6 &&& z22)), (.int (6 : Int32)), (.ref r0)])) _
    refine XS.lload X39.here hx rfl (hb hby d5_293) rfl ?_
    show Steps p.tables e below (T39.setTop (mkF m 295 (LS_RRIJsJsJsJsJsJsJsJsJs r0 r1 p2 z20 z3 z6 z9 z12 z15 z18 z21 z22) [(.long z22), (.long z21), (.long (x6 &&& z22)), (.int (6 : Int32)), (.ref r0)])) _
    refine X39.ldc2Long hx hown (mvT hZ (hw _ (List.mem_of_getElem? (i := 42) rfl))) (g := (mkF m 295 (LS_RRIJsJsJsJsJsJsJsJsJs r0 r1 p2 z20 z3 z6 z9 z12 z15 z18 z21 z22) [(.long z22), (.long z21), (.long (x6 &&& z22)), (.int (6 : Int32)), (.ref r0)])) rfl (hb hby d5_295) _ ?_
    show Steps p.tables e below (T39.setTop (mkF m 298 (LS_RRIJsJsJsJsJsJsJsJsJs r0 r1 p2 z20 z3 z6 z9 z12 z15 z18 z21 z22) [(.long (-1 : Int64)), (.long z22), (.long z21), (.long (x6 &&& z22)), (.int (6 : Int32)), (.ref r0)])) _
    refine XS.lxor X39.here hx rfl (hb hby d5_298) rfl ?_
    show Steps p.tables e below (T39.setTop (mkF m 299 (LS_RRIJsJsJsJsJsJsJsJsJs r0 r1 p2 z20 z3 z6 z9 z12 z15 z18 z21 z22) [(.long (z22 ^^^ (-1 : Int64))), (.long z21), (.long (x6 &&& z22)), (.int (6 : Int32)), (.ref r0)])) _
    refine XS.land X39.here hx rfl (hb hby d5_299) rfl ?_
    show Steps p.tables e below (T39.setTop (mkF m 300 (LS_RRIJsJsJsJsJsJsJsJsJs r0 r1 p2 z20 z3 z6 z9 z12 z15 z18 z21 z22) [(.long (z21 &&& (z22 ^^^ (-1 : Int64)))), (.long (x6 &&& z22)), (.int (6 : Int32)), (.ref r0)])) _
    refine XS.lor X39.here hx rfl (hb hby d5_300) rfl ?_
    exact k
  obtain ⟨cl41, Ar41, qa41, Sa41, Na41, Ha41, Ga41⟩ := id V39
  have hin42 : ¬ ((6 : Int32) < 0 ∨ cl41.slots.size ≤ ((6 : Int32)).toNatClampNeg) := inb_of Sa41 ⟨by decide, by decide⟩
  obtain ⟨T42, h42, X42, e42, W42, st42⟩ := stJ X39 hx hZ e39 Ar41 (j := (6 : Int32)) hin42 (g := (mkF m 301 (LS_RRIJsJsJsJsJsJsJsJsJs r0 r1 p2 z20 z3 z6 z9 z12 z15 z18 z21 z22) [(.long ((x6 &&& z22) ||| (z21 &&& (z22 ^^^ (-1 : Int64))))), (.int (6 : Int32)), (.ref r0)])) rfl rfl (hb hby d5_301)
  have N42 := Fr.snoc X42 N39 g_r0
  have V42 : Arv Z h42 r0 kq1 .long (7 : Int32) [(.long ((x0 &&& z22) ||| (z3 &&& (z22 ^^^ (-1 : Int64))))), (.long ((x1 &&& z22) ||| (z6 &&& (z22 ^^^ (-1 : Int64))))), (.long ((x2 &&& z22) ||| (z9 &&& (z22 ^^^ (-1 : Int64))))), (.long ((x3 &&& z22) ||| (z12 &&& (z22 ^^^ (-1 : Int64))))), (.long ((x4 &&& z22) ||| (z15 &&& (z22 ^^^ (-1 : Int64))))), (.long ((x5 &&& z22) ||| (z18 &&& (z22 ^^^ (-1 : Int64))))), (.long ((x6 &&& z22) ||| (z21 &&& (z22 ^^^ (-1 : Int64)))))] (.long (0 : Int64)) := Arv.set Ar41 qa41 Sa41 Na41 Ha41 Ga41 rfl W42 6 rfl (Nat.le_of_ble_eq_true rfl)
  refine own_go (B := T42.setTop (mkF m 302 (LS_RRIJsJsJsJsJsJsJsJsJs r0 r1 p2 z20 z3 z6 z9 z12 z15 z18 z21 z22) [])) (fun t k => st42 _ k) ?_
  obtain ⟨fs, hr, hrun, hended, hW, hsame⟩ := X42.leave (v := none) (fun _ => rfl)
  refine ⟨_, _, ?_, hrun, hended, _, _, rfl, ?_, ⟨_, rfl⟩, hW, hsame.mono (by decide) (by decide)⟩
  · show Steps p.tables e below (T42.setTop (mkF m 302 (LS_RRIJsJsJsJsJsJsJsJsJs r0 r1 p2 z20 z3 z6 z9 z12 z15 z18 z21 z22) [])) _
    exact X42.returnOut hx Bd.returns (hb hby d5_302) hr
  · show Q5 Z r0 r1 p2 kq1 cl x0 x1 x2 x3 x4 x5 x6 h0 n0 _ T42.heap _
    rw [e42]
    have K0_v43 := K0.wr W24 (Or.inl (List.mem_of_getElem? (i := 0) rfl))
    have K0_v44 := K0_v43.wr W27 (Or.inl (List.mem_of_getElem? (i := 0) rfl))
    have K0_v45 := K0_v44.wr W30 (Or.inl (List.mem_of_getElem? (i := 0) rfl))
    have K0_v46 := K0_v45.wr W33 (Or.inl (List.mem_of_getElem? (i := 0) rfl))
    have K0_v47 := K0_v46.wr W36 (Or.inl (List.mem_of_getElem? (i := 0) rfl))
    have K0_v48 := K0_v47.wr W39 (Or.inl (List.mem_of_getElem? (i := 0) rfl))
    have K0_v49 := K0_v48.wr W42 (Or.inl (List.mem_of_getElem? (i := 0) rfl))
    have Vz := V42
    subst hz22 hz21 hz20 hz18 hz17 hz15 hz14 hz12 hz11 hz9 hz8 hz6 hz5 hz3 hz2
    exact ⟨rfl, N42, K0_v49, Vz⟩
theorem ef_4 (m : MethodId) (r0 : Addr) (p1 : Int32) (p3 : Int32) : entryFrame m #[(.ref r0), (.int p1), (.ref r0), (.int p3)] 6 = mkF m 0 #[.val (.ref r0), .val (.int p1), .val (.ref r0), .val (.int p3), .unset, .unset] [] := by first | (simp [entryFrame, mkF, argsToLocals, Value.category]; done) | rfl
theorem pn_4 : plainName "com/example/barred_rows/barredrows/crypto/Fp" = true := by first | (simp [plainName, overriddenIn]; done) | decide +kernel
abbrev LS_RIRIuu (a0 : Addr) (a1 : Int32) (a2 : Addr) (a3 : Int32) : Array Slot := #[.val (.ref a0), .val (.int a1), .val (.ref a2), .val (.int a3), .unset, .unset]
theorem d4_0 : decode prog_7_method_9_code 0 = .ok (.bipush 7, 2) := by decide +kernel
theorem d4_2 : decode prog_7_method_9_code 2 = .ok (.newarray .long, 2) := by decide +kernel
theorem d4_4 : decode prog_7_method_9_code 4 = .ok (.astore 4, 2) := by decide +kernel
abbrev LS_RIRIRu (a0 : Addr) (a1 : Int32) (a2 : Addr) (a3 : Int32) (a4 : Addr) : Array Slot := #[.val (.ref a0), .val (.int a1), .val (.ref a2), .val (.int a3), .val (.ref a4), .unset]
theorem d4_6 : decode prog_7_method_9_code 6 = .ok (.bipush 7, 2) := by decide +kernel
theorem d4_8 : decode prog_7_method_9_code 8 = .ok (.newarray .long, 2) := by decide +kernel
theorem d4_10 : decode prog_7_method_9_code 10 = .ok (.astore 5, 2) := by decide +kernel
abbrev LS_RIRIRR (a0 : Addr) (a1 : Int32) (a2 : Addr) (a3 : Int32) (a4 : Addr) (a5 : Addr) : Array Slot := #[.val (.ref a0), .val (.int a1), .val (.ref a2), .val (.int a3), .val (.ref a4), .val (.ref a5)]
theorem d4_12 : decode prog_7_method_9_code 12 = .ok (.aload 4, 2) := by decide +kernel
theorem d4_14 : decode prog_7_method_9_code 14 = .ok (.aload_n 0, 1) := by decide +kernel
theorem d4_15 : decode prog_7_method_9_code 15 = .ok (.iload_n 1, 1) := by decide +kernel
theorem d4_16 : decode prog_7_method_9_code 16 = .ok (.invokestatic 105, 3) := by decide +kernel
theorem pd___J_JI_V : parseMethodDescriptor "([J[JI)V" = some ⟨[(.array .long), (.array .long), .int], none⟩ := by decide +kernel
theorem d4_19 : decode prog_7_method_9_code 19 = .ok (.aload 5, 2) := by decide +kernel
theorem d4_21 : decode prog_7_method_9_code 21 = .ok (.aload_n 2, 1) := by decide +kernel
theorem d4_22 : decode prog_7_method_9_code 22 = .ok (.iload_n 3, 1) := by decide +kernel
theorem d4_23 : decode prog_7_method_9_code 23 = .ok (.invokestatic 105, 3) := by decide +kernel
theorem d4_26 : decode prog_7_method_9_code 26 = .ok (.aload 4, 2) := by decide +kernel
theorem d4_28 : decode prog_7_method_9_code 28 = .ok (.iconst 0, 1) := by decide +kernel
theorem d4_29 : decode prog_7_method_9_code 29 = .ok (.laload, 1) := by decide +kernel
theorem d4_30 : decode prog_7_method_9_code 30 = .ok (.aload 5, 2) := by decide +kernel
theorem d4_32 : decode prog_7_method_9_code 32 = .ok (.iconst 0, 1) := by decide +kernel
theorem d4_33 : decode prog_7_method_9_code 33 = .ok (.laload, 1) := by decide +kernel
theorem d4_34 : decode prog_7_method_9_code 34 = .ok (.lxor, 1) := by decide +kernel
theorem d4_35 : decode prog_7_method_9_code 35 = .ok (.aload 4, 2) := by decide +kernel
theorem d4_37 : decode prog_7_method_9_code 37 = .ok (.iconst 1, 1) := by decide +kernel
theorem d4_38 : decode prog_7_method_9_code 38 = .ok (.laload, 1) := by decide +kernel
theorem d4_39 : decode prog_7_method_9_code 39 = .ok (.aload 5, 2) := by decide +kernel
theorem d4_41 : decode prog_7_method_9_code 41 = .ok (.iconst 1, 1) := by decide +kernel
theorem d4_42 : decode prog_7_method_9_code 42 = .ok (.laload, 1) := by decide +kernel
theorem d4_43 : decode prog_7_method_9_code 43 = .ok (.lxor, 1) := by decide +kernel
theorem d4_44 : decode prog_7_method_9_code 44 = .ok (.lor, 1) := by decide +kernel
theorem d4_45 : decode prog_7_method_9_code 45 = .ok (.aload 4, 2) := by decide +kernel
theorem d4_47 : decode prog_7_method_9_code 47 = .ok (.iconst 2, 1) := by decide +kernel
theorem d4_48 : decode prog_7_method_9_code 48 = .ok (.laload, 1) := by decide +kernel
theorem d4_49 : decode prog_7_method_9_code 49 = .ok (.aload 5, 2) := by decide +kernel
theorem d4_51 : decode prog_7_method_9_code 51 = .ok (.iconst 2, 1) := by decide +kernel
theorem d4_52 : decode prog_7_method_9_code 52 = .ok (.laload, 1) := by decide +kernel
theorem d4_53 : decode prog_7_method_9_code 53 = .ok (.lxor, 1) := by decide +kernel
theorem d4_54 : decode prog_7_method_9_code 54 = .ok (.lor, 1) := by decide +kernel
theorem d4_55 : decode prog_7_method_9_code 55 = .ok (.aload 4, 2) := by decide +kernel
theorem d4_57 : decode prog_7_method_9_code 57 = .ok (.iconst 3, 1) := by decide +kernel
theorem d4_58 : decode prog_7_method_9_code 58 = .ok (.laload, 1) := by decide +kernel
theorem d4_59 : decode prog_7_method_9_code 59 = .ok (.aload 5, 2) := by decide +kernel
theorem d4_61 : decode prog_7_method_9_code 61 = .ok (.iconst 3, 1) := by decide +kernel
theorem d4_62 : decode prog_7_method_9_code 62 = .ok (.laload, 1) := by decide +kernel
theorem d4_63 : decode prog_7_method_9_code 63 = .ok (.lxor, 1) := by decide +kernel
theorem d4_64 : decode prog_7_method_9_code 64 = .ok (.lor, 1) := by decide +kernel
theorem d4_65 : decode prog_7_method_9_code 65 = .ok (.aload 4, 2) := by decide +kernel
theorem d4_67 : decode prog_7_method_9_code 67 = .ok (.iconst 4, 1) := by decide +kernel
theorem d4_68 : decode prog_7_method_9_code 68 = .ok (.laload, 1) := by decide +kernel
theorem d4_69 : decode prog_7_method_9_code 69 = .ok (.aload 5, 2) := by decide +kernel
theorem d4_71 : decode prog_7_method_9_code 71 = .ok (.iconst 4, 1) := by decide +kernel
theorem d4_72 : decode prog_7_method_9_code 72 = .ok (.laload, 1) := by decide +kernel
theorem d4_73 : decode prog_7_method_9_code 73 = .ok (.lxor, 1) := by decide +kernel
theorem d4_74 : decode prog_7_method_9_code 74 = .ok (.lor, 1) := by decide +kernel
theorem d4_75 : decode prog_7_method_9_code 75 = .ok (.aload 4, 2) := by decide +kernel
theorem d4_77 : decode prog_7_method_9_code 77 = .ok (.iconst 5, 1) := by decide +kernel
theorem d4_78 : decode prog_7_method_9_code 78 = .ok (.laload, 1) := by decide +kernel
theorem d4_79 : decode prog_7_method_9_code 79 = .ok (.aload 5, 2) := by decide +kernel
theorem d4_81 : decode prog_7_method_9_code 81 = .ok (.iconst 5, 1) := by decide +kernel
theorem d4_82 : decode prog_7_method_9_code 82 = .ok (.laload, 1) := by decide +kernel
theorem d4_83 : decode prog_7_method_9_code 83 = .ok (.lxor, 1) := by decide +kernel
theorem d4_84 : decode prog_7_method_9_code 84 = .ok (.lor, 1) := by decide +kernel
theorem d4_85 : decode prog_7_method_9_code 85 = .ok (.aload 4, 2) := by decide +kernel
theorem d4_87 : decode prog_7_method_9_code 87 = .ok (.bipush 6, 2) := by decide +kernel
theorem d4_89 : decode prog_7_method_9_code 89 = .ok (.laload, 1) := by decide +kernel
theorem d4_90 : decode prog_7_method_9_code 90 = .ok (.aload 5, 2) := by decide +kernel
theorem d4_92 : decode prog_7_method_9_code 92 = .ok (.bipush 6, 2) := by decide +kernel
theorem d4_94 : decode prog_7_method_9_code 94 = .ok (.laload, 1) := by decide +kernel
theorem d4_95 : decode prog_7_method_9_code 95 = .ok (.lxor, 1) := by decide +kernel
theorem d4_96 : decode prog_7_method_9_code 96 = .ok (.lor, 1) := by decide +kernel
theorem d4_97 : decode prog_7_method_9_code 97 = .ok (.lconst 0, 1) := by decide +kernel
theorem d4_98 : decode prog_7_method_9_code 98 = .ok (.lcmp, 1) := by decide +kernel
theorem d4_99 : decode prog_7_method_9_code 99 = .ok (.ifCond .ne 7, 3) := by decide +kernel
theorem d4_102 : decode prog_7_method_9_code 102 = .ok (.iconst 1, 1) := by decide +kernel
theorem d4_103 : decode prog_7_method_9_code 103 = .ok (.goto 4, 3) := by decide +kernel
theorem d4_107 : decode prog_7_method_9_code 107 = .ok (.ireturn, 1) := by decide +kernel
theorem d4_106 : decode prog_7_method_9_code 106 = .ok (.iconst 0, 1) := by decide +kernel
def Q4 (Z : State) (r0 : Addr) (p1 : Int32) (p3 : Int32) (cl : Cell) (x0 x1 x2 x3 x4 x5 x6 y0 y1 y2 y3 y4 y5 y6 : Int64) (h0 : Heap) (n0 : Nat) (v : Option Value) (h : Heap) (L : List Loc) : Prop := v = some (.int (if ((((((((own_c0 x0 x1 x2 x3 x4 x5 x6) ^^^ (own_c0 y0 y1 y2 y3 y4 y5 y6)) ||| ((own_c1 x0 x1 x2 x3 x4 x5 x6) ^^^ (own_c1 y0 y1 y2 y3 y4 y5 y6))) ||| ((own_c2 x0 x1 x2 x3 x4 x5 x6) ^^^ (own_c2 y0 y1 y2 y3 y4 y5 y6))) ||| ((own_c3 x0 x1 x2 x3 x4 x5 x6) ^^^ (own_c3 y0 y1 y2 y3 y4 y5 y6))) ||| ((own_c4 x0 x1 x2 x3 x4 x5 x6) ^^^ (own_c4 y0 y1 y2 y3 y4 y5 y6))) ||| ((own_c5 x0 x1 x2 x3 x4 x5 x6) ^^^ (own_c5 y0 y1 y2 y3 y4 y5 y6))) ||| ((own_c6 x0 x1 x2 x3 x4 x5 x6) ^^^ (own_c6 y0 y1 y2 y3 y4 y5 y6))) = (0 : Int64) then (1 : Int32) else (0 : Int32))) ∧ Fr n0 L
set_option maxRecDepth 65536 in
set_option maxHeartbeats 40000000 in
theorem rm4 (l : Launch) (Z : State) (a0 : Array Value) (hw : ∀ d ∈ tables_1, d.before a0 Z = true) (ws : List Jvm.Cond) (r0 : Addr) (p1 : Int32) (p3 : Int32) (cl : Cell) (x0 x1 x2 x3 x4 x5 x6 y0 y1 y2 y3 y4 y5 y6 : Int64) (h0 : Heap) (n0 : Nat) (Z0 : n0 ≤ h0.size) (Aq1 : Arr Z h0 r0 cl .long) (hin0 : ¬ (p1 < 0 ∨ cl.slots.size ≤ (p1).toNatClampNeg)) (hin1 : ¬ ((p1 + (1 : Int32)) < 0 ∨ cl.slots.size ≤ ((p1 + (1 : Int32))).toNatClampNeg)) (hin2 : ¬ ((p1 + (2 : Int32)) < 0 ∨ cl.slots.size ≤ ((p1 + (2 : Int32))).toNatClampNeg)) (hin3 : ¬ ((p1 + (3 : Int32)) < 0 ∨ cl.slots.size ≤ ((p1 + (3 : Int32))).toNatClampNeg)) (hin4 : ¬ ((p1 + (4 : Int32)) < 0 ∨ cl.slots.size ≤ ((p1 + (4 : Int32))).toNatClampNeg)) (hin5 : ¬ ((p1 + (5 : Int32)) < 0 ∨ cl.slots.size ≤ ((p1 + (5 : Int32))).toNatClampNeg)) (hin6 : ¬ ((p1 + (6 : Int32)) < 0 ∨ cl.slots.size ≤ ((p1 + (6 : Int32))).toNatClampNeg)) (hat0 : cl.slots[(p1).toNatClampNeg]? = some (.long x0)) (hat1 : cl.slots[((p1 + (1 : Int32))).toNatClampNeg]? = some (.long x1)) (hat2 : cl.slots[((p1 + (2 : Int32))).toNatClampNeg]? = some (.long x2)) (hat3 : cl.slots[((p1 + (3 : Int32))).toNatClampNeg]? = some (.long x3)) (hat4 : cl.slots[((p1 + (4 : Int32))).toNatClampNeg]? = some (.long x4)) (hat5 : cl.slots[((p1 + (5 : Int32))).toNatClampNeg]? = some (.long x5)) (hat6 : cl.slots[((p1 + (6 : Int32))).toNatClampNeg]? = some (.long x6)) (gin0 : ¬ (p3 < 0 ∨ cl.slots.size ≤ (p3).toNatClampNeg)) (gin1 : ¬ ((p3 + (1 : Int32)) < 0 ∨ cl.slots.size ≤ ((p3 + (1 : Int32))).toNatClampNeg)) (gin2 : ¬ ((p3 + (2 : Int32)) < 0 ∨ cl.slots.size ≤ ((p3 + (2 : Int32))).toNatClampNeg)) (gin3 : ¬ ((p3 + (3 : Int32)) < 0 ∨ cl.slots.size ≤ ((p3 + (3 : Int32))).toNatClampNeg)) (gin4 : ¬ ((p3 + (4 : Int32)) < 0 ∨ cl.slots.size ≤ ((p3 + (4 : Int32))).toNatClampNeg)) (gin5 : ¬ ((p3 + (5 : Int32)) < 0 ∨ cl.slots.size ≤ ((p3 + (5 : Int32))).toNatClampNeg)) (gin6 : ¬ ((p3 + (6 : Int32)) < 0 ∨ cl.slots.size ≤ ((p3 + (6 : Int32))).toNatClampNeg)) (gat0 : cl.slots[(p3).toNatClampNeg]? = some (.long y0)) (gat1 : cl.slots[((p3 + (1 : Int32))).toNatClampNeg]? = some (.long y1)) (gat2 : cl.slots[((p3 + (2 : Int32))).toNatClampNeg]? = some (.long y2)) (gat3 : cl.slots[((p3 + (3 : Int32))).toNatClampNeg]? = some (.long y3)) (gat4 : cl.slots[((p3 + (4 : Int32))).toNatClampNeg]? = some (.long y4)) (gat5 : cl.slots[((p3 + (5 : Int32))).toNatClampNeg]? = some (.long y5)) (gat6 : cl.slots[((p3 + (6 : Int32))).toNatClampNeg]? = some (.long y6)) (S0 : Sta Z h0 "com/example/barred_rows/barredrows/crypto/Fp" "P0" "J" (.long (35747322042231467 : Int64))) (S1 : Sta Z h0 "com/example/barred_rows/barredrows/crypto/Fp" "P1" "J" (.long (36025922209447795 : Int64))) (S2 : Sta Z h0 "com/example/barred_rows/barredrows/crypto/Fp" "P2" "J" (.long (1084959616957103 : Int64))) (S3 : Sta Z h0 "com/example/barred_rows/barredrows/crypto/Fp" "P3" "J" (.long (7925923977987733 : Int64))) (S4 : Sta Z h0 "com/example/barred_rows/barredrows/crypto/Fp" "P4" "J" (.long (16551456537884751 : Int64))) (S5 : Sta Z h0 "com/example/barred_rows/barredrows/crypto/Fp" "P5" "J" (.long (23443114579904617 : Int64))) (S6 : Sta Z h0 "com/example/barred_rows/barredrows/crypto/Fp" "P6" "J" (.long (1829881462546425 : Int64))) :
    MetFree l (⟨"com/example/barred_rows/barredrows/crypto/Fp", "equal", "([JI[JI)Z"⟩ : MethodName) (head1 (Jvm.Cond.code (⟨"com/example/barred_rows/barredrows/crypto/Fp", "equal", "([JI[JI)Z"⟩ : MethodName) prog_7_method_9_code 6 (some .boolean) :: ws) ({ frames := 1, cells := 2, slots := 14, locals := 35 } : Room)) (fun a U => a = #[(.ref r0), (.int p1), (.ref r0), (.int p3)] ∧ Z.Warmed39 U.vm ∧ U.heap = h0) (fun _ _ _ _ _ => True) (fun _ U o U' => ∃ v L, o = .returned v ∧ Q4 Z r0 p1 p3 cl x0 x1 x2 x3 x4 x5 x6 y0 y1 y2 y3 y4 y5 y6 h0 n0 v U'.heap L ∧ FrameEnd U o U' L ({ frames := 1, cells := 2, slots := 14, locals := 35 } : Room).cells ({ frames := 1, cells := 2, slots := 14, locals := 35 } : Room).slots) := by
  refine MetFree.of_bodySF (plainFor_of_name pn_4) hisR ?_
  intro p e s m args below meth c s₁ Bd hml0 hP hK
  obtain ⟨rfl, hZ, hh⟩ := hP
  have hx := Bd.exec
  have hby := Bd.bytes
  have hml : c.maxLocals = 6 := hml0
  have hown : s.vm.findClass "com/example/barred_rows/barredrows/crypto/Fp" = some m.cls := findClass_of_methodNamed Bd.named
  have hnm := (name_of_methodNamed Bd.named Bd.method).1
  have X0 : Stand p l e ({ frames := 1, cells := 2, slots := 14, locals := 35 } : Room) s m #[(.ref r0), (.int p1), (.ref r0), (.int p3)] below meth c s₁ [] 0 0 := Stand.of_body Bd
  have e0 : s₁.heap = h0 := by rw [← hh, Bd.state]; rfl
  have N0 := Fr.nil n0
  refine own_go (B := s₁.setTop (mkF m 0 (LS_RIRIuu r0 p1 r0 p3) [])) (fun t k => castTop (ef_4 m r0 p1 p3) k) ?_
  refine own_go (B := s₁.setTop (mkF m 2 (LS_RIRIuu r0 p1 r0 p3) [(.int (7 : Int32))])) (fun t k => ?_) ?_
  · show Steps p.tables e below (s₁.setTop (mkF m 0 (LS_RIRIuu r0 p1 r0 p3) [])) _
    refine XS.bipush X0.here hx rfl (hb hby d4_0) ?_
    exact k
  obtain ⟨T1, h1, k1, X1, e1, E1, A1, st1⟩ := newP X0 hx hZ (hw _ (List.mem_of_getElem? (i := 1) rfl)) e0 (g := (mkF m 2 (LS_RIRIuu r0 p1 r0 p3) [(.int (7 : Int32))])) rfl (hb hby d4_2) rfl (by decide) (cap := 7) (by decide) (by decide) (by decide) (by decide)
  obtain ⟨b1, g1⟩ : ∃ z, z = h0.size := ⟨_, rfl⟩
  rw [← g1] at A1 st1
  have g_b1 : n0 ≤ b1 := Nat.le_trans Z0 (Nat.le_of_eq g1.symm)
  have V1 : Arv Z h1 b1 k1 .long (7 : Int32) [(.long (0 : Int64)), (.long (0 : Int64)), (.long (0 : Int64)), (.long (0 : Int64)), (.long (0 : Int64)), (.long (0 : Int64)), (.long (0 : Int64))] (.long (0 : Int64)) := (Arv.new A1 (by decide)).pad (pad_rep [] (.long (0 : Int64)) 7)
  refine own_go (B := T1.setTop (mkF m 4 (LS_RIRIuu r0 p1 r0 p3) [(.ref b1)])) (fun t k => st1 _ k) ?_
  refine own_go (B := T1.setTop (mkF m 8 (LS_RIRIRu r0 p1 r0 p3 b1) [(.int (7 : Int32))])) (fun t k => ?_) ?_
  · show Steps p.tables e below (T1.setTop (mkF m 4 (LS_RIRIuu r0 p1 r0 p3) [(.ref b1)])) _
    refine XS.astore X1.here hx rfl (hb hby d4_4) rfl rfl (l' := (LS_RIRIRu r0 p1 r0 p3 b1)) rfl ?_
    show Steps p.tables e below (T1.setTop (mkF m 6 (LS_RIRIRu r0 p1 r0 p3 b1) [])) _
    refine XS.bipush X1.here hx rfl (hb hby d4_6) ?_
    exact k
  obtain ⟨T2, h2, k2, X2, e2, E2, A2, st2⟩ := newP X1 hx hZ (hw _ (List.mem_of_getElem? (i := 1) rfl)) e1 (g := (mkF m 8 (LS_RIRIRu r0 p1 r0 p3 b1) [(.int (7 : Int32))])) rfl (hb hby d4_8) rfl (by decide) (cap := 7) (by decide) (by decide) (by decide) (by decide)
  obtain ⟨b2, g2⟩ : ∃ z, z = h1.size := ⟨_, rfl⟩
  rw [← g2] at A2 st2
  have Z0_v3 := Nat.le_trans Z0 E1.1
  have g_b2 : n0 ≤ b2 := Nat.le_trans Z0_v3 (Nat.le_of_eq g2.symm)
  have V2 : Arv Z h2 b2 k2 .long (7 : Int32) [(.long (0 : Int64)), (.long (0 : Int64)), (.long (0 : Int64)), (.long (0 : Int64)), (.long (0 : Int64)), (.long (0 : Int64)), (.long (0 : Int64))] (.long (0 : Int64)) := (Arv.new A2 (by decide)).pad (pad_rep [] (.long (0 : Int64)) 7)
  refine own_go (B := T2.setTop (mkF m 10 (LS_RIRIRu r0 p1 r0 p3 b1) [(.ref b2)])) (fun t k => st2 _ k) ?_
  refine own_go (B := T2.setTop (mkF m 16 (LS_RIRIRR r0 p1 r0 p3 b1 b2) [(.int p1), (.ref r0), (.ref b1)])) (fun t k => ?_) ?_
  · show Steps p.tables e below (T2.setTop (mkF m 10 (LS_RIRIRu r0 p1 r0 p3 b1) [(.ref b2)])) _
    refine XS.astore X2.here hx rfl (hb hby d4_10) rfl rfl (l' := (LS_RIRIRR r0 p1 r0 p3 b1 b2)) rfl ?_
    show Steps p.tables e below (T2.setTop (mkF m 12 (LS_RIRIRR r0 p1 r0 p3 b1 b2) [])) _
    refine XS.aload X2.here hx rfl (hb hby d4_12) rfl rfl ?_
    show Steps p.tables e below (T2.setTop (mkF m 14 (LS_RIRIRR r0 p1 r0 p3 b1 b2) [(.ref b1)])) _
    refine XS.aloadN X2.here hx rfl (hb hby d4_14) rfl rfl ?_
    show Steps p.tables e below (T2.setTop (mkF m 15 (LS_RIRIRR r0 p1 r0 p3 b1 b2) [(.ref r0), (.ref b1)])) _
    refine XS.iloadN X2.here hx rfl (hb hby d4_15) rfl ?_
    exact k
  have Z0_v4 := Nat.le_trans Z0_v3 E2.1
  have V1_v5 := V1.ext E2
  have Aq1_v6 := Aq1.ext E1
  have Aq1_v7 := Aq1_v6.ext E2
  have S0_v8 := S0.ext E1
  have S0_v9 := S0_v8.ext E2
  have S1_v10 := S1.ext E1
  have S1_v11 := S1_v10.ext E2
  have S2_v12 := S2.ext E1
  have S2_v13 := S2_v12.ext E2
  have S3_v14 := S3.ext E1
  have S3_v15 := S3_v14.ext E2
  have S4_v16 := S4.ext E1
  have S4_v17 := S4_v16.ext E2
  have S5_v18 := S5.ext E1
  have S5_v19 := S5_v18.ext E2
  have S6_v20 := S6.ext E1
  have S6_v21 := S6_v20.ext E2
  have ne22 : r0 ≠ b1 := Nat.ne_of_lt (Nat.lt_of_lt_of_le Aq1.lt (Nat.le_of_eq g1.symm))
  obtain ⟨_, _, ⟨T23, L23, k23, n23⟩, -, X23, ⟨Lc23, hQ23, l23, y23, z23⟩, st23⟩ := Jvm.LawKit.callS X2 hx (y := (⟨"com/example/barred_rows/barredrows/crypto/Fp", "canonical", "([J[JI)V"⟩ : MethodName)) hown (mvT hZ (hw _ (List.mem_of_getElem? (i := 24) rfl))) (mvT hZ (hw _ (List.mem_of_getElem? (i := 25) rfl))) (mvT hZ (hw _ (List.mem_of_getElem? (i := 22) rfl))) (mvT hZ (hw _ (List.mem_of_getElem? (i := 26) rfl))) (by decide) (backOf (W := 0) (rm5 l Z a0 hw [] b1 r0 p1 k1 cl x0 x1 x2 x3 x4 x5 x6 h2 n0 Z0_v4 V1_v5 Aq1_v7 hin0 hin1 hin2 hin3 hin4 hin5 hin6 hat0 hat1 hat2 hat3 hat4 hat5 hat6 S0_v9 S1_v11 S2_v13 S3_v15 S4_v17 S5_v19 S6_v21 ne22 g_b1) hZ (hw _ (List.mem_of_getElem? (i := 26) rfl)) (hw _ (List.mem_of_getElem? (i := 22) rfl)) (by decide) (by decide)) (g := (mkF m 16 (LS_RIRIRR r0 p1 r0 p3 b1 b2) [(.int p1), (.ref r0), (.ref b1)])) rfl (by rw [hml]; rfl) (argsL := [(.ref b1), (.ref r0), (.int p1)]) (rest := []) (lenOf pd___J_JI_V rfl) rfl (by show 2 * 0 + _ ≤ _; exact Nat.le_of_eq rfl) (hb hby d4_16) (fun _ _ => ⟨rfl, e2, (by decide : 2 + 0 ≤ _), (by decide : 14 + 0 ≤ _)⟩)
  dsimp only [Pt.U, Pt.locs, Pt.cells, Pt.slots] at X23 l23 y23 z23 st23 hQ23
  subst l23 y23 z23
  obtain ⟨rfl, N23q, K23, V23r⟩ := hQ23
  have N23 := Fr.app N0 N23q
  refine own_go (B := T23.setTop (mkF m 19 (LS_RIRIRR r0 p1 r0 p3 b1 b2) [])) (fun t k => st23 _ k) ?_
  refine own_go (B := T23.setTop (mkF m 23 (LS_RIRIRR r0 p1 r0 p3 b1 b2) [(.int p3), (.ref r0), (.ref b2)])) (fun t k => ?_) ?_
  · show Steps p.tables e below (T23.setTop (mkF m 19 (LS_RIRIRR r0 p1 r0 p3 b1 b2) [])) _
    refine XS.aload X23.here hx rfl (hb hby d4_19) rfl rfl ?_
    show Steps p.tables e below (T23.setTop (mkF m 21 (LS_RIRIRR r0 p1 r0 p3 b1 b2) [(.ref b2)])) _
    refine XS.aloadN X23.here hx rfl (hb hby d4_21) rfl rfl ?_
    show Steps p.tables e below (T23.setTop (mkF m 22 (LS_RIRIRR r0 p1 r0 p3 b1 b2) [(.ref r0), (.ref b2)])) _
    refine XS.iloadN X23.here hx rfl (hb hby d4_22) rfl ?_
    exact k
  have Z0_v24 := Nat.le_trans Z0_v4 K23.1
  have ne26 : b1 ≠ b2 := Nat.ne_of_lt (Nat.lt_of_lt_of_le V1.lt (Nat.le_of_eq g2.symm))
  have V2_v25 := V2.keep K23 (ninS (Ne.symm ne26) nin0)
  have Aq1_v27 := own_arr_keep Aq1_v7 K23 (ninS ne22 nin0)
  have S0_v28 := own_sta_keep S0_v9 K23 (allS (own_plain_V V1_v5) all0)
  have S1_v29 := own_sta_keep S1_v11 K23 (allS (own_plain_V V1_v5) all0)
  have S2_v30 := own_sta_keep S2_v13 K23 (allS (own_plain_V V1_v5) all0)
  have S3_v31 := own_sta_keep S3_v15 K23 (allS (own_plain_V V1_v5) all0)
  have S4_v32 := own_sta_keep S4_v17 K23 (allS (own_plain_V V1_v5) all0)
  have S5_v33 := own_sta_keep S5_v19 K23 (allS (own_plain_V V1_v5) all0)
  have S6_v34 := own_sta_keep S6_v21 K23 (allS (own_plain_V V1_v5) all0)
  have ne35 : r0 ≠ b2 := Nat.ne_of_lt (Nat.lt_of_lt_of_le Aq1_v6.lt (Nat.le_of_eq g2.symm))
  obtain ⟨_, _, ⟨T36, L36, k36, n36⟩, -, X36, ⟨Lc36, hQ36, l36, y36, z36⟩, st36⟩ := Jvm.LawKit.callS X23 hx (y := (⟨"com/example/barred_rows/barredrows/crypto/Fp", "canonical", "([J[JI)V"⟩ : MethodName)) hown (mvT hZ (hw _ (List.mem_of_getElem? (i := 24) rfl))) (mvT hZ (hw _ (List.mem_of_getElem? (i := 25) rfl))) (mvT hZ (hw _ (List.mem_of_getElem? (i := 22) rfl))) (mvT hZ (hw _ (List.mem_of_getElem? (i := 26) rfl))) (by decide) (backOf (W := 0) (rm5 l Z a0 hw [] b2 r0 p3 k2 cl y0 y1 y2 y3 y4 y5 y6 T23.heap n0 Z0_v24 V2_v25 Aq1_v27 gin0 gin1 gin2 gin3 gin4 gin5 gin6 gat0 gat1 gat2 gat3 gat4 gat5 gat6 S0_v28 S1_v29 S2_v30 S3_v31 S4_v32 S5_v33 S6_v34 ne35 g_b2) hZ (hw _ (List.mem_of_getElem? (i := 26) rfl)) (hw _ (List.mem_of_getElem? (i := 22) rfl)) (by decide) (by decide)) (g := (mkF m 23 (LS_RIRIRR r0 p1 r0 p3 b1 b2) [(.int p3), (.ref r0), (.ref b2)])) rfl (by rw [hml]; rfl) (argsL := [(.ref b2), (.ref r0), (.int p3)]) (rest := []) (lenOf pd___J_JI_V rfl) rfl (by show 2 * 0 + _ ≤ _; exact Nat.le_of_eq rfl) (hb hby d4_23) (fun _ _ => ⟨rfl, rfl, (by decide : 2 + 0 ≤ _), (by decide : 14 + 0 ≤ _)⟩)
  dsimp only [Pt.U, Pt.locs, Pt.cells, Pt.slots] at X36 l36 y36 z36 st36 hQ36
  subst l36 y36 z36
  obtain ⟨rfl, N36q, K36, V36r⟩ := hQ36
  have N36 := Fr.app N23 N36q
  refine own_go (B := T36.setTop (mkF m 26 (LS_RIRIRR r0 p1 r0 p3 b1 b2) [])) (fun t k => st36 _ k) ?_
  have V23r_v38 := V23r.keep K36 (ninS ne26 nin0)
  obtain ⟨cl37, Ar37, qa37, Sa37, Na37, Ha37, Ga37⟩ := id V23r_v38
  have hin39 : ¬ ((0 : Int32) < 0 ∨ cl37.slots.size ≤ ((0 : Int32)).toNatClampNeg) := inb_of Sa37 ⟨by decide, by decide⟩
  have hat39 : cl37.slots[((0 : Int32)).toNatClampNeg]? = some (.long (own_c0 x0 x1 x2 x3 x4 x5 x6)) := Has.at Ha37 hin39 rfl
  obtain ⟨cl40, Ar40, qa40, Sa40, Na40, Ha40, Ga40⟩ := id V36r
  have hin41 : ¬ ((0 : Int32) < 0 ∨ cl40.slots.size ≤ ((0 : Int32)).toNatClampNeg) := inb_of Sa40 ⟨by decide, by decide⟩
  have hat41 : cl40.slots[((0 : Int32)).toNatClampNeg]? = some (.long (own_c0 y0 y1 y2 y3 y4 y5 y6)) := Has.at Ha40 hin41 rfl
  obtain ⟨cl42, Ar42, qa42, Sa42, Na42, Ha42, Ga42⟩ := id V23r_v38
  have hin43 : ¬ ((1 : Int32) < 0 ∨ cl42.slots.size ≤ ((1 : Int32)).toNatClampNeg) := inb_of Sa42 ⟨by decide, by decide⟩
  have hat43 : cl42.slots[((1 : Int32)).toNatClampNeg]? = some (.long (own_c1 x0 x1 x2 x3 x4 x5 x6)) := Has.at Ha42 hin43 rfl
  obtain ⟨cl44, Ar44, qa44, Sa44, Na44, Ha44, Ga44⟩ := id V36r
  have hin45 : ¬ ((1 : Int32) < 0 ∨ cl44.slots.size ≤ ((1 : Int32)).toNatClampNeg) := inb_of Sa44 ⟨by decide, by decide⟩
  have hat45 : cl44.slots[((1 : Int32)).toNatClampNeg]? = some (.long (own_c1 y0 y1 y2 y3 y4 y5 y6)) := Has.at Ha44 hin45 rfl
  obtain ⟨cl46, Ar46, qa46, Sa46, Na46, Ha46, Ga46⟩ := id V23r_v38
  have hin47 : ¬ ((2 : Int32) < 0 ∨ cl46.slots.size ≤ ((2 : Int32)).toNatClampNeg) := inb_of Sa46 ⟨by decide, by decide⟩
  have hat47 : cl46.slots[((2 : Int32)).toNatClampNeg]? = some (.long (own_c2 x0 x1 x2 x3 x4 x5 x6)) := Has.at Ha46 hin47 rfl
  obtain ⟨cl48, Ar48, qa48, Sa48, Na48, Ha48, Ga48⟩ := id V36r
  have hin49 : ¬ ((2 : Int32) < 0 ∨ cl48.slots.size ≤ ((2 : Int32)).toNatClampNeg) := inb_of Sa48 ⟨by decide, by decide⟩
  have hat49 : cl48.slots[((2 : Int32)).toNatClampNeg]? = some (.long (own_c2 y0 y1 y2 y3 y4 y5 y6)) := Has.at Ha48 hin49 rfl
  obtain ⟨cl50, Ar50, qa50, Sa50, Na50, Ha50, Ga50⟩ := id V23r_v38
  have hin51 : ¬ ((3 : Int32) < 0 ∨ cl50.slots.size ≤ ((3 : Int32)).toNatClampNeg) := inb_of Sa50 ⟨by decide, by decide⟩
  have hat51 : cl50.slots[((3 : Int32)).toNatClampNeg]? = some (.long (own_c3 x0 x1 x2 x3 x4 x5 x6)) := Has.at Ha50 hin51 rfl
  obtain ⟨cl52, Ar52, qa52, Sa52, Na52, Ha52, Ga52⟩ := id V36r
  have hin53 : ¬ ((3 : Int32) < 0 ∨ cl52.slots.size ≤ ((3 : Int32)).toNatClampNeg) := inb_of Sa52 ⟨by decide, by decide⟩
  have hat53 : cl52.slots[((3 : Int32)).toNatClampNeg]? = some (.long (own_c3 y0 y1 y2 y3 y4 y5 y6)) := Has.at Ha52 hin53 rfl
  obtain ⟨cl54, Ar54, qa54, Sa54, Na54, Ha54, Ga54⟩ := id V23r_v38
  have hin55 : ¬ ((4 : Int32) < 0 ∨ cl54.slots.size ≤ ((4 : Int32)).toNatClampNeg) := inb_of Sa54 ⟨by decide, by decide⟩
  have hat55 : cl54.slots[((4 : Int32)).toNatClampNeg]? = some (.long (own_c4 x0 x1 x2 x3 x4 x5 x6)) := Has.at Ha54 hin55 rfl
  obtain ⟨cl56, Ar56, qa56, Sa56, Na56, Ha56, Ga56⟩ := id V36r
  have hin57 : ¬ ((4 : Int32) < 0 ∨ cl56.slots.size ≤ ((4 : Int32)).toNatClampNeg) := inb_of Sa56 ⟨by decide, by decide⟩
  have hat57 : cl56.slots[((4 : Int32)).toNatClampNeg]? = some (.long (own_c4 y0 y1 y2 y3 y4 y5 y6)) := Has.at Ha56 hin57 rfl
  obtain ⟨cl58, Ar58, qa58, Sa58, Na58, Ha58, Ga58⟩ := id V23r_v38
  have hin59 : ¬ ((5 : Int32) < 0 ∨ cl58.slots.size ≤ ((5 : Int32)).toNatClampNeg) := inb_of Sa58 ⟨by decide, by decide⟩
  have hat59 : cl58.slots[((5 : Int32)).toNatClampNeg]? = some (.long (own_c5 x0 x1 x2 x3 x4 x5 x6)) := Has.at Ha58 hin59 rfl
  obtain ⟨cl60, Ar60, qa60, Sa60, Na60, Ha60, Ga60⟩ := id V36r
  have hin61 : ¬ ((5 : Int32) < 0 ∨ cl60.slots.size ≤ ((5 : Int32)).toNatClampNeg) := inb_of Sa60 ⟨by decide, by decide⟩
  have hat61 : cl60.slots[((5 : Int32)).toNatClampNeg]? = some (.long (own_c5 y0 y1 y2 y3 y4 y5 y6)) := Has.at Ha60 hin61 rfl
  obtain ⟨cl62, Ar62, qa62, Sa62, Na62, Ha62, Ga62⟩ := id V23r_v38
  have hin63 : ¬ ((6 : Int32) < 0 ∨ cl62.slots.size ≤ ((6 : Int32)).toNatClampNeg) := inb_of Sa62 ⟨by decide, by decide⟩
  have hat63 : cl62.slots[((6 : Int32)).toNatClampNeg]? = some (.long (own_c6 x0 x1 x2 x3 x4 x5 x6)) := Has.at Ha62 hin63 rfl
  obtain ⟨cl64, Ar64, qa64, Sa64, Na64, Ha64, Ga64⟩ := id V36r
  have hin65 : ¬ ((6 : Int32) < 0 ∨ cl64.slots.size ≤ ((6 : Int32)).toNatClampNeg) := inb_of Sa64 ⟨by decide, by decide⟩
  have hat65 : cl64.slots[((6 : Int32)).toNatClampNeg]? = some (.long (own_c6 y0 y1 y2 y3 y4 y5 y6)) := Has.at Ha64 hin65 rfl
  refine own_go (B := T36.setTop (mkF m 99 (LS_RIRIRR r0 p1 r0 p3 b1 b2) [(.int (lcmpW ((((((((own_c0 x0 x1 x2 x3 x4 x5 x6) ^^^ (own_c0 y0 y1 y2 y3 y4 y5 y6)) ||| ((own_c1 x0 x1 x2 x3 x4 x5 x6) ^^^ (own_c1 y0 y1 y2 y3 y4 y5 y6))) ||| ((own_c2 x0 x1 x2 x3 x4 x5 x6) ^^^ (own_c2 y0 y1 y2 y3 y4 y5 y6))) ||| ((own_c3 x0 x1 x2 x3 x4 x5 x6) ^^^ (own_c3 y0 y1 y2 y3 y4 y5 y6))) ||| ((own_c4 x0 x1 x2 x3 x4 x5 x6) ^^^ (own_c4 y0 y1 y2 y3 y4 y5 y6))) ||| ((own_c5 x0 x1 x2 x3 x4 x5 x6) ^^^ (own_c5 y0 y1 y2 y3 y4 y5 y6))) ||| ((own_c6 x0 x1 x2 x3 x4 x5 x6) ^^^ (own_c6 y0 y1 y2 y3 y4 y5 y6))) (0 : Int64)))])) (fun t k => ?_) ?_
  · show Steps p.tables e below (T36.setTop (mkF m 26 (LS_RIRIRR r0 p1 r0 p3 b1 b2) [])) _
    refine XS.aload X36.here hx rfl (hb hby d4_26) rfl rfl ?_
    show Steps p.tables e below (T36.setTop (mkF m 28 (LS_RIRIRR r0 p1 r0 p3 b1 b2) [(.ref b1)])) _
    refine XS.iconst X36.here hx rfl (hb hby d4_28) ?_
    show Steps p.tables e below (T36.setTop (mkF m 29 (LS_RIRIRR r0 p1 r0 p3 b1 b2) [(.int (0 : Int32)), (.ref b1)])) _
    refine X36.laload hx (j := (0 : Int32)) (v := (.long (own_c0 x0 x1 x2 x3 x4 x5 x6))) Ar37.1 (State.isArrayOf_alike hZ.alike Ar37.2.1) Ar37.2.2 hin39 hat39 (g := (mkF m 29 (LS_RIRIRR r0 p1 r0 p3 b1 b2) [(.int (0 : Int32)), (.ref b1)])) rfl rfl (hb hby d4_29) _ ?_
    show Steps p.tables e below (T36.setTop (mkF m 30 (LS_RIRIRR r0 p1 r0 p3 b1 b2) [(.long (own_c0 x0 x1 x2 x3 x4 x5 x6))])) _
    refine XS.aload X36.here hx rfl (hb hby d4_30) rfl rfl ?_
    show Steps p.tables e below (T36.setTop (mkF m 32 (LS_RIRIRR r0 p1 r0 p3 b1 b2) [(.ref b2), (.long (own_c0 x0 x1 x2 x3 x4 x5 x6))])) _
    refine XS.iconst X36.here hx rfl (hb hby d4_32) ?_
    show Steps p.tables e below (T36.setTop (mkF m 33 (LS_RIRIRR r0 p1 r0 p3 b1 b2) [(.int (0 : Int32)), (.ref b2), (.long (own_c0 x0 x1 x2 x3 x4 x5 x6))])) _
    refine X36.laload hx (j := (0 : Int32)) (v := (.long (own_c0 y0 y1 y2 y3 y4 y5 y6))) Ar40.1 (State.isArrayOf_alike hZ.alike Ar40.2.1) Ar40.2.2 hin41 hat41 (g := (mkF m 33 (LS_RIRIRR r0 p1 r0 p3 b1 b2) [(.int (0 : Int32)), (.ref b2), (.long (own_c0 x0 x1 x2 x3 x4 x5 x6))])) rfl rfl (hb hby d4_33) _ ?_
    show Steps p.tables e below (T36.setTop (mkF m 34 (LS_RIRIRR r0 p1 r0 p3 b1 b2) [(.long (own_c0 y0 y1 y2 y3 y4 y5 y6)), (.long (own_c0 x0 x1 x2 x3 x4 x5 x6))])) _
    refine XS.lxor X36.here hx rfl (hb hby d4_34) rfl ?_
    show Steps p.tables e below (T36.setTop (mkF m 35 (LS_RIRIRR r0 p1 r0 p3 b1 b2) [(.long ((own_c0 x0 x1 x2 x3 x4 x5 x6) ^^^ (own_c0 y0 y1 y2 y3 y4 y5 y6)))])) _
    refine XS.aload X36.here hx rfl (hb hby d4_35) rfl rfl ?_
    show Steps p.tables e below (T36.setTop (mkF m 37 (LS_RIRIRR r0 p1 r0 p3 b1 b2) [(.ref b1), (.long ((own_c0 x0 x1 x2 x3 x4 x5 x6) ^^^ (own_c0 y0 y1 y2 y3 y4 y5 y6)))])) _
    refine XS.iconst X36.here hx rfl (hb hby d4_37) ?_
    show Steps p.tables e below (T36.setTop (mkF m 38 (LS_RIRIRR r0 p1 r0 p3 b1 b2) [(.int (1 : Int32)), (.ref b1), (.long ((own_c0 x0 x1 x2 x3 x4 x5 x6) ^^^ (own_c0 y0 y1 y2 y3 y4 y5 y6)))])) _
    refine X36.laload hx (j := (1 : Int32)) (v := (.long (own_c1 x0 x1 x2 x3 x4 x5 x6))) Ar42.1 (State.isArrayOf_alike hZ.alike Ar42.2.1) Ar42.2.2 hin43 hat43 (g := (mkF m 38 (LS_RIRIRR r0 p1 r0 p3 b1 b2) [(.int (1 : Int32)), (.ref b1), (.long ((own_c0 x0 x1 x2 x3 x4 x5 x6) ^^^ (own_c0 y0 y1 y2 y3 y4 y5 y6)))])) rfl rfl (hb hby d4_38) _ ?_
    show Steps p.tables e below (T36.setTop (mkF m 39 (LS_RIRIRR r0 p1 r0 p3 b1 b2) [(.long (own_c1 x0 x1 x2 x3 x4 x5 x6)), (.long ((own_c0 x0 x1 x2 x3 x4 x5 x6) ^^^ (own_c0 y0 y1 y2 y3 y4 y5 y6)))])) _
    refine XS.aload X36.here hx rfl (hb hby d4_39) rfl rfl ?_
    show Steps p.tables e below (T36.setTop (mkF m 41 (LS_RIRIRR r0 p1 r0 p3 b1 b2) [(.ref b2), (.long (own_c1 x0 x1 x2 x3 x4 x5 x6)), (.long ((own_c0 x0 x1 x2 x3 x4 x5 x6) ^^^ (own_c0 y0 y1 y2 y3 y4 y5 y6)))])) _
    refine XS.iconst X36.here hx rfl (hb hby d4_41) ?_
    show Steps p.tables e below (T36.setTop (mkF m 42 (LS_RIRIRR r0 p1 r0 p3 b1 b2) [(.int (1 : Int32)), (.ref b2), (.long (own_c1 x0 x1 x2 x3 x4 x5 x6)), (.long ((own_c0 x0 x1 x2 x3 x4 x5 x6) ^^^ (own_c0 y0 y1 y2 y3 y4 y5 y6)))])) _
    refine X36.laload hx (j := (1 : Int32)) (v := (.long (own_c1 y0 y1 y2 y3 y4 y5 y6))) Ar44.1 (State.isArrayOf_alike hZ.alike Ar44.2.1) Ar44.2.2 hin45 hat45 (g := (mkF m 42 (LS_RIRIRR r0 p1 r0 p3 b1 b2) [(.int (1 : Int32)), (.ref b2), (.long (own_c1 x0 x1 x2 x3 x4 x5 x6)), (.long ((own_c0 x0 x1 x2 x3 x4 x5 x6) ^^^ (own_c0 y0 y1 y2 y3 y4 y5 y6)))])) rfl rfl (hb hby d4_42) _ ?_
    show Steps p.tables e below (T36.setTop (mkF m 43 (LS_RIRIRR r0 p1 r0 p3 b1 b2) [(.long (own_c1 y0 y1 y2 y3 y4 y5 y6)), (.long (own_c1 x0 x1 x2 x3 x4 x5 x6)), (.long ((own_c0 x0 x1 x2 x3 x4 x5 x6) ^^^ (own_c0 y0 y1 y2 y3 y4 y5 y6)))])) _
    refine XS.lxor X36.here hx rfl (hb hby d4_43) rfl ?_
    show Steps p.tables e below (T36.setTop (mkF m 44 (LS_RIRIRR r0 p1 r0 p3 b1 b2) [(.long ((own_c1 x0 x1 x2 x3 x4 x5 x6) ^^^ (own_c1 y0 y1 y2 y3 y4 y5 y6))), (.long ((own_c0 x0 x1 x2 x3 x4 x5 x6) ^^^ (own_c0 y0 y1 y2 y3 y4 y5 y6)))])) _
    refine XS.lor X36.here hx rfl (hb hby d4_44) rfl ?_
    show Steps p.tables e below (T36.setTop (mkF m 45 (LS_RIRIRR r0 p1 r0 p3 b1 b2) [(.long (((own_c0 x0 x1 x2 x3 x4 x5 x6) ^^^ (own_c0 y0 y1 y2 y3 y4 y5 y6)) ||| ((own_c1 x0 x1 x2 x3 x4 x5 x6) ^^^ (own_c1 y0 y1 y2 y3 y4 y5 y6))))])) _
    refine XS.aload X36.here hx rfl (hb hby d4_45) rfl rfl ?_
    show Steps p.tables e below (T36.setTop (mkF m 47 (LS_RIRIRR r0 p1 r0 p3 b1 b2) [(.ref b1), (.long (((own_c0 x0 x1 x2 x3 x4 x5 x6) ^^^ (own_c0 y0 y1 y2 y3 y4 y5 y6)) ||| ((own_c1 x0 x1 x2 x3 x4 x5 x6) ^^^ (own_c1 y0 y1 y2 y3 y4 y5 y6))))])) _
    refine XS.iconst X36.here hx rfl (hb hby d4_47) ?_
    show Steps p.tables e below (T36.setTop (mkF m 48 (LS_RIRIRR r0 p1 r0 p3 b1 b2) [(.int (2 : Int32)), (.ref b1), (.long (((own_c0 x0 x1 x2 x3 x4 x5 x6) ^^^ (own_c0 y0 y1 y2 y3 y4 y5 y6)) ||| ((own_c1 x0 x1 x2 x3 x4 x5 x6) ^^^ (own_c1 y0 y1 y2 y3 y4 y5 y6))))])) _
    refine X36.laload hx (j := (2 : Int32)) (v := (.long (own_c2 x0 x1 x2 x3 x4 x5 x6))) Ar46.1 (State.isArrayOf_alike hZ.alike Ar46.2.1) Ar46.2.2 hin47 hat47 (g := (mkF m 48 (LS_RIRIRR r0 p1 r0 p3 b1 b2) [(.int (2 : Int32)), (.ref b1), (.long (((own_c0 x0 x1 x2 x3 x4 x5 x6) ^^^ (own_c0 y0 y1 y2 y3 y4 y5 y6)) ||| ((own_c1 x0 x1 x2 x3 x4 x5 x6) ^^^ (own_c1 y0 y1 y2 y3 y4 y5 y6))))])) rfl rfl (hb hby d4_48) _ ?_
    show Steps p.tables e below (T36.setTop (mkF m 49 (LS_RIRIRR r0 p1 r0 p3 b1 b2) [(.long (own_c2 x0 x1 x2 x3 x4 x5 x6)), (.long (((own_c0 x0 x1 x2 x3 x4 x5 x6) ^^^ (own_c0 y0 y1 y2 y3 y4 y5 y6)) ||| ((own_c1 x0 x1 x2 x3 x4 x5 x6) ^^^ (own_c1 y0 y1 y2 y3 y4 y5 y6))))])) _
    refine XS.aload X36.here hx rfl (hb hby d4_49) rfl rfl ?_
    show Steps p.tables e below (T36.setTop (mkF m 51 (LS_RIRIRR r0 p1 r0 p3 b1 b2) [(.ref b2), (.long (own_c2 x0 x1 x2 x3 x4 x5 x6)), (.long (((own_c0 x0 x1 x2 x3 x4 x5 x6) ^^^ (own_c0 y0 y1 y2 y3 y4 y5 y6)) ||| ((own_c1 x0 x1 x2 x3 x4 x5 x6) ^^^ (own_c1 y0 y1 y2 y3 y4 y5 y6))))])) _
    refine XS.iconst X36.here hx rfl (hb hby d4_51) ?_
    show Steps p.tables e below (T36.setTop (mkF m 52 (LS_RIRIRR r0 p1 r0 p3 b1 b2) [(.int (2 : Int32)), (.ref b2), (.long (own_c2 x0 x1 x2 x3 x4 x5 x6)), (.long (((own_c0 x0 x1 x2 x3 x4 x5 x6) ^^^ (own_c0 y0 y1 y2 y3 y4 y5 y6)) ||| ((own_c1 x0 x1 x2 x3 x4 x5 x6) ^^^ (own_c1 y0 y1 y2 y3 y4 y5 y6))))])) _
    refine X36.laload hx (j := (2 : Int32)) (v := (.long (own_c2 y0 y1 y2 y3 y4 y5 y6))) Ar48.1 (State.isArrayOf_alike hZ.alike Ar48.2.1) Ar48.2.2 hin49 hat49 (g := (mkF m 52 (LS_RIRIRR r0 p1 r0 p3 b1 b2) [(.int (2 : Int32)), (.ref b2), (.long (own_c2 x0 x1 x2 x3 x4 x5 x6)), (.long (((own_c0 x0 x1 x2 x3 x4 x5 x6) ^^^ (own_c0 y0 y1 y2 y3 y4 y5 y6)) ||| ((own_c1 x0 x1 x2 x3 x4 x5 x6) ^^^ (own_c1 y0 y1 y2 y3 y4 y5 y6))))])) rfl rfl (hb hby d4_52) _ ?_
    show Steps p.tables e below (T36.setTop (mkF m 53 (LS_RIRIRR r0 p1 r0 p3 b1 b2) [(.long (own_c2 y0 y1 y2 y3 y4 y5 y6)), (.long (own_c2 x0 x1 x2 x3 x4 x5 x6)), (.long (((own_c0 x0 x1 x2 x3 x4 x5 x6) ^^^ (own_c0 y0 y1 y2 y3 y4 y5 y6)) ||| ((own_c1 x0 x1 x2 x3 x4 x5 x6) ^^^ (own_c1 y0 y1 y2 y3 y4 y5 y6))))])) _
    refine XS.lxor X36.here hx rfl (hb hby d4_53) rfl ?_
    show Steps p.tables e below (T36.setTop (mkF m 54 (LS_RIRIRR r0 p1 r0 p3 b1 b2) [(.long ((own_c2 x0 x1 x2 x3 x4 x5 x6) ^^^ (own_c2 y0 y1 y2 y3 y4 y5 y6))), (.long (((own_c0 x0 x1 x2 x3 x4 x5 x6) ^^^ (own_c0 y0 y1 y2 y3 y4 y5 y6)) ||| ((own_c1 x0 x1 x2 x3 x4 x5 x6) ^^^ (own_c1 y0 y1 y2 y3 y4 y5 y6))))])) _
    refine XS.lor X36.here hx rfl (hb hby d4_54) rfl ?_
    show Steps p.tables e below (T36.setTop (mkF m 55 (LS_RIRIRR r0 p1 r0 p3 b1 b2) [(.long ((((own_c0 x0 x1 x2 x3 x4 x5 x6) ^^^ (own_c0 y0 y1 y2 y3 y4 y5 y6)) ||| ((own_c1 x0 x1 x2 x3 x4 x5 x6) ^^^ (own_c1 y0 y1 y2 y3 y4 y5 y6))) ||| ((own_c2 x0 x1 x2 x3 x4 x5 x6) ^^^ (own_c2 y0 y1 y2 y3 y4 y5 y6))))])) _
    refine XS.aload X36.here hx rfl (hb hby d4_55) rfl rfl ?_
    show Steps p.tables e below (T36.setTop (mkF m 57 (LS_RIRIRR r0 p1 r0 p3 b1 b2) [(.ref b1), (.long ((((own_c0 x0 x1 x2 x3 x4 x5 x6) ^^^ (own_c0 y0 y1 y2 y3 y4 y5 y6)) ||| ((own_c1 x0 x1 x2 x3 x4 x5 x6) ^^^ (own_c1 y0 y1 y2 y3 y4 y5 y6))) ||| ((own_c2 x0 x1 x2 x3 x4 x5 x6) ^^^ (own_c2 y0 y1 y2 y3 y4 y5 y6))))])) _
    refine XS.iconst X36.here hx rfl (hb hby d4_57) ?_
    show Steps p.tables e below (T36.setTop (mkF m 58 (LS_RIRIRR r0 p1 r0 p3 b1 b2) [(.int (3 : Int32)), (.ref b1), (.long ((((own_c0 x0 x1 x2 x3 x4 x5 x6) ^^^ (own_c0 y0 y1 y2 y3 y4 y5 y6)) ||| ((own_c1 x0 x1 x2 x3 x4 x5 x6) ^^^ (own_c1 y0 y1 y2 y3 y4 y5 y6))) ||| ((own_c2 x0 x1 x2 x3 x4 x5 x6) ^^^ (own_c2 y0 y1 y2 y3 y4 y5 y6))))])) _
    refine X36.laload hx (j := (3 : Int32)) (v := (.long (own_c3 x0 x1 x2 x3 x4 x5 x6))) Ar50.1 (State.isArrayOf_alike hZ.alike Ar50.2.1) Ar50.2.2 hin51 hat51 (g := (mkF m 58 (LS_RIRIRR r0 p1 r0 p3 b1 b2) [(.int (3 : Int32)), (.ref b1), (.long ((((own_c0 x0 x1 x2 x3 x4 x5 x6) ^^^ (own_c0 y0 y1 y2 y3 y4 y5 y6)) ||| ((own_c1 x0 x1 x2 x3 x4 x5 x6) ^^^ (own_c1 y0 y1 y2 y3 y4 y5 y6))) ||| ((own_c2 x0 x1 x2 x3 x4 x5 x6) ^^^ (own_c2 y0 y1 y2 y3 y4 y5 y6))))])) rfl rfl (hb hby d4_58) _ ?_
    show Steps p.tables e below (T36.setTop (mkF m 59 (LS_RIRIRR r0 p1 r0 p3 b1 b2) [(.long (own_c3 x0 x1 x2 x3 x4 x5 x6)), (.long ((((own_c0 x0 x1 x2 x3 x4 x5 x6) ^^^ (own_c0 y0 y1 y2 y3 y4 y5 y6)) ||| ((own_c1 x0 x1 x2 x3 x4 x5 x6) ^^^ (own_c1 y0 y1 y2 y3 y4 y5 y6))) ||| ((own_c2 x0 x1 x2 x3 x4 x5 x6) ^^^ (own_c2 y0 y1 y2 y3 y4 y5 y6))))])) _
    refine XS.aload X36.here hx rfl (hb hby d4_59) rfl rfl ?_
    show Steps p.tables e below (T36.setTop (mkF m 61 (LS_RIRIRR r0 p1 r0 p3 b1 b2) [(.ref b2), (.long (own_c3 x0 x1 x2 x3 x4 x5 x6)), (.long ((((own_c0 x0 x1 x2 x3 x4 x5 x6) ^^^ (own_c0 y0 y1 y2 y3 y4 y5 y6)) ||| ((own_c1 x0 x1 x2 x3 x4 x5 x6) ^^^ (own_c1 y0 y1 y2 y3 y4 y5 y6))) ||| ((own_c2 x0 x1 x2 x3 x4 x5 x6) ^^^ (own_c2 y0 y1 y2 y3 y4 y5 y6))))])) _
    refine XS.iconst X36.here hx rfl (hb hby d4_61) ?_
    show Steps p.tables e below (T36.setTop (mkF m 62 (LS_RIRIRR r0 p1 r0 p3 b1 b2) [(.int (3 : Int32)), (.ref b2), (.long (own_c3 x0 x1 x2 x3 x4 x5 x6)), (.long ((((own_c0 x0 x1 x2 x3 x4 x5 x6) ^^^ (own_c0 y0 y1 y2 y3 y4 y5 y6)) ||| ((own_c1 x0 x1 x2 x3 x4 x5 x6) ^^^ (own_c1 y0 y1 y2 y3 y4 y5 y6))) ||| ((own_c2 x0 x1 x2 x3 x4 x5 x6) ^^^ (own_c2 y0 y1 y2 y3 y4 y5 y6))))])) _
    refine X36.laload hx (j := (3 : Int32)) (v := (.long (own_c3 y0 y1 y2 y3 y4 y5 y6))) Ar52.1 (State.isArrayOf_alike hZ.alike Ar52.2.1) Ar52.2.2 hin53 hat53 (g := (mkF m 62 (LS_RIRIRR r0 p1 r0 p3 b1 b2) [(.int (3 : Int32)), (.ref b2), (.long (own_c3 x0 x1 x2 x3 x4 x5 x6)), (.long ((((own_c0 x0 x1 x2 x3 x4 x5 x6) ^^^ (own_c0 y0 y1 y2 y3 y4 y5 y6)) ||| ((own_c1 x0 x1 x2 x3 x4 x5 x6) ^^^ (own_c1 y0 y1 y2 y3 y4 y5 y6))) ||| ((own_c2 x0 x1 x2 x3 x4 x5 x6) ^^^ (own_c2 y0 y1 y2 y3 y4 y5 y6))))])) rfl rfl (hb hby d4_62) _ ?_
    show Steps p.tables e below (T36.setTop (mkF m 63 (LS_RIRIRR r0 p1 r0 p3 b1 b2) [(.long (own_c3 y0 y1 y2 y3 y4 y5 y6)), (.long (own_c3 x0 x1 x2 x3 x4 x5 x6)), (.long ((((own_c0 x0 x1 x2 x3 x4 x5 x6) ^^^ (own_c0 y0 y1 y2 y3 y4 y5 y6)) ||| ((own_c1 x0 x1 x2 x3 x4 x5 x6) ^^^ (own_c1 y0 y1 y2 y3 y4 y5 y6))) ||| ((own_c2 x0 x1 x2 x3 x4 x5 x6) ^^^ (own_c2 y0 y1 y2 y3 y4 y5 y6))))])) _
    refine XS.lxor X36.here hx rfl (hb hby d4_63) rfl ?_
    show Steps p.tables e below (T36.setTop (mkF m 64 (LS_RIRIRR r0 p1 r0 p3 b1 b2) [(.long ((own_c3 x0 x1 x2 x3 x4 x5 x6) ^^^ (own_c3 y0 y1 y2 y3 y4 y5 y6))), (.long ((((own_c0 x0 x1 x2 x3 x4 x5 x6) ^^^ (own_c0 y0 y1 y2 y3 y4 y5 y6)) ||| ((own_c1 x0 x1 x2 x3 x4 x5 x6) ^^^ (own_c1 y0 y1 y2 y3 y4 y5 y6))) ||| ((own_c2 x0 x1 x2 x3 x4 x5 x6) ^^^ (own_c2 y0 y1 y2 y3 y4 y5 y6))))])) _
    refine XS.lor X36.here hx rfl (hb hby d4_64) rfl ?_
    show Steps p.tables e below (T36.setTop (mkF m 65 (LS_RIRIRR r0 p1 r0 p3 b1 b2) [(.long (((((own_c0 x0 x1 x2 x3 x4 x5 x6) ^^^ (own_c0 y0 y1 y2 y3 y4 y5 y6)) ||| ((own_c1 x0 x1 x2 x3 x4 x5 x6) ^^^ (own_c1 y0 y1 y2 y3 y4 y5 y6))) ||| ((own_c2 x0 x1 x2 x3 x4 x5 x6) ^^^ (own_c2 y0 y1 y2 y3 y4 y5 y6))) ||| ((own_c3 x0 x1 x2 x3 x4 x5 x6) ^^^ (own_c3 y0 y1 y2 y3 y4 y5 y6))))])) _
    refine XS.aload X36.here hx rfl (hb hby d4_65) rfl rfl ?_
    show Steps p.tables e below (T36.setTop (mkF m 67 (LS_RIRIRR r0 p1 r0 p3 b1 b2) [(.ref b1), (.long (((((own_c0 x0 x1 x2 x3 x4 x5 x6) ^^^ (own_c0 y0 y1 y2 y3 y4 y5 y6)) ||| ((own_c1 x0 x1 x2 x3 x4 x5 x6) ^^^ (own_c1 y0 y1 y2 y3 y4 y5 y6))) ||| ((own_c2 x0 x1 x2 x3 x4 x5 x6) ^^^ (own_c2 y0 y1 y2 y3 y4 y5 y6))) ||| ((own_c3 x0 x1 x2 x3 x4 x5 x6) ^^^ (own_c3 y0 y1 y2 y3 y4 y5 y6))))])) _
    refine XS.iconst X36.here hx rfl (hb hby d4_67) ?_
    show Steps p.tables e below (T36.setTop (mkF m 68 (LS_RIRIRR r0 p1 r0 p3 b1 b2) [(.int (4 : Int32)), (.ref b1), (.long (((((own_c0 x0 x1 x2 x3 x4 x5 x6) ^^^ (own_c0 y0 y1 y2 y3 y4 y5 y6)) ||| ((own_c1 x0 x1 x2 x3 x4 x5 x6) ^^^ (own_c1 y0 y1 y2 y3 y4 y5 y6))) ||| ((own_c2 x0 x1 x2 x3 x4 x5 x6) ^^^ (own_c2 y0 y1 y2 y3 y4 y5 y6))) ||| ((own_c3 x0 x1 x2 x3 x4 x5 x6) ^^^ (own_c3 y0 y1 y2 y3 y4 y5 y6))))])) _
    refine X36.laload hx (j := (4 : Int32)) (v := (.long (own_c4 x0 x1 x2 x3 x4 x5 x6))) Ar54.1 (State.isArrayOf_alike hZ.alike Ar54.2.1) Ar54.2.2 hin55 hat55 (g := (mkF m 68 (LS_RIRIRR r0 p1 r0 p3 b1 b2) [(.int (4 : Int32)), (.ref b1), (.long (((((own_c0 x0 x1 x2 x3 x4 x5 x6) ^^^ (own_c0 y0 y1 y2 y3 y4 y5 y6)) ||| ((own_c1 x0 x1 x2 x3 x4 x5 x6) ^^^ (own_c1 y0 y1 y2 y3 y4 y5 y6))) ||| ((own_c2 x0 x1 x2 x3 x4 x5 x6) ^^^ (own_c2 y0 y1 y2 y3 y4 y5 y6))) ||| ((own_c3 x0 x1 x2 x3 x4 x5 x6) ^^^ (own_c3 y0 y1 y2 y3 y4 y5 y6))))])) rfl rfl (hb hby d4_68) _ ?_
    show Steps p.tables e below (T36.setTop (mkF m 69 (LS_RIRIRR r0 p1 r0 p3 b1 b2) [(.long (own_c4 x0 x1 x2 x3 x4 x5 x6)), (.long (((((own_c0 x0 x1 x2 x3 x4 x5 x6) ^^^ (own_c0 y0 y1 y2 y3 y4 y5 y6)) ||| ((own_c1 x0 x1 x2 x3 x4 x5 x6) ^^^ (own_c1 y0 y1 y2 y3 y4 y5 y6))) ||| ((own_c2 x0 x1 x2 x3 x4 x5 x6) ^^^ (own_c2 y0 y1 y2 y3 y4 y5 y6))) ||| ((own_c3 x0 x1 x2 x3 x4 x5 x6) ^^^ (own_c3 y0 y1 y2 y3 y4 y5 y6))))])) _
    refine XS.aload X36.here hx rfl (hb hby d4_69) rfl rfl ?_
    show Steps p.tables e below (T36.setTop (mkF m 71 (LS_RIRIRR r0 p1 r0 p3 b1 b2) [(.ref b2), (.long (own_c4 x0 x1 x2 x3 x4 x5 x6)), (.long (((((own_c0 x0 x1 x2 x3 x4 x5 x6) ^^^ (own_c0 y0 y1 y2 y3 y4 y5 y6)) ||| ((own_c1 x0 x1 x2 x3 x4 x5 x6) ^^^ (own_c1 y0 y1 y2 y3 y4 y5 y6))) ||| ((own_c2 x0 x1 x2 x3 x4 x5 x6) ^^^ (own_c2 y0 y1 y2 y3 y4 y5 y6))) ||| ((own_c3 x0 x1 x2 x3 x4 x5 x6) ^^^ (own_c3 y0 y1 y2 y3 y4 y5 y6))))])) _
    refine XS.iconst X36.here hx rfl (hb hby d4_71) ?_
    show Steps p.tables e below (T36.setTop (mkF m 72 (LS_RIRIRR r0 p1 r0 p3 b1 b2) [(.int (4 : Int32)), (.ref b2), (.long (own_c4 x0 x1 x2 x3 x4 x5 x6)), (.long (((((own_c0 x0 x1 x2 x3 x4 x5 x6) ^^^ (own_c0 y0 y1 y2 y3 y4 y5 y6)) ||| ((own_c1 x0 x1 x2 x3 x4 x5 x6) ^^^ (own_c1 y0 y1 y2 y3 y4 y5 y6))) ||| ((own_c2 x0 x1 x2 x3 x4 x5 x6) ^^^ (own_c2 y0 y1 y2 y3 y4 y5 y6))) ||| ((own_c3 x0 x1 x2 x3 x4 x5 x6) ^^^ (own_c3 y0 y1 y2 y3 y4 y5 y6))))])) _
    refine X36.laload hx (j := (4 : Int32)) (v := (.long (own_c4 y0 y1 y2 y3 y4 y5 y6))) Ar56.1 (State.isArrayOf_alike hZ.alike Ar56.2.1) Ar56.2.2 hin57 hat57 (g := (mkF m 72 (LS_RIRIRR r0 p1 r0 p3 b1 b2) [(.int (4 : Int32)), (.ref b2), (.long (own_c4 x0 x1 x2 x3 x4 x5 x6)), (.long (((((own_c0 x0 x1 x2 x3 x4 x5 x6) ^^^ (own_c0 y0 y1 y2 y3 y4 y5 y6)) ||| ((own_c1 x0 x1 x2 x3 x4 x5 x6) ^^^ (own_c1 y0 y1 y2 y3 y4 y5 y6))) ||| ((own_c2 x0 x1 x2 x3 x4 x5 x6) ^^^ (own_c2 y0 y1 y2 y3 y4 y5 y6))) ||| ((own_c3 x0 x1 x2 x3 x4 x5 x6) ^^^ (own_c3 y0 y1 y2 y3 y4 y5 y6))))])) rfl rfl (hb hby d4_72) _ ?_
    show Steps p.tables e below (T36.setTop (mkF m 73 (LS_RIRIRR r0 p1 r0 p3 b1 b2) [(.long (own_c4 y0 y1 y2 y3 y4 y5 y6)), (.long (own_c4 x0 x1 x2 x3 x4 x5 x6)), (.long (((((own_c0 x0 x1 x2 x3 x4 x5 x6) ^^^ (own_c0 y0 y1 y2 y3 y4 y5 y6)) ||| ((own_c1 x0 x1 x2 x3 x4 x5 x6) ^^^ (own_c1 y0 y1 y2 y3 y4 y5 y6))) ||| ((own_c2 x0 x1 x2 x3 x4 x5 x6) ^^^ (own_c2 y0 y1 y2 y3 y4 y5 y6))) ||| ((own_c3 x0 x1 x2 x3 x4 x5 x6) ^^^ (own_c3 y0 y1 y2 y3 y4 y5 y6))))])) _
    refine XS.lxor X36.here hx rfl (hb hby d4_73) rfl ?_
    show Steps p.tables e below (T36.setTop (mkF m 74 (LS_RIRIRR r0 p1 r0 p3 b1 b2) [(.long ((own_c4 x0 x1 x2 x3 x4 x5 x6) ^^^ (own_c4 y0 y1 y2 y3 y4 y5 y6))), (.long (((((own_c0 x0 x1 x2 x3 x4 x5 x6) ^^^ (own_c0 y0 y1 y2 y3 y4 y5 y6)) ||| ((own_c1 x0 x1 x2 x3 x4 x5 x6) ^^^ (own_c1 y0 y1 y2 y3 y4 y5 y6))) ||| ((own_c2 x0 x1 x2 x3 x4 x5 x6) ^^^ (own_c2 y0 y1 y2 y3 y4 y5 y6))) ||| ((own_c3 x0 x1 x2 x3 x4 x5 x6) ^^^ (own_c3 y0 y1 y2 y3 y4 y5 y6))))])) _
    refine XS.lor X36.here hx rfl (hb hby d4_74) rfl ?_
    show Steps p.tables e below (T36.setTop (mkF m 75 (LS_RIRIRR r0 p1 r0 p3 b1 b2) [(.long ((((((own_c0 x0 x1 x2 x3 x4 x5 x6) ^^^ (own_c0 y0 y1 y2 y3 y4 y5 y6)) ||| ((own_c1 x0 x1 x2 x3 x4 x5 x6) ^^^ (own_c1 y0 y1 y2 y3 y4 y5 y6))) ||| ((own_c2 x0 x1 x2 x3 x4 x5 x6) ^^^ (own_c2 y0 y1 y2 y3 y4 y5 y6))) ||| ((own_c3 x0 x1 x2 x3 x4 x5 x6) ^^^ (own_c3 y0 y1 y2 y3 y4 y5 y6))) ||| ((own_c4 x0 x1 x2 x3 x4 x5 x6) ^^^ (own_c4 y0 y1 y2 y3 y4 y5 y6))))])) _
    refine XS.aload X36.here hx rfl (hb hby d4_75) rfl rfl ?_
    show Steps p.tables e below (T36.setTop (mkF m 77 (LS_RIRIRR r0 p1 r0 p3 b1 b2) [(.ref b1), (.long ((((((own_c0 x0 x1 x2 x3 x4 x5 x6) ^^^ (own_c0 y0 y1 y2 y3 y4 y5 y6)) ||| ((own_c1 x0 x1 x2 x3 x4 x5 x6) ^^^ (own_c1 y0 y1 y2 y3 y4 y5 y6))) ||| ((own_c2 x0 x1 x2 x3 x4 x5 x6) ^^^ (own_c2 y0 y1 y2 y3 y4 y5 y6))) ||| ((own_c3 x0 x1 x2 x3 x4 x5 x6) ^^^ (own_c3 y0 y1 y2 y3 y4 y5 y6))) ||| ((own_c4 x0 x1 x2 x3 x4 x5 x6) ^^^ (own_c4 y0 y1 y2 y3 y4 y5 y6))))])) _
    refine XS.iconst X36.here hx rfl (hb hby d4_77) ?_
    show Steps p.tables e below (T36.setTop (mkF m 78 (LS_RIRIRR r0 p1 r0 p3 b1 b2) [(.int (5 : Int32)), (.ref b1), (.long ((((((own_c0 x0 x1 x2 x3 x4 x5 x6) ^^^ (own_c0 y0 y1 y2 y3 y4 y5 y6)) ||| ((own_c1 x0 x1 x2 x3 x4 x5 x6) ^^^ (own_c1 y0 y1 y2 y3 y4 y5 y6))) ||| ((own_c2 x0 x1 x2 x3 x4 x5 x6) ^^^ (own_c2 y0 y1 y2 y3 y4 y5 y6))) ||| ((own_c3 x0 x1 x2 x3 x4 x5 x6) ^^^ (own_c3 y0 y1 y2 y3 y4 y5 y6))) ||| ((own_c4 x0 x1 x2 x3 x4 x5 x6) ^^^ (own_c4 y0 y1 y2 y3 y4 y5 y6))))])) _
    refine X36.laload hx (j := (5 : Int32)) (v := (.long (own_c5 x0 x1 x2 x3 x4 x5 x6))) Ar58.1 (State.isArrayOf_alike hZ.alike Ar58.2.1) Ar58.2.2 hin59 hat59 (g := (mkF m 78 (LS_RIRIRR r0 p1 r0 p3 b1 b2) [(.int (5 : Int32)), (.ref b1), (.long ((((((own_c0 x0 x1 x2 x3 x4 x5 x6) ^^^ (own_c0 y0 y1 y2 y3 y4 y5 y6)) ||| ((own_c1 x0 x1 x2 x3 x4 x5 x6) ^^^ (own_c1 y0 y1 y2 y3 y4 y5 y6))) ||| ((own_c2 x0 x1 x2 x3 x4 x5 x6) ^^^ (own_c2 y0 y1 y2 y3 y4 y5 y6))) ||| ((own_c3 x0 x1 x2 x3 x4 x5 x6) ^^^ (own_c3 y0 y1 y2 y3 y4 y5 y6))) ||| ((own_c4 x0 x1 x2 x3 x4 x5 x6) ^^^ (own_c4 y0 y1 y2 y3 y4 y5 y6))))])) rfl rfl (hb hby d4_78) _ ?_
    show Steps p.tables e below (T36.setTop (mkF m 79 (LS_RIRIRR r0 p1 r0 p3 b1 b2) [(.long (own_c5 x0 x1 x2 x3 x4 x5 x6)), (.long ((((((own_c0 x0 x1 x2 x3 x4 x5 x6) ^^^ (own_c0 y0 y1 y2 y3 y4 y5 y6)) ||| ((own_c1 x0 x1 x2 x3 x4 x5 x6) ^^^ (own_c1 y0 y1 y2 y3 y4 y5 y6))) ||| ((own_c2 x0 x1 x2 x3 x4 x5 x6) ^^^ (own_c2 y0 y1 y2 y3 y4 y5 y6))) ||| ((own_c3 x0 x1 x2 x3 x4 x5 x6) ^^^ (own_c3 y0 y1 y2 y3 y4 y5 y6))) ||| ((own_c4 x0 x1 x2 x3 x4 x5 x6) ^^^ (own_c4 y0 y1 y2 y3 y4 y5 y6))))])) _
    refine XS.aload X36.here hx rfl (hb hby d4_79) rfl rfl ?_
    show Steps p.tables e below (T36.setTop (mkF m 81 (LS_RIRIRR r0 p1 r0 p3 b1 b2) [(.ref b2), (.long (own_c5 x0 x1 x2 x3 x4 x5 x6)), (.long ((((((own_c0 x0 x1 x2 x3 x4 x5 x6) ^^^ (own_c0 y0 y1 y2 y3 y4 y5 y6)) ||| ((own_c1 x0 x1 x2 x3 x4 x5 x6) ^^^ (own_c1 y0 y1 y2 y3 y4 y5 y6))) ||| ((own_c2 x0 x1 x2 x3 x4 x5 x6) ^^^ (own_c2 y0 y1 y2 y3 y4 y5 y6))) ||| ((own_c3 x0 x1 x2 x3 x4 x5 x6) ^^^ (own_c3 y0 y1 y2 y3 y4 y5 y6))) ||| ((own_c4 x0 x1 x2 x3 x4 x5 x6) ^^^ (own_c4 y0 y1 y2 y3 y4 y5 y6))))])) _
    refine XS.iconst X36.here hx rfl (hb hby d4_81) ?_
    show Steps p.tables e below (T36.setTop (mkF m 82 (LS_RIRIRR r0 p1 r0 p3 b1 b2) [(.int (5 : Int32)), (.ref b2), (.long (own_c5 x0 x1 x2 x3 x4 x5 x6)), (.long ((((((own_c0 x0 x1 x2 x3 x4 x5 x6) ^^^ (own_c0 y0 y1 y2 y3 y4 y5 y6)) ||| ((own_c1 x0 x1 x2 x3 x4 x5 x6) ^^^ (own_c1 y0 y1 y2 y3 y4 y5 y6))) ||| ((own_c2 x0 x1 x2 x3 x4 x5 x6) ^^^ (own_c2 y0 y1 y2 y3 y4 y5 y6))) ||| ((own_c3 x0 x1 x2 x3 x4 x5 x6) ^^^ (own_c3 y0 y1 y2 y3 y4 y5 y6))) ||| ((own_c4 x0 x1 x2 x3 x4 x5 x6) ^^^ (own_c4 y0 y1 y2 y3 y4 y5 y6))))])) _
    refine X36.laload hx (j := (5 : Int32)) (v := (.long (own_c5 y0 y1 y2 y3 y4 y5 y6))) Ar60.1 (State.isArrayOf_alike hZ.alike Ar60.2.1) Ar60.2.2 hin61 hat61 (g := (mkF m 82 (LS_RIRIRR r0 p1 r0 p3 b1 b2) [(.int (5 : Int32)), (.ref b2), (.long (own_c5 x0 x1 x2 x3 x4 x5 x6)), (.long ((((((own_c0 x0 x1 x2 x3 x4 x5 x6) ^^^ (own_c0 y0 y1 y2 y3 y4 y5 y6)) ||| ((own_c1 x0 x1 x2 x3 x4 x5 x6) ^^^ (own_c1 y0 y1 y2 y3 y4 y5 y6))) ||| ((own_c2 x0 x1 x2 x3 x4 x5 x6) ^^^ (own_c2 y0 y1 y2 y3 y4 y5 y6))) ||| ((own_c3 x0 x1 x2 x3 x4 x5 x6) ^^^ (own_c3 y0 y1 y2 y3 y4 y5 y6))) ||| ((own_c4 x0 x1 x2 x3 x4 x5 x6) ^^^ (own_c4 y0 y1 y2 y3 y4 y5 y6))))])) rfl rfl (hb hby d4_82) _ ?_
    show Steps p.tables e below (T36.setTop (mkF m 83 (LS_RIRIRR r0 p1 r0 p3 b1 b2) [(.long (own_c5 y0 y1 y2 y3 y4 y5 y6)), (.long (own_c5 x0 x1 x2 x3 x4 x5 x6)), (.long ((((((own_c0 x0 x1 x2 x3 x4 x5 x6) ^^^ (own_c0 y0 y1 y2 y3 y4 y5 y6)) ||| ((own_c1 x0 x1 x2 x3 x4 x5 x6) ^^^ (own_c1 y0 y1 y2 y3 y4 y5 y6))) ||| ((own_c2 x0 x1 x2 x3 x4 x5 x6) ^^^ (own_c2 y0 y1 y2 y3 y4 y5 y6))) ||| ((own_c3 x0 x1 x2 x3 x4 x5 x6) ^^^ (own_c3 y0 y1 y2 y3 y4 y5 y6))) ||| ((own_c4 x0 x1 x2 x3 x4 x5 x6) ^^^ (own_c4 y0 y1 y2 y3 y4 y5 y6))))])) _
    refine XS.lxor X36.here hx rfl (hb hby d4_83) rfl ?_
    show Steps p.tables e below (T36.setTop (mkF m 84 (LS_RIRIRR r0 p1 r0 p3 b1 b2) [(.long ((own_c5 x0 x1 x2 x3 x4 x5 x6) ^^^ (own_c5 y0 y1 y2 y3 y4 y5 y6))), (.long ((((((own_c0 x0 x1 x2 x3 x4 x5 x6) ^^^ (own_c0 y0 y1 y2 y3 y4 y5 y6)) ||| ((own_c1 x0 x1 x2 x3 x4 x5 x6) ^^^ (own_c1 y0 y1 y2 y3 y4 y5 y6))) ||| ((own_c2 x0 x1 x2 x3 x4 x5 x6) ^^^ (own_c2 y0 y1 y2 y3 y4 y5 y6))) ||| ((own_c3 x0 x1 x2 x3 x4 x5 x6) ^^^ (own_c3 y0 y1 y2 y3 y4 y5 y6))) ||| ((own_c4 x0 x1 x2 x3 x4 x5 x6) ^^^ (own_c4 y0 y1 y2 y3 y4 y5 y6))))])) _
    refine XS.lor X36.here hx rfl (hb hby d4_84) rfl ?_
    show Steps p.tables e below (T36.setTop (mkF m 85 (LS_RIRIRR r0 p1 r0 p3 b1 b2) [(.long (((((((own_c0 x0 x1 x2 x3 x4 x5 x6) ^^^ (own_c0 y0 y1 y2 y3 y4 y5 y6)) ||| ((own_c1 x0 x1 x2 x3 x4 x5 x6) ^^^ (own_c1 y0 y1 y2 y3 y4 y5 y6))) ||| ((own_c2 x0 x1 x2 x3 x4 x5 x6) ^^^ (own_c2 y0 y1 y2 y3 y4 y5 y6))) ||| ((own_c3 x0 x1 x2 x3 x4 x5 x6) ^^^ (own_c3 y0 y1 y2 y3 y4 y5 y6))) ||| ((own_c4 x0 x1 x2 x3 x4 x5 x6) ^^^ (own_c4 y0 y1 y2 y3 y4 y5 y6))) ||| ((own_c5 x0 x1 x2 x3 x4 x5 x6) ^^^ (own_c5 y0 y1 y2 y3 y4 y5 y6))))])) _
    refine XS.aload X36.here hx rfl (hb hby d4_85) rfl rfl ?_
    show Steps p.tables e below (T36.setTop (mkF m 87 (LS_RIRIRR r0 p1 r0 p3 b1 b2) [(.ref b1), (.long (((((((own_c0 x0 x1 x2 x3 x4 x5 x6) ^^^ (own_c0 y0 y1 y2 y3 y4 y5 y6)) ||| ((own_c1 x0 x1 x2 x3 x4 x5 x6) ^^^ (own_c1 y0 y1 y2 y3 y4 y5 y6))) ||| ((own_c2 x0 x1 x2 x3 x4 x5 x6) ^^^ (own_c2 y0 y1 y2 y3 y4 y5 y6))) ||| ((own_c3 x0 x1 x2 x3 x4 x5 x6) ^^^ (own_c3 y0 y1 y2 y3 y4 y5 y6))) ||| ((own_c4 x0 x1 x2 x3 x4 x5 x6) ^^^ (own_c4 y0 y1 y2 y3 y4 y5 y6))) ||| ((own_c5 x0 x1 x2 x3 x4 x5 x6) ^^^ (own_c5 y0 y1 y2 y3 y4 y5 y6))))])) _
    refine XS.bipush X36.here hx rfl (hb hby d4_87) ?_
    show Steps p.tables e below (T36.setTop (mkF m 89 (LS_RIRIRR r0 p1 r0 p3 b1 b2) [(.int (6 : Int32)), (.ref b1), (.long (((((((own_c0 x0 x1 x2 x3 x4 x5 x6) ^^^ (own_c0 y0 y1 y2 y3 y4 y5 y6)) ||| ((own_c1 x0 x1 x2 x3 x4 x5 x6) ^^^ (own_c1 y0 y1 y2 y3 y4 y5 y6))) ||| ((own_c2 x0 x1 x2 x3 x4 x5 x6) ^^^ (own_c2 y0 y1 y2 y3 y4 y5 y6))) ||| ((own_c3 x0 x1 x2 x3 x4 x5 x6) ^^^ (own_c3 y0 y1 y2 y3 y4 y5 y6))) ||| ((own_c4 x0 x1 x2 x3 x4 x5 x6) ^^^ (own_c4 y0 y1 y2 y3 y4 y5 y6))) ||| ((own_c5 x0 x1 x2 x3 x4 x5 x6) ^^^ (own_c5 y0 y1 y2 y3 y4 y5 y6))))])) _
    refine X36.laload hx (j := (6 : Int32)) (v := (.long (own_c6 x0 x1 x2 x3 x4 x5 x6))) Ar62.1 (State.isArrayOf_alike hZ.alike Ar62.2.1) Ar62.2.2 hin63 hat63 (g := (mkF m 89 (LS_RIRIRR r0 p1 r0 p3 b1 b2) [(.int (6 : Int32)), (.ref b1), (.long (((((((own_c0 x0 x1 x2 x3 x4 x5 x6) ^^^ (own_c0 y0 y1 y2 y3 y4 y5 y6)) ||| ((own_c1 x0 x1 x2 x3 x4 x5 x6) ^^^ (own_c1 y0 y1 y2 y3 y4 y5 y6))) ||| ((own_c2 x0 x1 x2 x3 x4 x5 x6) ^^^ (own_c2 y0 y1 y2 y3 y4 y5 y6))) ||| ((own_c3 x0 x1 x2 x3 x4 x5 x6) ^^^ (own_c3 y0 y1 y2 y3 y4 y5 y6))) ||| ((own_c4 x0 x1 x2 x3 x4 x5 x6) ^^^ (own_c4 y0 y1 y2 y3 y4 y5 y6))) ||| ((own_c5 x0 x1 x2 x3 x4 x5 x6) ^^^ (own_c5 y0 y1 y2 y3 y4 y5 y6))))])) rfl rfl (hb hby d4_89) _ ?_
    show Steps p.tables e below (T36.setTop (mkF m 90 (LS_RIRIRR r0 p1 r0 p3 b1 b2) [(.long (own_c6 x0 x1 x2 x3 x4 x5 x6)), (.long (((((((own_c0 x0 x1 x2 x3 x4 x5 x6) ^^^ (own_c0 y0 y1 y2 y3 y4 y5 y6)) ||| ((own_c1 x0 x1 x2 x3 x4 x5 x6) ^^^ (own_c1 y0 y1 y2 y3 y4 y5 y6))) ||| ((own_c2 x0 x1 x2 x3 x4 x5 x6) ^^^ (own_c2 y0 y1 y2 y3 y4 y5 y6))) ||| ((own_c3 x0 x1 x2 x3 x4 x5 x6) ^^^ (own_c3 y0 y1 y2 y3 y4 y5 y6))) ||| ((own_c4 x0 x1 x2 x3 x4 x5 x6) ^^^ (own_c4 y0 y1 y2 y3 y4 y5 y6))) ||| ((own_c5 x0 x1 x2 x3 x4 x5 x6) ^^^ (own_c5 y0 y1 y2 y3 y4 y5 y6))))])) _
    refine XS.aload X36.here hx rfl (hb hby d4_90) rfl rfl ?_
    show Steps p.tables e below (T36.setTop (mkF m 92 (LS_RIRIRR r0 p1 r0 p3 b1 b2) [(.ref b2), (.long (own_c6 x0 x1 x2 x3 x4 x5 x6)), (.long (((((((own_c0 x0 x1 x2 x3 x4 x5 x6) ^^^ (own_c0 y0 y1 y2 y3 y4 y5 y6)) ||| ((own_c1 x0 x1 x2 x3 x4 x5 x6) ^^^ (own_c1 y0 y1 y2 y3 y4 y5 y6))) ||| ((own_c2 x0 x1 x2 x3 x4 x5 x6) ^^^ (own_c2 y0 y1 y2 y3 y4 y5 y6))) ||| ((own_c3 x0 x1 x2 x3 x4 x5 x6) ^^^ (own_c3 y0 y1 y2 y3 y4 y5 y6))) ||| ((own_c4 x0 x1 x2 x3 x4 x5 x6) ^^^ (own_c4 y0 y1 y2 y3 y4 y5 y6))) ||| ((own_c5 x0 x1 x2 x3 x4 x5 x6) ^^^ (own_c5 y0 y1 y2 y3 y4 y5 y6))))])) _
    refine XS.bipush X36.here hx rfl (hb hby d4_92) ?_
    show Steps p.tables e below (T36.setTop (mkF m 94 (LS_RIRIRR r0 p1 r0 p3 b1 b2) [(.int (6 : Int32)), (.ref b2), (.long (own_c6 x0 x1 x2 x3 x4 x5 x6)), (.long (((((((own_c0 x0 x1 x2 x3 x4 x5 x6) ^^^ (own_c0 y0 y1 y2 y3 y4 y5 y6)) ||| ((own_c1 x0 x1 x2 x3 x4 x5 x6) ^^^ (own_c1 y0 y1 y2 y3 y4 y5 y6))) ||| ((own_c2 x0 x1 x2 x3 x4 x5 x6) ^^^ (own_c2 y0 y1 y2 y3 y4 y5 y6))) ||| ((own_c3 x0 x1 x2 x3 x4 x5 x6) ^^^ (own_c3 y0 y1 y2 y3 y4 y5 y6))) ||| ((own_c4 x0 x1 x2 x3 x4 x5 x6) ^^^ (own_c4 y0 y1 y2 y3 y4 y5 y6))) ||| ((own_c5 x0 x1 x2 x3 x4 x5 x6) ^^^ (own_c5 y0 y1 y2 y3 y4 y5 y6))))])) _
    refine X36.laload hx (j := (6 : Int32)) (v := (.long (own_c6 y0 y1 y2 y3 y4 y5 y6))) Ar64.1 (State.isArrayOf_alike hZ.alike Ar64.2.1) Ar64.2.2 hin65 hat65 (g := (mkF m 94 (LS_RIRIRR r0 p1 r0 p3 b1 b2) [(.int (6 : Int32)), (.ref b2), (.long (own_c6 x0 x1 x2 x3 x4 x5 x6)), (.long (((((((own_c0 x0 x1 x2 x3 x4 x5 x6) ^^^ (own_c0 y0 y1 y2 y3 y4 y5 y6)) ||| ((own_c1 x0 x1 x2 x3 x4 x5 x6) ^^^ (own_c1 y0 y1 y2 y3 y4 y5 y6))) ||| ((own_c2 x0 x1 x2 x3 x4 x5 x6) ^^^ (own_c2 y0 y1 y2 y3 y4 y5 y6))) ||| ((own_c3 x0 x1 x2 x3 x4 x5 x6) ^^^ (own_c3 y0 y1 y2 y3 y4 y5 y6))) ||| ((own_c4 x0 x1 x2 x3 x4 x5 x6) ^^^ (own_c4 y0 y1 y2 y3 y4 y5 y6))) ||| ((own_c5 x0 x1 x2 x3 x4 x5 x6) ^^^ (own_c5 y0 y1 y2 y3 y4 y5 y6))))])) rfl rfl (hb hby d4_94) _ ?_
    show Steps p.tables e below (T36.setTop (mkF m 95 (LS_RIRIRR r0 p1 r0 p3 b1 b2) [(.long (own_c6 y0 y1 y2 y3 y4 y5 y6)), (.long (own_c6 x0 x1 x2 x3 x4 x5 x6)), (.long (((((((own_c0 x0 x1 x2 x3 x4 x5 x6) ^^^ (own_c0 y0 y1 y2 y3 y4 y5 y6)) ||| ((own_c1 x0 x1 x2 x3 x4 x5 x6) ^^^ (own_c1 y0 y1 y2 y3 y4 y5 y6))) ||| ((own_c2 x0 x1 x2 x3 x4 x5 x6) ^^^ (own_c2 y0 y1 y2 y3 y4 y5 y6))) ||| ((own_c3 x0 x1 x2 x3 x4 x5 x6) ^^^ (own_c3 y0 y1 y2 y3 y4 y5 y6))) ||| ((own_c4 x0 x1 x2 x3 x4 x5 x6) ^^^ (own_c4 y0 y1 y2 y3 y4 y5 y6))) ||| ((own_c5 x0 x1 x2 x3 x4 x5 x6) ^^^ (own_c5 y0 y1 y2 y3 y4 y5 y6))))])) _
    refine XS.lxor X36.here hx rfl (hb hby d4_95) rfl ?_
    show Steps p.tables e below (T36.setTop (mkF m 96 (LS_RIRIRR r0 p1 r0 p3 b1 b2) [(.long ((own_c6 x0 x1 x2 x3 x4 x5 x6) ^^^ (own_c6 y0 y1 y2 y3 y4 y5 y6))), (.long (((((((own_c0 x0 x1 x2 x3 x4 x5 x6) ^^^ (own_c0 y0 y1 y2 y3 y4 y5 y6)) ||| ((own_c1 x0 x1 x2 x3 x4 x5 x6) ^^^ (own_c1 y0 y1 y2 y3 y4 y5 y6))) ||| ((own_c2 x0 x1 x2 x3 x4 x5 x6) ^^^ (own_c2 y0 y1 y2 y3 y4 y5 y6))) ||| ((own_c3 x0 x1 x2 x3 x4 x5 x6) ^^^ (own_c3 y0 y1 y2 y3 y4 y5 y6))) ||| ((own_c4 x0 x1 x2 x3 x4 x5 x6) ^^^ (own_c4 y0 y1 y2 y3 y4 y5 y6))) ||| ((own_c5 x0 x1 x2 x3 x4 x5 x6) ^^^ (own_c5 y0 y1 y2 y3 y4 y5 y6))))])) _
    refine XS.lor X36.here hx rfl (hb hby d4_96) rfl ?_
    show Steps p.tables e below (T36.setTop (mkF m 97 (LS_RIRIRR r0 p1 r0 p3 b1 b2) [(.long ((((((((own_c0 x0 x1 x2 x3 x4 x5 x6) ^^^ (own_c0 y0 y1 y2 y3 y4 y5 y6)) ||| ((own_c1 x0 x1 x2 x3 x4 x5 x6) ^^^ (own_c1 y0 y1 y2 y3 y4 y5 y6))) ||| ((own_c2 x0 x1 x2 x3 x4 x5 x6) ^^^ (own_c2 y0 y1 y2 y3 y4 y5 y6))) ||| ((own_c3 x0 x1 x2 x3 x4 x5 x6) ^^^ (own_c3 y0 y1 y2 y3 y4 y5 y6))) ||| ((own_c4 x0 x1 x2 x3 x4 x5 x6) ^^^ (own_c4 y0 y1 y2 y3 y4 y5 y6))) ||| ((own_c5 x0 x1 x2 x3 x4 x5 x6) ^^^ (own_c5 y0 y1 y2 y3 y4 y5 y6))) ||| ((own_c6 x0 x1 x2 x3 x4 x5 x6) ^^^ (own_c6 y0 y1 y2 y3 y4 y5 y6))))])) _
    refine XS.lconst X36.here hx rfl (hb hby d4_97) ?_
    show Steps p.tables e below (T36.setTop (mkF m 98 (LS_RIRIRR r0 p1 r0 p3 b1 b2) [(.long (0 : Int64)), (.long ((((((((own_c0 x0 x1 x2 x3 x4 x5 x6) ^^^ (own_c0 y0 y1 y2 y3 y4 y5 y6)) ||| ((own_c1 x0 x1 x2 x3 x4 x5 x6) ^^^ (own_c1 y0 y1 y2 y3 y4 y5 y6))) ||| ((own_c2 x0 x1 x2 x3 x4 x5 x6) ^^^ (own_c2 y0 y1 y2 y3 y4 y5 y6))) ||| ((own_c3 x0 x1 x2 x3 x4 x5 x6) ^^^ (own_c3 y0 y1 y2 y3 y4 y5 y6))) ||| ((own_c4 x0 x1 x2 x3 x4 x5 x6) ^^^ (own_c4 y0 y1 y2 y3 y4 y5 y6))) ||| ((own_c5 x0 x1 x2 x3 x4 x5 x6) ^^^ (own_c5 y0 y1 y2 y3 y4 y5 y6))) ||| ((own_c6 x0 x1 x2 x3 x4 x5 x6) ^^^ (own_c6 y0 y1 y2 y3 y4 y5 y6))))])) _
    refine XS.lcmp X36.here hx rfl (hb hby d4_98) rfl ?_
    exact k
  by_cases hc99_66 : ((((((((own_c0 x0 x1 x2 x3 x4 x5 x6) ^^^ (own_c0 y0 y1 y2 y3 y4 y5 y6)) ||| ((own_c1 x0 x1 x2 x3 x4 x5 x6) ^^^ (own_c1 y0 y1 y2 y3 y4 y5 y6))) ||| ((own_c2 x0 x1 x2 x3 x4 x5 x6) ^^^ (own_c2 y0 y1 y2 y3 y4 y5 y6))) ||| ((own_c3 x0 x1 x2 x3 x4 x5 x6) ^^^ (own_c3 y0 y1 y2 y3 y4 y5 y6))) ||| ((own_c4 x0 x1 x2 x3 x4 x5 x6) ^^^ (own_c4 y0 y1 y2 y3 y4 y5 y6))) ||| ((own_c5 x0 x1 x2 x3 x4 x5 x6) ^^^ (own_c5 y0 y1 y2 y3 y4 y5 y6))) ||| ((own_c6 x0 x1 x2 x3 x4 x5 x6) ^^^ (own_c6 y0 y1 y2 y3 y4 y5 y6))) = (0 : Int64)
  · refine own_go (B := T36.setTop (mkF m 107 (LS_RIRIRR r0 p1 r0 p3 b1 b2) [(.int (1 : Int32))])) (fun t k => ?_) ?_
    · show Steps p.tables e below (T36.setTop (mkF m 99 (LS_RIRIRR r0 p1 r0 p3 b1 b2) [(.int (lcmpW ((((((((own_c0 x0 x1 x2 x3 x4 x5 x6) ^^^ (own_c0 y0 y1 y2 y3 y4 y5 y6)) ||| ((own_c1 x0 x1 x2 x3 x4 x5 x6) ^^^ (own_c1 y0 y1 y2 y3 y4 y5 y6))) ||| ((own_c2 x0 x1 x2 x3 x4 x5 x6) ^^^ (own_c2 y0 y1 y2 y3 y4 y5 y6))) ||| ((own_c3 x0 x1 x2 x3 x4 x5 x6) ^^^ (own_c3 y0 y1 y2 y3 y4 y5 y6))) ||| ((own_c4 x0 x1 x2 x3 x4 x5 x6) ^^^ (own_c4 y0 y1 y2 y3 y4 y5 y6))) ||| ((own_c5 x0 x1 x2 x3 x4 x5 x6) ^^^ (own_c5 y0 y1 y2 y3 y4 y5 y6))) ||| ((own_c6 x0 x1 x2 x3 x4 x5 x6) ^^^ (own_c6 y0 y1 y2 y3 y4 y5 y6))) (0 : Int64)))])) _
      refine XS.ifNo X36.here hx rfl (hb hby d4_99) rfl ((if0 _ _).trans (teq ((lw_eq ((((((((own_c0 x0 x1 x2 x3 x4 x5 x6) ^^^ (own_c0 y0 y1 y2 y3 y4 y5 y6)) ||| ((own_c1 x0 x1 x2 x3 x4 x5 x6) ^^^ (own_c1 y0 y1 y2 y3 y4 y5 y6))) ||| ((own_c2 x0 x1 x2 x3 x4 x5 x6) ^^^ (own_c2 y0 y1 y2 y3 y4 y5 y6))) ||| ((own_c3 x0 x1 x2 x3 x4 x5 x6) ^^^ (own_c3 y0 y1 y2 y3 y4 y5 y6))) ||| ((own_c4 x0 x1 x2 x3 x4 x5 x6) ^^^ (own_c4 y0 y1 y2 y3 y4 y5 y6))) ||| ((own_c5 x0 x1 x2 x3 x4 x5 x6) ^^^ (own_c5 y0 y1 y2 y3 y4 y5 y6))) ||| ((own_c6 x0 x1 x2 x3 x4 x5 x6) ^^^ (own_c6 y0 y1 y2 y3 y4 y5 y6))) (0 : Int64)).mpr hc99_66)).2) ?_
      show Steps p.tables e below (T36.setTop (mkF m 102 (LS_RIRIRR r0 p1 r0 p3 b1 b2) [])) _
      refine XS.iconst X36.here hx rfl (hb hby d4_102) ?_
      show Steps p.tables e below (T36.setTop (mkF m 103 (LS_RIRIRR r0 p1 r0 p3 b1 b2) [(.int (1 : Int32))])) _
      refine XS.goto X36.here hx rfl (pc0 := 103) (pc' := 107) rfl (hb hby d4_103) (by decide) (by decide) ?_
      exact k
    obtain ⟨fs, hr, hrun, hended, hW, hsame⟩ := X36.leave (v := some (.int (1 : Int32))) (fun h => by rw [Bd.returns] at h; cases h)
    refine ⟨_, _, ?_, hrun, hended, _, _, rfl, ?_, ⟨_, rfl⟩, hW, hsame.mono (by decide) (by decide)⟩
    · show Steps p.tables e below (T36.setTop (mkF m 107 (LS_RIRIRR r0 p1 r0 p3 b1 b2) [(.int (1 : Int32))])) _
      exact retN X36 hx (t := .boolean) Bd.returns (by simp) (hb hby d4_107) hr
    · show Q4 Z r0 p1 p3 cl x0 x1 x2 x3 x4 x5 x6 y0 y1 y2 y3 y4 y5 y6 h0 n0 _ T36.heap _
      exact ⟨by rw [if_pos hc99_66], N36⟩
  · refine own_go (B := T36.setTop (mkF m 107 (LS_RIRIRR r0 p1 r0 p3 b1 b2) [(.int (0 : Int32))])) (fun t k => ?_) ?_
    · show Steps p.tables e below (T36.setTop (mkF m 99 (LS_RIRIRR r0 p1 r0 p3 b1 b2) [(.int (lcmpW ((((((((own_c0 x0 x1 x2 x3 x4 x5 x6) ^^^ (own_c0 y0 y1 y2 y3 y4 y5 y6)) ||| ((own_c1 x0 x1 x2 x3 x4 x5 x6) ^^^ (own_c1 y0 y1 y2 y3 y4 y5 y6))) ||| ((own_c2 x0 x1 x2 x3 x4 x5 x6) ^^^ (own_c2 y0 y1 y2 y3 y4 y5 y6))) ||| ((own_c3 x0 x1 x2 x3 x4 x5 x6) ^^^ (own_c3 y0 y1 y2 y3 y4 y5 y6))) ||| ((own_c4 x0 x1 x2 x3 x4 x5 x6) ^^^ (own_c4 y0 y1 y2 y3 y4 y5 y6))) ||| ((own_c5 x0 x1 x2 x3 x4 x5 x6) ^^^ (own_c5 y0 y1 y2 y3 y4 y5 y6))) ||| ((own_c6 x0 x1 x2 x3 x4 x5 x6) ^^^ (own_c6 y0 y1 y2 y3 y4 y5 y6))) (0 : Int64)))])) _
      refine XS.ifYes X36.here hx rfl (pc0 := 99) (pc' := 106) rfl (hb hby d4_99) rfl ((if0 _ _).trans (feq (fun q => hc99_66 ((lw_eq ((((((((own_c0 x0 x1 x2 x3 x4 x5 x6) ^^^ (own_c0 y0 y1 y2 y3 y4 y5 y6)) ||| ((own_c1 x0 x1 x2 x3 x4 x5 x6) ^^^ (own_c1 y0 y1 y2 y3 y4 y5 y6))) ||| ((own_c2 x0 x1 x2 x3 x4 x5 x6) ^^^ (own_c2 y0 y1 y2 y3 y4 y5 y6))) ||| ((own_c3 x0 x1 x2 x3 x4 x5 x6) ^^^ (own_c3 y0 y1 y2 y3 y4 y5 y6))) ||| ((own_c4 x0 x1 x2 x3 x4 x5 x6) ^^^ (own_c4 y0 y1 y2 y3 y4 y5 y6))) ||| ((own_c5 x0 x1 x2 x3 x4 x5 x6) ^^^ (own_c5 y0 y1 y2 y3 y4 y5 y6))) ||| ((own_c6 x0 x1 x2 x3 x4 x5 x6) ^^^ (own_c6 y0 y1 y2 y3 y4 y5 y6))) (0 : Int64)).mp q))).2) (by decide) (by decide) ?_
      show Steps p.tables e below (T36.setTop (mkF m 106 (LS_RIRIRR r0 p1 r0 p3 b1 b2) [])) _
      refine XS.iconst X36.here hx rfl (hb hby d4_106) ?_
      exact k
    obtain ⟨fs, hr, hrun, hended, hW, hsame⟩ := X36.leave (v := some (.int (0 : Int32))) (fun h => by rw [Bd.returns] at h; cases h)
    refine ⟨_, _, ?_, hrun, hended, _, _, rfl, ?_, ⟨_, rfl⟩, hW, hsame.mono (by decide) (by decide)⟩
    · show Steps p.tables e below (T36.setTop (mkF m 107 (LS_RIRIRR r0 p1 r0 p3 b1 b2) [(.int (0 : Int32))])) _
      exact retN X36 hx (t := .boolean) Bd.returns (by simp) (hb hby d4_107) hr
    · show Q4 Z r0 p1 p3 cl x0 x1 x2 x3 x4 x5 x6 y0 y1 y2 y3 y4 y5 y6 h0 n0 _ T36.heap _
      exact ⟨by rw [if_neg hc99_66], N36⟩
theorem ef_0 (m : MethodId) (q0 : Int64) (q1 : Int64) (q2 : Int64) (q3 : Int64) (q4 : Int64) (q5 : Int64) : entryFrame m #[(.long q0), (.long q1), (.long q2), (.long q3), (.long q4), (.long q5)] maxLocals = mkF m 0 #[.val (.long q0), .second, .val (.long q1), .second, .val (.long q2), .second, .val (.long q3), .second, .val (.long q4), .second, .val (.long q5), .second, .unset, .unset, .unset, .unset, .unset, .unset, .unset, .unset, .unset, .unset, .unset, .unset] [] := by first | (simp [entryFrame, mkF, argsToLocals, Value.category, maxLocals]; done) | rfl
theorem pn_0 : plainName "com/example/barred_rows/barredrows/crypto/FpEqualPinLaw" = true := by first | (simp [plainName, overriddenIn]; done) | decide +kernel
abbrev LS_JsJsJsJsJsJsuuuuuuuuuuuu (a0 : Int64) (a1 : Int64) (a2 : Int64) (a3 : Int64) (a4 : Int64) (a5 : Int64) : Array Slot := #[.val (.long a0), .second, .val (.long a1), .second, .val (.long a2), .second, .val (.long a3), .second, .val (.long a4), .second, .val (.long a5), .second, .unset, .unset, .unset, .unset, .unset, .unset, .unset, .unset, .unset, .unset, .unset, .unset]
abbrev LS_JsJsJsJsJsJsJsuuuuuuuuuu (a0 : Int64) (a1 : Int64) (a2 : Int64) (a3 : Int64) (a4 : Int64) (a5 : Int64) (a6 : Int64) : Array Slot := #[.val (.long a0), .second, .val (.long a1), .second, .val (.long a2), .second, .val (.long a3), .second, .val (.long a4), .second, .val (.long a5), .second, .val (.long a6), .second, .unset, .unset, .unset, .unset, .unset, .unset, .unset, .unset, .unset, .unset]
abbrev LS_JsJsJsJsJsJsJsRuuuuuuuuu (a0 : Int64) (a1 : Int64) (a2 : Int64) (a3 : Int64) (a4 : Int64) (a5 : Int64) (a6 : Int64) (a7 : Addr) : Array Slot := #[.val (.long a0), .second, .val (.long a1), .second, .val (.long a2), .second, .val (.long a3), .second, .val (.long a4), .second, .val (.long a5), .second, .val (.long a6), .second, .val (.ref a7), .unset, .unset, .unset, .unset, .unset, .unset, .unset, .unset, .unset]
abbrev LS_JsJsJsJsJsJsJsRIuuuuuuuu (a0 : Int64) (a1 : Int64) (a2 : Int64) (a3 : Int64) (a4 : Int64) (a5 : Int64) (a6 : Int64) (a7 : Addr) (a8 : Int32) : Array Slot := #[.val (.long a0), .second, .val (.long a1), .second, .val (.long a2), .second, .val (.long a3), .second, .val (.long a4), .second, .val (.long a5), .second, .val (.long a6), .second, .val (.ref a7), .val (.int a8), .unset, .unset, .unset, .unset, .unset, .unset, .unset, .unset]
abbrev LS_JsJsJsJsJsJsJsRIIuuuuuuu (a0 : Int64) (a1 : Int64) (a2 : Int64) (a3 : Int64) (a4 : Int64) (a5 : Int64) (a6 : Int64) (a7 : Addr) (a8 : Int32) (a9 : Int32) : Array Slot := #[.val (.long a0), .second, .val (.long a1), .second, .val (.long a2), .second, .val (.long a3), .second, .val (.long a4), .second, .val (.long a5), .second, .val (.long a6), .second, .val (.ref a7), .val (.int a8), .val (.int a9), .unset, .unset, .unset, .unset, .unset, .unset, .unset]
abbrev LS_JsJsJsJsJsJsJsRIIIuuuuuu (a0 : Int64) (a1 : Int64) (a2 : Int64) (a3 : Int64) (a4 : Int64) (a5 : Int64) (a6 : Int64) (a7 : Addr) (a8 : Int32) (a9 : Int32) (a10 : Int32) : Array Slot := #[.val (.long a0), .second, .val (.long a1), .second, .val (.long a2), .second, .val (.long a3), .second, .val (.long a4), .second, .val (.long a5), .second, .val (.long a6), .second, .val (.ref a7), .val (.int a8), .val (.int a9), .val (.int a10), .unset, .unset, .unset, .unset, .unset, .unset]
abbrev LS_JsJsJsJsJsJsJsRIIIIuuuuu (a0 : Int64) (a1 : Int64) (a2 : Int64) (a3 : Int64) (a4 : Int64) (a5 : Int64) (a6 : Int64) (a7 : Addr) (a8 : Int32) (a9 : Int32) (a10 : Int32) (a11 : Int32) : Array Slot := #[.val (.long a0), .second, .val (.long a1), .second, .val (.long a2), .second, .val (.long a3), .second, .val (.long a4), .second, .val (.long a5), .second, .val (.long a6), .second, .val (.ref a7), .val (.int a8), .val (.int a9), .val (.int a10), .val (.int a11), .unset, .unset, .unset, .unset, .unset]
abbrev LS_JsJsJsJsJsJsJsRIIIIIuuuu (a0 : Int64) (a1 : Int64) (a2 : Int64) (a3 : Int64) (a4 : Int64) (a5 : Int64) (a6 : Int64) (a7 : Addr) (a8 : Int32) (a9 : Int32) (a10 : Int32) (a11 : Int32) (a12 : Int32) : Array Slot := #[.val (.long a0), .second, .val (.long a1), .second, .val (.long a2), .second, .val (.long a3), .second, .val (.long a4), .second, .val (.long a5), .second, .val (.long a6), .second, .val (.ref a7), .val (.int a8), .val (.int a9), .val (.int a10), .val (.int a11), .val (.int a12), .unset, .unset, .unset, .unset]
abbrev LS_JsJsJsJsJsJsJsRIIIIIRuuu (a0 : Int64) (a1 : Int64) (a2 : Int64) (a3 : Int64) (a4 : Int64) (a5 : Int64) (a6 : Int64) (a7 : Addr) (a8 : Int32) (a9 : Int32) (a10 : Int32) (a11 : Int32) (a12 : Int32) (a13 : Addr) : Array Slot := #[.val (.long a0), .second, .val (.long a1), .second, .val (.long a2), .second, .val (.long a3), .second, .val (.long a4), .second, .val (.long a5), .second, .val (.long a6), .second, .val (.ref a7), .val (.int a8), .val (.int a9), .val (.int a10), .val (.int a11), .val (.int a12), .val (.ref a13), .unset, .unset, .unset]
theorem pd____J : parseMethodDescriptor "()[J" = some ⟨[], some (.array .long)⟩ := by decide +kernel
abbrev LS_JsJsJsJsJsJsJsRIIIIIRRuu (a0 : Int64) (a1 : Int64) (a2 : Int64) (a3 : Int64) (a4 : Int64) (a5 : Int64) (a6 : Int64) (a7 : Addr) (a8 : Int32) (a9 : Int32) (a10 : Int32) (a11 : Int32) (a12 : Int32) (a13 : Addr) (a14 : Addr) : Array Slot := #[.val (.long a0), .second, .val (.long a1), .second, .val (.long a2), .second, .val (.long a3), .second, .val (.long a4), .second, .val (.long a5), .second, .val (.long a6), .second, .val (.ref a7), .val (.int a8), .val (.int a9), .val (.int a10), .val (.int a11), .val (.int a12), .val (.ref a13), .val (.ref a14), .unset, .unset]
abbrev LS_JsJsJsJsJsJsJsRIIIIIRRRu (a0 : Int64) (a1 : Int64) (a2 : Int64) (a3 : Int64) (a4 : Int64) (a5 : Int64) (a6 : Int64) (a7 : Addr) (a8 : Int32) (a9 : Int32) (a10 : Int32) (a11 : Int32) (a12 : Int32) (a13 : Addr) (a14 : Addr) (a15 : Addr) : Array Slot := #[.val (.long a0), .second, .val (.long a1), .second, .val (.long a2), .second, .val (.long a3), .second, .val (.long a4), .second, .val (.long a5), .second, .val (.long a6), .second, .val (.ref a7), .val (.int a8), .val (.int a9), .val (.int a10), .val (.int a11), .val (.int a12), .val (.ref a13), .val (.ref a14), .val (.ref a15), .unset]
theorem pd___JI_J_JZ_V : parseMethodDescriptor "([JI[J[JZ)V" = some ⟨[(.array .long), .int, (.array .long), (.array .long), .boolean], none⟩ := by decide +kernel
abbrev LS_JsJsJsJsJsJsJsRIIIIIRRRI (a0 : Int64) (a1 : Int64) (a2 : Int64) (a3 : Int64) (a4 : Int64) (a5 : Int64) (a6 : Int64) (a7 : Addr) (a8 : Int32) (a9 : Int32) (a10 : Int32) (a11 : Int32) (a12 : Int32) (a13 : Addr) (a14 : Addr) (a15 : Addr) (a16 : Int32) : Array Slot := #[.val (.long a0), .second, .val (.long a1), .second, .val (.long a2), .second, .val (.long a3), .second, .val (.long a4), .second, .val (.long a5), .second, .val (.long a6), .second, .val (.ref a7), .val (.int a8), .val (.int a9), .val (.int a10), .val (.int a11), .val (.int a12), .val (.ref a13), .val (.ref a14), .val (.ref a15), .val (.int a16)]
theorem pd___JI_JI_Z : parseMethodDescriptor "([JI[JI)Z" = some ⟨[(.array .long), .int, (.array .long), .int], some .boolean⟩ := by decide +kernel
theorem pd___J_J_Z : parseMethodDescriptor "([J[J)Z" = some ⟨[(.array .long), (.array .long)], some .boolean⟩ := by decide +kernel
def Q0 (Z : State) (q0 : Int64) (q1 : Int64) (q2 : Int64) (q3 : Int64) (q4 : Int64) (q5 : Int64) (h0 : Heap) (n0 : Nat) (v : Option Value) (h : Heap) (L : List Loc) : Prop := v = some (.int (1 : Int32)) ∧ Fr n0 L
set_option maxRecDepth 65536 in
set_option maxHeartbeats 40000000 in
theorem rm0 (l : Launch) (Z : State) (a0 : Array Value) (hw : ∀ d ∈ tables_1, d.before a0 Z = true) (ws : List Jvm.Cond) (q0 : Int64) (q1 : Int64) (q2 : Int64) (q3 : Int64) (q4 : Int64) (q5 : Int64) (h0 : Heap) (n0 : Nat) (Z0 : n0 ≤ h0.size) (S_Fp_P0 : Sta Z h0 "com/example/barred_rows/barredrows/crypto/Fp" "P0" "J" (.long (35747322042231467 : Int64))) (S_Fp_P1 : Sta Z h0 "com/example/barred_rows/barredrows/crypto/Fp" "P1" "J" (.long (36025922209447795 : Int64))) (S_Fp_P2 : Sta Z h0 "com/example/barred_rows/barredrows/crypto/Fp" "P2" "J" (.long (1084959616957103 : Int64))) (S_Fp_P3 : Sta Z h0 "com/example/barred_rows/barredrows/crypto/Fp" "P3" "J" (.long (7925923977987733 : Int64))) (S_Fp_P4 : Sta Z h0 "com/example/barred_rows/barredrows/crypto/Fp" "P4" "J" (.long (16551456537884751 : Int64))) (S_Fp_P5 : Sta Z h0 "com/example/barred_rows/barredrows/crypto/Fp" "P5" "J" (.long (23443114579904617 : Int64))) (S_Fp_P6 : Sta Z h0 "com/example/barred_rows/barredrows/crypto/Fp" "P6" "J" (.long (1829881462546425 : Int64))) :
    MetFree l x (head1 (Jvm.Cond.code x code maxLocals ret :: ws) room_1) (fun a U => a = #[(.long q0), (.long q1), (.long q2), (.long q3), (.long q4), (.long q5)] ∧ Z.Warmed39 U.vm ∧ U.heap = h0) (fun _ _ _ _ _ => True) (fun _ U o U' => ∃ v L, o = .returned v ∧ Q0 Z q0 q1 q2 q3 q4 q5 h0 n0 v U'.heap L ∧ FrameEnd U o U' L room_1.cells room_1.slots) := by
  refine MetFree.of_bodySF (plainFor_of_name pn_0) hisR ?_
  intro p e s m args below meth c s₁ Bd hml0 hP hK
  obtain ⟨rfl, hZ, hh⟩ := hP
  have hx := Bd.exec
  have hby := Bd.bytes
  have hml : c.maxLocals = 24 := hml0
  have hown : s.vm.findClass "com/example/barred_rows/barredrows/crypto/FpEqualPinLaw" = some m.cls := findClass_of_methodNamed Bd.named
  have hnm := (name_of_methodNamed Bd.named Bd.method).1
  have X0 : Stand p l e room_1 s m #[(.long q0), (.long q1), (.long q2), (.long q3), (.long q4), (.long q5)] below meth c s₁ [] 0 0 := Stand.of_body Bd
  have e0 : s₁.heap = h0 := by rw [← hh, Bd.state]; rfl
  have N0 := Fr.nil n0
  refine own_go (B := s₁.setTop (mkF m 0 (LS_JsJsJsJsJsJsuuuuuuuuuuuu q0 q1 q2 q3 q4 q5) [])) (fun t k => castTop (ef_0 m q0 q1 q2 q3 q4 q5) k) ?_
  refine own_go (B := s₁.setTop (mkF m 7 (LS_JsJsJsJsJsJsJsuuuuuuuuuu q0 q1 q2 q3 q4 q5 (36028797018963967 : Int64)) [(.int (7 : Int32))])) (fun t k => ?_) ?_
  · refine X0.ldc2Long hx hown (mvT hZ (hw _ (List.mem_of_getElem? (i := 0) rfl))) (g := (mkF m 0 (LS_JsJsJsJsJsJsuuuuuuuuuuuu q0 q1 q2 q3 q4 q5) [])) rfl (hb hby at_0) _ ?_
    refine XS.lstore X0.here hx rfl (hb hby at_3) rfl (l' := (LS_JsJsJsJsJsJsJsuuuuuuuuuu q0 q1 q2 q3 q4 q5 (36028797018963967 : Int64))) rfl ?_
    show Steps p.tables e below (s₁.setTop (mkF m 5 (LS_JsJsJsJsJsJsJsuuuuuuuuuu q0 q1 q2 q3 q4 q5 (36028797018963967 : Int64)) [])) _
    refine XS.bipush X0.here hx rfl (hb hby at_5) ?_
    exact k
  obtain ⟨T1, h1, k1, X1, e1, E1, A1, st1⟩ := newP X0 hx hZ (hw _ (List.mem_of_getElem? (i := 1) rfl)) e0 (g := (mkF m 7 (LS_JsJsJsJsJsJsJsuuuuuuuuuu q0 q1 q2 q3 q4 q5 (36028797018963967 : Int64)) [(.int (7 : Int32))])) rfl (hb hby at_7) rfl (by decide) (cap := 7) (by decide) (by decide) (by decide) (by decide)
  obtain ⟨b1, g1⟩ : ∃ z, z = h0.size := ⟨_, rfl⟩
  rw [← g1] at A1 st1
  have g_b1 : n0 ≤ b1 := Nat.le_trans Z0 (Nat.le_of_eq g1.symm)
  have V1 : Arv Z h1 b1 k1 .long (7 : Int32) [(.long (0 : Int64)), (.long (0 : Int64)), (.long (0 : Int64)), (.long (0 : Int64)), (.long (0 : Int64)), (.long (0 : Int64)), (.long (0 : Int64))] (.long (0 : Int64)) := (Arv.new A1 (by decide)).pad (pad_rep [] (.long (0 : Int64)) 7)
  refine own_go (B := T1.setTop (mkF m 9 (LS_JsJsJsJsJsJsJsuuuuuuuuuu q0 q1 q2 q3 q4 q5 (36028797018963967 : Int64)) [(.ref b1)])) (fun t k => st1 _ k) ?_
  refine own_go (B := T1.setTop (mkF m 18 (LS_JsJsJsJsJsJsJsRuuuuuuuuu q0 q1 q2 q3 q4 q5 (36028797018963967 : Int64) b1) [(.long (q0 &&& (36028797018963967 : Int64))), (.int (0 : Int32)), (.ref b1)])) (fun t k => ?_) ?_
  · refine XS.astore X1.here hx rfl (hb hby at_9) rfl rfl (l' := (LS_JsJsJsJsJsJsJsRuuuuuuuuu q0 q1 q2 q3 q4 q5 (36028797018963967 : Int64) b1)) rfl ?_
    refine XS.aload X1.here hx rfl (hb hby at_11) rfl rfl ?_
    show Steps p.tables e below (T1.setTop (mkF m 13 (LS_JsJsJsJsJsJsJsRuuuuuuuuu q0 q1 q2 q3 q4 q5 (36028797018963967 : Int64) b1) [(.ref b1)])) _
    refine XS.iconst X1.here hx rfl (hb hby at_13) ?_
    refine XS.lloadN X1.here hx rfl (hb hby at_14) rfl ?_
    refine XS.lload X1.here hx rfl (hb hby at_15) rfl ?_
    show Steps p.tables e below (T1.setTop (mkF m 17 (LS_JsJsJsJsJsJsJsRuuuuuuuuu q0 q1 q2 q3 q4 q5 (36028797018963967 : Int64) b1) [(.long (36028797018963967 : Int64)), (.long q0), (.int (0 : Int32)), (.ref b1)])) _
    refine XS.land X1.here hx rfl (hb hby at_17) rfl ?_
    exact k
  obtain ⟨cl2, Ar2, qa2, Sa2, Na2, Ha2, Ga2⟩ := id V1
  have hin3 : ¬ ((0 : Int32) < 0 ∨ cl2.slots.size ≤ ((0 : Int32)).toNatClampNeg) := inb_of Sa2 ⟨by decide, by decide⟩
  obtain ⟨T3, h3, X3, e3, W3, st3⟩ := stJ X1 hx hZ e1 Ar2 (j := (0 : Int32)) hin3 (g := (mkF m 18 (LS_JsJsJsJsJsJsJsRuuuuuuuuu q0 q1 q2 q3 q4 q5 (36028797018963967 : Int64) b1) [(.long (q0 &&& (36028797018963967 : Int64))), (.int (0 : Int32)), (.ref b1)])) rfl rfl (hb hby at_18)
  have N3 := Fr.snoc X3 N0 g_b1
  have V3 : Arv Z h3 b1 k1 .long (7 : Int32) [(.long (q0 &&& (36028797018963967 : Int64))), (.long (0 : Int64)), (.long (0 : Int64)), (.long (0 : Int64)), (.long (0 : Int64)), (.long (0 : Int64)), (.long (0 : Int64))] (.long (0 : Int64)) := Arv.set Ar2 qa2 Sa2 Na2 Ha2 Ga2 rfl W3 0 rfl (Nat.le_of_ble_eq_true rfl)
  refine own_go (B := T3.setTop (mkF m 19 (LS_JsJsJsJsJsJsJsRuuuuuuuuu q0 q1 q2 q3 q4 q5 (36028797018963967 : Int64) b1) [])) (fun t k => st3 _ k) ?_
  refine own_go (B := T3.setTop (mkF m 26 (LS_JsJsJsJsJsJsJsRuuuuuuuuu q0 q1 q2 q3 q4 q5 (36028797018963967 : Int64) b1) [(.long (q1 &&& (36028797018963967 : Int64))), (.int (1 : Int32)), (.ref b1)])) (fun t k => ?_) ?_
  · refine XS.aload X3.here hx rfl (hb hby at_19) rfl rfl ?_
    refine XS.iconst X3.here hx rfl (hb hby at_21) ?_
    show Steps p.tables e below (T3.setTop (mkF m 22 (LS_JsJsJsJsJsJsJsRuuuuuuuuu q0 q1 q2 q3 q4 q5 (36028797018963967 : Int64) b1) [(.int (1 : Int32)), (.ref b1)])) _
    refine XS.lloadN X3.here hx rfl (hb hby at_22) rfl ?_
    refine XS.lload X3.here hx rfl (hb hby at_23) rfl ?_
    refine XS.land X3.here hx rfl (hb hby at_25) rfl ?_
    exact k
  obtain ⟨cl4, Ar4, qa4, Sa4, Na4, Ha4, Ga4⟩ := id V3
  have hin5 : ¬ ((1 : Int32) < 0 ∨ cl4.slots.size ≤ ((1 : Int32)).toNatClampNeg) := inb_of Sa4 ⟨by decide, by decide⟩
  obtain ⟨T5, h5, X5, e5, W5, st5⟩ := stJ X3 hx hZ e3 Ar4 (j := (1 : Int32)) hin5 (g := (mkF m 26 (LS_JsJsJsJsJsJsJsRuuuuuuuuu q0 q1 q2 q3 q4 q5 (36028797018963967 : Int64) b1) [(.long (q1 &&& (36028797018963967 : Int64))), (.int (1 : Int32)), (.ref b1)])) rfl rfl (hb hby at_26)
  have N5 := Fr.snoc X5 N3 g_b1
  have V5 : Arv Z h5 b1 k1 .long (7 : Int32) [(.long (q0 &&& (36028797018963967 : Int64))), (.long (q1 &&& (36028797018963967 : Int64))), (.long (0 : Int64)), (.long (0 : Int64)), (.long (0 : Int64)), (.long (0 : Int64)), (.long (0 : Int64))] (.long (0 : Int64)) := Arv.set Ar4 qa4 Sa4 Na4 Ha4 Ga4 rfl W5 1 rfl (Nat.le_of_ble_eq_true rfl)
  refine own_go (B := T5.setTop (mkF m 27 (LS_JsJsJsJsJsJsJsRuuuuuuuuu q0 q1 q2 q3 q4 q5 (36028797018963967 : Int64) b1) [])) (fun t k => st5 _ k) ?_
  refine own_go (B := T5.setTop (mkF m 35 (LS_JsJsJsJsJsJsJsRuuuuuuuuu q0 q1 q2 q3 q4 q5 (36028797018963967 : Int64) b1) [(.long (q2 &&& (36028797018963967 : Int64))), (.int (2 : Int32)), (.ref b1)])) (fun t k => ?_) ?_
  · refine XS.aload X5.here hx rfl (hb hby at_27) rfl rfl ?_
    refine XS.iconst X5.here hx rfl (hb hby at_29) ?_
    show Steps p.tables e below (T5.setTop (mkF m 30 (LS_JsJsJsJsJsJsJsRuuuuuuuuu q0 q1 q2 q3 q4 q5 (36028797018963967 : Int64) b1) [(.int (2 : Int32)), (.ref b1)])) _
    refine XS.lload X5.here hx rfl (hb hby at_30) rfl ?_
    refine XS.lload X5.here hx rfl (hb hby at_32) rfl ?_
    refine XS.land X5.here hx rfl (hb hby at_34) rfl ?_
    exact k
  obtain ⟨cl6, Ar6, qa6, Sa6, Na6, Ha6, Ga6⟩ := id V5
  have hin7 : ¬ ((2 : Int32) < 0 ∨ cl6.slots.size ≤ ((2 : Int32)).toNatClampNeg) := inb_of Sa6 ⟨by decide, by decide⟩
  obtain ⟨T7, h7, X7, e7, W7, st7⟩ := stJ X5 hx hZ e5 Ar6 (j := (2 : Int32)) hin7 (g := (mkF m 35 (LS_JsJsJsJsJsJsJsRuuuuuuuuu q0 q1 q2 q3 q4 q5 (36028797018963967 : Int64) b1) [(.long (q2 &&& (36028797018963967 : Int64))), (.int (2 : Int32)), (.ref b1)])) rfl rfl (hb hby at_35)
  have N7 := Fr.snoc X7 N5 g_b1
  have V7 : Arv Z h7 b1 k1 .long (7 : Int32) [(.long (q0 &&& (36028797018963967 : Int64))), (.long (q1 &&& (36028797018963967 : Int64))), (.long (q2 &&& (36028797018963967 : Int64))), (.long (0 : Int64)), (.long (0 : Int64)), (.long (0 : Int64)), (.long (0 : Int64))] (.long (0 : Int64)) := Arv.set Ar6 qa6 Sa6 Na6 Ha6 Ga6 rfl W7 2 rfl (Nat.le_of_ble_eq_true rfl)
  refine own_go (B := T7.setTop (mkF m 36 (LS_JsJsJsJsJsJsJsRuuuuuuuuu q0 q1 q2 q3 q4 q5 (36028797018963967 : Int64) b1) [])) (fun t k => st7 _ k) ?_
  refine own_go (B := T7.setTop (mkF m 44 (LS_JsJsJsJsJsJsJsRuuuuuuuuu q0 q1 q2 q3 q4 q5 (36028797018963967 : Int64) b1) [(.long (q3 &&& (36028797018963967 : Int64))), (.int (3 : Int32)), (.ref b1)])) (fun t k => ?_) ?_
  · refine XS.aload X7.here hx rfl (hb hby at_36) rfl rfl ?_
    refine XS.iconst X7.here hx rfl (hb hby at_38) ?_
    show Steps p.tables e below (T7.setTop (mkF m 39 (LS_JsJsJsJsJsJsJsRuuuuuuuuu q0 q1 q2 q3 q4 q5 (36028797018963967 : Int64) b1) [(.int (3 : Int32)), (.ref b1)])) _
    refine XS.lload X7.here hx rfl (hb hby at_39) rfl ?_
    refine XS.lload X7.here hx rfl (hb hby at_41) rfl ?_
    refine XS.land X7.here hx rfl (hb hby at_43) rfl ?_
    exact k
  obtain ⟨cl8, Ar8, qa8, Sa8, Na8, Ha8, Ga8⟩ := id V7
  have hin9 : ¬ ((3 : Int32) < 0 ∨ cl8.slots.size ≤ ((3 : Int32)).toNatClampNeg) := inb_of Sa8 ⟨by decide, by decide⟩
  obtain ⟨T9, h9, X9, e9, W9, st9⟩ := stJ X7 hx hZ e7 Ar8 (j := (3 : Int32)) hin9 (g := (mkF m 44 (LS_JsJsJsJsJsJsJsRuuuuuuuuu q0 q1 q2 q3 q4 q5 (36028797018963967 : Int64) b1) [(.long (q3 &&& (36028797018963967 : Int64))), (.int (3 : Int32)), (.ref b1)])) rfl rfl (hb hby at_44)
  have N9 := Fr.snoc X9 N7 g_b1
  have V9 : Arv Z h9 b1 k1 .long (7 : Int32) [(.long (q0 &&& (36028797018963967 : Int64))), (.long (q1 &&& (36028797018963967 : Int64))), (.long (q2 &&& (36028797018963967 : Int64))), (.long (q3 &&& (36028797018963967 : Int64))), (.long (0 : Int64)), (.long (0 : Int64)), (.long (0 : Int64))] (.long (0 : Int64)) := Arv.set Ar8 qa8 Sa8 Na8 Ha8 Ga8 rfl W9 3 rfl (Nat.le_of_ble_eq_true rfl)
  refine own_go (B := T9.setTop (mkF m 45 (LS_JsJsJsJsJsJsJsRuuuuuuuuu q0 q1 q2 q3 q4 q5 (36028797018963967 : Int64) b1) [])) (fun t k => st9 _ k) ?_
  refine own_go (B := T9.setTop (mkF m 53 (LS_JsJsJsJsJsJsJsRuuuuuuuuu q0 q1 q2 q3 q4 q5 (36028797018963967 : Int64) b1) [(.long (q4 &&& (36028797018963967 : Int64))), (.int (4 : Int32)), (.ref b1)])) (fun t k => ?_) ?_
  · refine XS.aload X9.here hx rfl (hb hby at_45) rfl rfl ?_
    refine XS.iconst X9.here hx rfl (hb hby at_47) ?_
    show Steps p.tables e below (T9.setTop (mkF m 48 (LS_JsJsJsJsJsJsJsRuuuuuuuuu q0 q1 q2 q3 q4 q5 (36028797018963967 : Int64) b1) [(.int (4 : Int32)), (.ref b1)])) _
    refine XS.lload X9.here hx rfl (hb hby at_48) rfl ?_
    refine XS.lload X9.here hx rfl (hb hby at_50) rfl ?_
    refine XS.land X9.here hx rfl (hb hby at_52) rfl ?_
    exact k
  obtain ⟨cl10, Ar10, qa10, Sa10, Na10, Ha10, Ga10⟩ := id V9
  have hin11 : ¬ ((4 : Int32) < 0 ∨ cl10.slots.size ≤ ((4 : Int32)).toNatClampNeg) := inb_of Sa10 ⟨by decide, by decide⟩
  obtain ⟨T11, h11, X11, e11, W11, st11⟩ := stJ X9 hx hZ e9 Ar10 (j := (4 : Int32)) hin11 (g := (mkF m 53 (LS_JsJsJsJsJsJsJsRuuuuuuuuu q0 q1 q2 q3 q4 q5 (36028797018963967 : Int64) b1) [(.long (q4 &&& (36028797018963967 : Int64))), (.int (4 : Int32)), (.ref b1)])) rfl rfl (hb hby at_53)
  have N11 := Fr.snoc X11 N9 g_b1
  have V11 : Arv Z h11 b1 k1 .long (7 : Int32) [(.long (q0 &&& (36028797018963967 : Int64))), (.long (q1 &&& (36028797018963967 : Int64))), (.long (q2 &&& (36028797018963967 : Int64))), (.long (q3 &&& (36028797018963967 : Int64))), (.long (q4 &&& (36028797018963967 : Int64))), (.long (0 : Int64)), (.long (0 : Int64))] (.long (0 : Int64)) := Arv.set Ar10 qa10 Sa10 Na10 Ha10 Ga10 rfl W11 4 rfl (Nat.le_of_ble_eq_true rfl)
  refine own_go (B := T11.setTop (mkF m 54 (LS_JsJsJsJsJsJsJsRuuuuuuuuu q0 q1 q2 q3 q4 q5 (36028797018963967 : Int64) b1) [])) (fun t k => st11 _ k) ?_
  refine own_go (B := T11.setTop (mkF m 62 (LS_JsJsJsJsJsJsJsRuuuuuuuuu q0 q1 q2 q3 q4 q5 (36028797018963967 : Int64) b1) [(.long (q5 &&& (36028797018963967 : Int64))), (.int (5 : Int32)), (.ref b1)])) (fun t k => ?_) ?_
  · refine XS.aload X11.here hx rfl (hb hby at_54) rfl rfl ?_
    refine XS.iconst X11.here hx rfl (hb hby at_56) ?_
    show Steps p.tables e below (T11.setTop (mkF m 57 (LS_JsJsJsJsJsJsJsRuuuuuuuuu q0 q1 q2 q3 q4 q5 (36028797018963967 : Int64) b1) [(.int (5 : Int32)), (.ref b1)])) _
    refine XS.lload X11.here hx rfl (hb hby at_57) rfl ?_
    refine XS.lload X11.here hx rfl (hb hby at_59) rfl ?_
    refine XS.land X11.here hx rfl (hb hby at_61) rfl ?_
    exact k
  obtain ⟨cl12, Ar12, qa12, Sa12, Na12, Ha12, Ga12⟩ := id V11
  have hin13 : ¬ ((5 : Int32) < 0 ∨ cl12.slots.size ≤ ((5 : Int32)).toNatClampNeg) := inb_of Sa12 ⟨by decide, by decide⟩
  obtain ⟨T13, h13, X13, e13, W13, st13⟩ := stJ X11 hx hZ e11 Ar12 (j := (5 : Int32)) hin13 (g := (mkF m 62 (LS_JsJsJsJsJsJsJsRuuuuuuuuu q0 q1 q2 q3 q4 q5 (36028797018963967 : Int64) b1) [(.long (q5 &&& (36028797018963967 : Int64))), (.int (5 : Int32)), (.ref b1)])) rfl rfl (hb hby at_62)
  have N13 := Fr.snoc X13 N11 g_b1
  have V13 : Arv Z h13 b1 k1 .long (7 : Int32) [(.long (q0 &&& (36028797018963967 : Int64))), (.long (q1 &&& (36028797018963967 : Int64))), (.long (q2 &&& (36028797018963967 : Int64))), (.long (q3 &&& (36028797018963967 : Int64))), (.long (q4 &&& (36028797018963967 : Int64))), (.long (q5 &&& (36028797018963967 : Int64))), (.long (0 : Int64))] (.long (0 : Int64)) := Arv.set Ar12 qa12 Sa12 Na12 Ha12 Ga12 rfl W13 5 rfl (Nat.le_of_ble_eq_true rfl)
  refine own_go (B := T13.setTop (mkF m 63 (LS_JsJsJsJsJsJsJsRuuuuuuuuu q0 q1 q2 q3 q4 q5 (36028797018963967 : Int64) b1) [])) (fun t k => st13 _ k) ?_
  refine own_go (B := T13.setTop (mkF m 119 (LS_JsJsJsJsJsJsJsRuuuuuuuuu q0 q1 q2 q3 q4 q5 (36028797018963967 : Int64) b1) [(.long (((((((q0.toUInt64 >>> ((55 : Int32) &&& 0x3f).toInt64.toUInt64).toInt64) ||| (((q1.toUInt64 >>> ((55 : Int32) &&& 0x3f).toInt64.toUInt64).toInt64) <<< ((9 : Int32) &&& 0x3f).toInt64)) ||| (((q2.toUInt64 >>> ((55 : Int32) &&& 0x3f).toInt64.toUInt64).toInt64) <<< ((18 : Int32) &&& 0x3f).toInt64)) ||| (((q3.toUInt64 >>> ((55 : Int32) &&& 0x3f).toInt64.toUInt64).toInt64) <<< ((27 : Int32) &&& 0x3f).toInt64)) ||| (((q4.toUInt64 >>> ((55 : Int32) &&& 0x3f).toInt64.toUInt64).toInt64) <<< ((36 : Int32) &&& 0x3f).toInt64)) ||| ((((q5.toUInt64 >>> ((55 : Int32) &&& 0x3f).toInt64.toUInt64).toInt64) &&& (63 : Int64)) <<< ((45 : Int32) &&& 0x3f).toInt64))), (.int (6 : Int32)), (.ref b1)])) (fun t k => ?_) ?_
  · refine XS.aload X13.here hx rfl (hb hby at_63) rfl rfl ?_
    refine XS.bipush X13.here hx rfl (hb hby at_65) ?_
    show Steps p.tables e below (T13.setTop (mkF m 67 (LS_JsJsJsJsJsJsJsRuuuuuuuuu q0 q1 q2 q3 q4 q5 (36028797018963967 : Int64) b1) [(.int (6 : Int32)), (.ref b1)])) _
    refine XS.lloadN X13.here hx rfl (hb hby at_67) rfl ?_
    refine XS.bipush X13.here hx rfl (hb hby at_68) ?_
    refine XS.lushr X13.here hx rfl (hb hby at_70) rfl ?_
    show Steps p.tables e below (T13.setTop (mkF m 71 (LS_JsJsJsJsJsJsJsRuuuuuuuuu q0 q1 q2 q3 q4 q5 (36028797018963967 : Int64) b1) [(.long ((q0.toUInt64 >>> ((55 : Int32) &&& 0x3f).toInt64.toUInt64).toInt64)), (.int (6 : Int32)), (.ref b1)])) _
    refine XS.lloadN X13.here hx rfl (hb hby at_71) rfl ?_
    refine XS.bipush X13.here hx rfl (hb hby at_72) ?_
    refine XS.lushr X13.here hx rfl (hb hby at_74) rfl ?_
    show Steps p.tables e below (T13.setTop (mkF m 75 (LS_JsJsJsJsJsJsJsRuuuuuuuuu q0 q1 q2 q3 q4 q5 (36028797018963967 : Int64) b1) [(.long ((q1.toUInt64 >>> ((55 : Int32) &&& 0x3f).toInt64.toUInt64).toInt64)), (.long ((q0.toUInt64 >>> ((55 : Int32) &&& 0x3f).toInt64.toUInt64).toInt64)), (.int (6 : Int32)), (.ref b1)])) _
    refine XS.bipush X13.here hx rfl (hb hby at_75) ?_
    refine XS.lshl X13.here hx rfl (hb hby at_77) rfl ?_
    refine XS.lor X13.here hx rfl (hb hby at_78) rfl ?_
    show Steps p.tables e below (T13.setTop (mkF m 79 (LS_JsJsJsJsJsJsJsRuuuuuuuuu q0 q1 q2 q3 q4 q5 (36028797018963967 : Int64) b1) [(.long (((q0.toUInt64 >>> ((55 : Int32) &&& 0x3f).toInt64.toUInt64).toInt64) ||| (((q1.toUInt64 >>> ((55 : Int32) &&& 0x3f).toInt64.toUInt64).toInt64) <<< ((9 : Int32) &&& 0x3f).toInt64))), (.int (6 : Int32)), (.ref b1)])) _
    refine XS.lload X13.here hx rfl (hb hby at_79) rfl ?_
    refine XS.bipush X13.here hx rfl (hb hby at_81) ?_
    refine XS.lushr X13.here hx rfl (hb hby at_83) rfl ?_
    show Steps p.tables e below (T13.setTop (mkF m 84 (LS_JsJsJsJsJsJsJsRuuuuuuuuu q0 q1 q2 q3 q4 q5 (36028797018963967 : Int64) b1) [(.long ((q2.toUInt64 >>> ((55 : Int32) &&& 0x3f).toInt64.toUInt64).toInt64)), (.long (((q0.toUInt64 >>> ((55 : Int32) &&& 0x3f).toInt64.toUInt64).toInt64) ||| (((q1.toUInt64 >>> ((55 : Int32) &&& 0x3f).toInt64.toUInt64).toInt64) <<< ((9 : Int32) &&& 0x3f).toInt64))), (.int (6 : Int32)), (.ref b1)])) _
    refine XS.bipush X13.here hx rfl (hb hby at_84) ?_
    refine XS.lshl X13.here hx rfl (hb hby at_86) rfl ?_
    refine XS.lor X13.here hx rfl (hb hby at_87) rfl ?_
    show Steps p.tables e below (T13.setTop (mkF m 88 (LS_JsJsJsJsJsJsJsRuuuuuuuuu q0 q1 q2 q3 q4 q5 (36028797018963967 : Int64) b1) [(.long ((((q0.toUInt64 >>> ((55 : Int32) &&& 0x3f).toInt64.toUInt64).toInt64) ||| (((q1.toUInt64 >>> ((55 : Int32) &&& 0x3f).toInt64.toUInt64).toInt64) <<< ((9 : Int32) &&& 0x3f).toInt64)) ||| (((q2.toUInt64 >>> ((55 : Int32) &&& 0x3f).toInt64.toUInt64).toInt64) <<< ((18 : Int32) &&& 0x3f).toInt64))), (.int (6 : Int32)), (.ref b1)])) _
    refine XS.lload X13.here hx rfl (hb hby at_88) rfl ?_
    refine XS.bipush X13.here hx rfl (hb hby at_90) ?_
    refine XS.lushr X13.here hx rfl (hb hby at_92) rfl ?_
    show Steps p.tables e below (T13.setTop (mkF m 93 (LS_JsJsJsJsJsJsJsRuuuuuuuuu q0 q1 q2 q3 q4 q5 (36028797018963967 : Int64) b1) [(.long ((q3.toUInt64 >>> ((55 : Int32) &&& 0x3f).toInt64.toUInt64).toInt64)), (.long ((((q0.toUInt64 >>> ((55 : Int32) &&& 0x3f).toInt64.toUInt64).toInt64) ||| (((q1.toUInt64 >>> ((55 : Int32) &&& 0x3f).toInt64.toUInt64).toInt64) <<< ((9 : Int32) &&& 0x3f).toInt64)) ||| (((q2.toUInt64 >>> ((55 : Int32) &&& 0x3f).toInt64.toUInt64).toInt64) <<< ((18 : Int32) &&& 0x3f).toInt64))), (.int (6 : Int32)), (.ref b1)])) _
    refine XS.bipush X13.here hx rfl (hb hby at_93) ?_
    refine XS.lshl X13.here hx rfl (hb hby at_95) rfl ?_
    refine XS.lor X13.here hx rfl (hb hby at_96) rfl ?_
    show Steps p.tables e below (T13.setTop (mkF m 97 (LS_JsJsJsJsJsJsJsRuuuuuuuuu q0 q1 q2 q3 q4 q5 (36028797018963967 : Int64) b1) [(.long (((((q0.toUInt64 >>> ((55 : Int32) &&& 0x3f).toInt64.toUInt64).toInt64) ||| (((q1.toUInt64 >>> ((55 : Int32) &&& 0x3f).toInt64.toUInt64).toInt64) <<< ((9 : Int32) &&& 0x3f).toInt64)) ||| (((q2.toUInt64 >>> ((55 : Int32) &&& 0x3f).toInt64.toUInt64).toInt64) <<< ((18 : Int32) &&& 0x3f).toInt64)) ||| (((q3.toUInt64 >>> ((55 : Int32) &&& 0x3f).toInt64.toUInt64).toInt64) <<< ((27 : Int32) &&& 0x3f).toInt64))), (.int (6 : Int32)), (.ref b1)])) _
    refine XS.lload X13.here hx rfl (hb hby at_97) rfl ?_
    refine XS.bipush X13.here hx rfl (hb hby at_99) ?_
    refine XS.lushr X13.here hx rfl (hb hby at_101) rfl ?_
    show Steps p.tables e below (T13.setTop (mkF m 102 (LS_JsJsJsJsJsJsJsRuuuuuuuuu q0 q1 q2 q3 q4 q5 (36028797018963967 : Int64) b1) [(.long ((q4.toUInt64 >>> ((55 : Int32) &&& 0x3f).toInt64.toUInt64).toInt64)), (.long (((((q0.toUInt64 >>> ((55 : Int32) &&& 0x3f).toInt64.toUInt64).toInt64) ||| (((q1.toUInt64 >>> ((55 : Int32) &&& 0x3f).toInt64.toUInt64).toInt64) <<< ((9 : Int32) &&& 0x3f).toInt64)) ||| (((q2.toUInt64 >>> ((55 : Int32) &&& 0x3f).toInt64.toUInt64).toInt64) <<< ((18 : Int32) &&& 0x3f).toInt64)) ||| (((q3.toUInt64 >>> ((55 : Int32) &&& 0x3f).toInt64.toUInt64).toInt64) <<< ((27 : Int32) &&& 0x3f).toInt64))), (.int (6 : Int32)), (.ref b1)])) _
    refine XS.bipush X13.here hx rfl (hb hby at_102) ?_
    refine XS.lshl X13.here hx rfl (hb hby at_104) rfl ?_
    refine XS.lor X13.here hx rfl (hb hby at_105) rfl ?_
    show Steps p.tables e below (T13.setTop (mkF m 106 (LS_JsJsJsJsJsJsJsRuuuuuuuuu q0 q1 q2 q3 q4 q5 (36028797018963967 : Int64) b1) [(.long ((((((q0.toUInt64 >>> ((55 : Int32) &&& 0x3f).toInt64.toUInt64).toInt64) ||| (((q1.toUInt64 >>> ((55 : Int32) &&& 0x3f).toInt64.toUInt64).toInt64) <<< ((9 : Int32) &&& 0x3f).toInt64)) ||| (((q2.toUInt64 >>> ((55 : Int32) &&& 0x3f).toInt64.toUInt64).toInt64) <<< ((18 : Int32) &&& 0x3f).toInt64)) ||| (((q3.toUInt64 >>> ((55 : Int32) &&& 0x3f).toInt64.toUInt64).toInt64) <<< ((27 : Int32) &&& 0x3f).toInt64)) ||| (((q4.toUInt64 >>> ((55 : Int32) &&& 0x3f).toInt64.toUInt64).toInt64) <<< ((36 : Int32) &&& 0x3f).toInt64))), (.int (6 : Int32)), (.ref b1)])) _
    refine XS.lload X13.here hx rfl (hb hby at_106) rfl ?_
    refine XS.bipush X13.here hx rfl (hb hby at_108) ?_
    refine XS.lushr X13.here hx rfl (hb hby at_110) rfl ?_
    show Steps p.tables e below (T13.setTop (mkF m 111 (LS_JsJsJsJsJsJsJsRuuuuuuuuu q0 q1 q2 q3 q4 q5 (36028797018963967 : Int64) b1) [(.long ((q5.toUInt64 >>> ((55 : Int32) &&& 0x3f).toInt64.toUInt64).toInt64)), (.long ((((((q0.toUInt64 >>> ((55 : Int32) &&& 0x3f).toInt64.toUInt64).toInt64) ||| (((q1.toUInt64 >>> ((55 : Int32) &&& 0x3f).toInt64.toUInt64).toInt64) <<< ((9 : Int32) &&& 0x3f).toInt64)) ||| (((q2.toUInt64 >>> ((55 : Int32) &&& 0x3f).toInt64.toUInt64).toInt64) <<< ((18 : Int32) &&& 0x3f).toInt64)) ||| (((q3.toUInt64 >>> ((55 : Int32) &&& 0x3f).toInt64.toUInt64).toInt64) <<< ((27 : Int32) &&& 0x3f).toInt64)) ||| (((q4.toUInt64 >>> ((55 : Int32) &&& 0x3f).toInt64.toUInt64).toInt64) <<< ((36 : Int32) &&& 0x3f).toInt64))), (.int (6 : Int32)), (.ref b1)])) _
    refine X13.ldc2Long hx hown (mvT hZ (hw _ (List.mem_of_getElem? (i := 2) rfl))) (g := (mkF m 111 (LS_JsJsJsJsJsJsJsRuuuuuuuuu q0 q1 q2 q3 q4 q5 (36028797018963967 : Int64) b1) [(.long ((q5.toUInt64 >>> ((55 : Int32) &&& 0x3f).toInt64.toUInt64).toInt64)), (.long ((((((q0.toUInt64 >>> ((55 : Int32) &&& 0x3f).toInt64.toUInt64).toInt64) ||| (((q1.toUInt64 >>> ((55 : Int32) &&& 0x3f).toInt64.toUInt64).toInt64) <<< ((9 : Int32) &&& 0x3f).toInt64)) ||| (((q2.toUInt64 >>> ((55 : Int32) &&& 0x3f).toInt64.toUInt64).toInt64) <<< ((18 : Int32) &&& 0x3f).toInt64)) ||| (((q3.toUInt64 >>> ((55 : Int32) &&& 0x3f).toInt64.toUInt64).toInt64) <<< ((27 : Int32) &&& 0x3f).toInt64)) ||| (((q4.toUInt64 >>> ((55 : Int32) &&& 0x3f).toInt64.toUInt64).toInt64) <<< ((36 : Int32) &&& 0x3f).toInt64))), (.int (6 : Int32)), (.ref b1)])) rfl (hb hby at_111) _ ?_
    refine XS.land X13.here hx rfl (hb hby at_114) rfl ?_
    refine XS.bipush X13.here hx rfl (hb hby at_115) ?_
    show Steps p.tables e below (T13.setTop (mkF m 117 (LS_JsJsJsJsJsJsJsRuuuuuuuuu q0 q1 q2 q3 q4 q5 (36028797018963967 : Int64) b1) [(.int (45 : Int32)), (.long (((q5.toUInt64 >>> ((55 : Int32) &&& 0x3f).toInt64.toUInt64).toInt64) &&& (63 : Int64))), (.long ((((((q0.toUInt64 >>> ((55 : Int32) &&& 0x3f).toInt64.toUInt64).toInt64) ||| (((q1.toUInt64 >>> ((55 : Int32) &&& 0x3f).toInt64.toUInt64).toInt64) <<< ((9 : Int32) &&& 0x3f).toInt64)) ||| (((q2.toUInt64 >>> ((55 : Int32) &&& 0x3f).toInt64.toUInt64).toInt64) <<< ((18 : Int32) &&& 0x3f).toInt64)) ||| (((q3.toUInt64 >>> ((55 : Int32) &&& 0x3f).toInt64.toUInt64).toInt64) <<< ((27 : Int32) &&& 0x3f).toInt64)) ||| (((q4.toUInt64 >>> ((55 : Int32) &&& 0x3f).toInt64.toUInt64).toInt64) <<< ((36 : Int32) &&& 0x3f).toInt64))), (.int (6 : Int32)), (.ref b1)])) _
    refine XS.lshl X13.here hx rfl (hb hby at_117) rfl ?_
    refine XS.lor X13.here hx rfl (hb hby at_118) rfl ?_
    exact k
  obtain ⟨cl14, Ar14, qa14, Sa14, Na14, Ha14, Ga14⟩ := id V13
  have hin15 : ¬ ((6 : Int32) < 0 ∨ cl14.slots.size ≤ ((6 : Int32)).toNatClampNeg) := inb_of Sa14 ⟨by decide, by decide⟩
  obtain ⟨T15, h15, X15, e15, W15, st15⟩ := stJ X13 hx hZ e13 Ar14 (j := (6 : Int32)) hin15 (g := (mkF m 119 (LS_JsJsJsJsJsJsJsRuuuuuuuuu q0 q1 q2 q3 q4 q5 (36028797018963967 : Int64) b1) [(.long (((((((q0.toUInt64 >>> ((55 : Int32) &&& 0x3f).toInt64.toUInt64).toInt64) ||| (((q1.toUInt64 >>> ((55 : Int32) &&& 0x3f).toInt64.toUInt64).toInt64) <<< ((9 : Int32) &&& 0x3f).toInt64)) ||| (((q2.toUInt64 >>> ((55 : Int32) &&& 0x3f).toInt64.toUInt64).toInt64) <<< ((18 : Int32) &&& 0x3f).toInt64)) ||| (((q3.toUInt64 >>> ((55 : Int32) &&& 0x3f).toInt64.toUInt64).toInt64) <<< ((27 : Int32) &&& 0x3f).toInt64)) ||| (((q4.toUInt64 >>> ((55 : Int32) &&& 0x3f).toInt64.toUInt64).toInt64) <<< ((36 : Int32) &&& 0x3f).toInt64)) ||| ((((q5.toUInt64 >>> ((55 : Int32) &&& 0x3f).toInt64.toUInt64).toInt64) &&& (63 : Int64)) <<< ((45 : Int32) &&& 0x3f).toInt64))), (.int (6 : Int32)), (.ref b1)])) rfl rfl (hb hby at_119)
  have N15 := Fr.snoc X15 N13 g_b1
  have V15 : Arv Z h15 b1 k1 .long (7 : Int32) [(.long (q0 &&& (36028797018963967 : Int64))), (.long (q1 &&& (36028797018963967 : Int64))), (.long (q2 &&& (36028797018963967 : Int64))), (.long (q3 &&& (36028797018963967 : Int64))), (.long (q4 &&& (36028797018963967 : Int64))), (.long (q5 &&& (36028797018963967 : Int64))), (.long (((((((q0.toUInt64 >>> ((55 : Int32) &&& 0x3f).toInt64.toUInt64).toInt64) ||| (((q1.toUInt64 >>> ((55 : Int32) &&& 0x3f).toInt64.toUInt64).toInt64) <<< ((9 : Int32) &&& 0x3f).toInt64)) ||| (((q2.toUInt64 >>> ((55 : Int32) &&& 0x3f).toInt64.toUInt64).toInt64) <<< ((18 : Int32) &&& 0x3f).toInt64)) ||| (((q3.toUInt64 >>> ((55 : Int32) &&& 0x3f).toInt64.toUInt64).toInt64) <<< ((27 : Int32) &&& 0x3f).toInt64)) ||| (((q4.toUInt64 >>> ((55 : Int32) &&& 0x3f).toInt64.toUInt64).toInt64) <<< ((36 : Int32) &&& 0x3f).toInt64)) ||| ((((q5.toUInt64 >>> ((55 : Int32) &&& 0x3f).toInt64.toUInt64).toInt64) &&& (63 : Int64)) <<< ((45 : Int32) &&& 0x3f).toInt64)))] (.long (0 : Int64)) := Arv.set Ar14 qa14 Sa14 Na14 Ha14 Ga14 rfl W15 6 rfl (Nat.le_of_ble_eq_true rfl)
  refine own_go (B := T15.setTop (mkF m 120 (LS_JsJsJsJsJsJsJsRuuuuuuuuu q0 q1 q2 q3 q4 q5 (36028797018963967 : Int64) b1) [])) (fun t k => st15 _ k) ?_
  obtain ⟨x0, ex0⟩ : ∃ z, z = (q0 &&& (36028797018963967 : Int64)) := ⟨_, rfl⟩
  obtain ⟨x1, ex1⟩ : ∃ z, z = (q1 &&& (36028797018963967 : Int64)) := ⟨_, rfl⟩
  obtain ⟨x2, ex2⟩ : ∃ z, z = (q2 &&& (36028797018963967 : Int64)) := ⟨_, rfl⟩
  obtain ⟨x3, ex3⟩ : ∃ z, z = (q3 &&& (36028797018963967 : Int64)) := ⟨_, rfl⟩
  obtain ⟨x4, ex4⟩ : ∃ z, z = (q4 &&& (36028797018963967 : Int64)) := ⟨_, rfl⟩
  obtain ⟨x5, ex5⟩ : ∃ z, z = (q5 &&& (36028797018963967 : Int64)) := ⟨_, rfl⟩
  obtain ⟨x6, ex6⟩ : ∃ z, z = (((((((q0.toUInt64 >>> ((55 : Int32) &&& 0x3f).toInt64.toUInt64).toInt64) ||| (((q1.toUInt64 >>> ((55 : Int32) &&& 0x3f).toInt64.toUInt64).toInt64) <<< ((9 : Int32) &&& 0x3f).toInt64)) ||| (((q2.toUInt64 >>> ((55 : Int32) &&& 0x3f).toInt64.toUInt64).toInt64) <<< ((18 : Int32) &&& 0x3f).toInt64)) ||| (((q3.toUInt64 >>> ((55 : Int32) &&& 0x3f).toInt64.toUInt64).toInt64) <<< ((27 : Int32) &&& 0x3f).toInt64)) ||| (((q4.toUInt64 >>> ((55 : Int32) &&& 0x3f).toInt64.toUInt64).toInt64) <<< ((36 : Int32) &&& 0x3f).toInt64)) ||| ((((q5.toUInt64 >>> ((55 : Int32) &&& 0x3f).toInt64.toUInt64).toInt64) &&& (63 : Int64)) <<< ((45 : Int32) &&& 0x3f).toInt64)) := ⟨_, rfl⟩
  have Vx : Arv Z h15 b1 k1 .long (7 : Int32) [(.long x0), (.long x1), (.long x2), (.long x3), (.long x4), (.long x5), (.long x6)] (.long (0 : Int64)) := by rw [ex0, ex1, ex2, ex3, ex4, ex5, ex6]; exact V15
  have bx0 : (0 ≤ (x0).toInt ∧ (x0).toInt < 36028797018963968) := by rw [ex0]; exact own_mrng _
  have bx1 : (0 ≤ (x1).toInt ∧ (x1).toInt < 36028797018963968) := by rw [ex1]; exact own_mrng _
  have bx2 : (0 ≤ (x2).toInt ∧ (x2).toInt < 36028797018963968) := by rw [ex2]; exact own_mrng _
  have bx3 : (0 ≤ (x3).toInt ∧ (x3).toInt < 36028797018963968) := by rw [ex3]; exact own_mrng _
  have bx4 : (0 ≤ (x4).toInt ∧ (x4).toInt < 36028797018963968) := by rw [ex4]; exact own_mrng _
  have bx5 : (0 ≤ (x5).toInt ∧ (x5).toInt < 36028797018963968) := by rw [ex5]; exact own_mrng _
  have tx : 0 ≤ x6.toInt ∧ x6.toInt < 2251799813685248 := by rw [ex6]; exact own_toInt51 (own_orlt (own_orlt (own_orlt (own_orlt (own_orlt (Nat.lt_trans (own_hi _) (by decide)) (own_shl (own_hi _) (k := 9) (by decide) (by decide))) (own_shl (own_hi _) (k := 18) (by decide) (by decide))) (own_shl (own_hi _) (k := 27) (by decide) (by decide))) (own_shl (own_hi _) (k := 36) (by decide) (by decide))) (own_shl (own_and6 _) (k := 45) (by decide) (by decide)))
  have bx6 : (0 ≤ (x6).toInt ∧ (x6).toInt < 36028797018963968) := ⟨tx.1, Int.lt_trans tx.2 (by decide)⟩
  have tx6 : x6.toInt < 9007199254740992 := Int.lt_trans tx.2 (by decide)
  refine own_go (B := T15.setTop (mkF m 128 (LS_JsJsJsJsJsJsJsRIuuuuuuuu q0 q1 q2 q3 q4 q5 (36028797018963967 : Int64) b1 (((q5.toUInt64 >>> ((61 : Int32) &&& 0x3f).toInt64.toUInt64).toInt64).toInt32)) [])) (fun t k => ?_) ?_
  · refine XS.lload X15.here hx rfl (hb hby at_120) rfl ?_
    refine XS.bipush X15.here hx rfl (hb hby at_122) ?_
    show Steps p.tables e below (T15.setTop (mkF m 124 (LS_JsJsJsJsJsJsJsRuuuuuuuuu q0 q1 q2 q3 q4 q5 (36028797018963967 : Int64) b1) [(.int (61 : Int32)), (.long q5)])) _
    refine XS.lushr X15.here hx rfl (hb hby at_124) rfl ?_
    refine XS.l2i X15.here hx rfl (hb hby at_125) rfl ?_
    refine XS.istore X15.here hx rfl (hb hby at_126) rfl (l' := (LS_JsJsJsJsJsJsJsRIuuuuuuuu q0 q1 q2 q3 q4 q5 (36028797018963967 : Int64) b1 (((q5.toUInt64 >>> ((61 : Int32) &&& 0x3f).toInt64.toUInt64).toInt64).toInt32))) rfl ?_
    exact k
  refine own_join X15 N15 (ι := Int32) (fun i16 T' => T'.heap = h15 ∧ (i16 = (0 : Int32) ∨ i16 = (1 : Int32))) (fun i16 => mkF m 140 (LS_JsJsJsJsJsJsJsRIuuuuuuuu q0 q1 q2 q3 q4 q5 (36028797018963967 : Int64) b1 (((q5.toUInt64 >>> ((61 : Int32) &&& 0x3f).toInt64.toUInt64).toInt64).toInt32)) [(.int i16)]) ?_ ?_
  · intro fA T16 lc16 X16 N16 hi16
    obtain ⟨e16, phi16⟩ := hi16
    refine own_go (B := T16.setTop (mkF m 142 (LS_JsJsJsJsJsJsJsRIIuuuuuuu q0 q1 q2 q3 q4 q5 (36028797018963967 : Int64) b1 (((q5.toUInt64 >>> ((61 : Int32) &&& 0x3f).toInt64.toUInt64).toInt64).toInt32) fA) [])) (fun t k => ?_) ?_
    · refine XS.istore X16.here hx rfl (hb hby at_140) rfl (l' := (LS_JsJsJsJsJsJsJsRIIuuuuuuu q0 q1 q2 q3 q4 q5 (36028797018963967 : Int64) b1 (((q5.toUInt64 >>> ((61 : Int32) &&& 0x3f).toInt64.toUInt64).toInt64).toInt32) fA)) rfl ?_
      exact k
    refine own_join X16 N16 (ι := Int32) (fun i17 T' => T'.heap = h15 ∧ (i17 = (0 : Int32) ∨ i17 = (1 : Int32))) (fun i17 => mkF m 154 (LS_JsJsJsJsJsJsJsRIIuuuuuuu q0 q1 q2 q3 q4 q5 (36028797018963967 : Int64) b1 (((q5.toUInt64 >>> ((61 : Int32) &&& 0x3f).toInt64.toUInt64).toInt64).toInt32) fA) [(.int i17)]) ?_ ?_
    · intro fB T17 lc17 X17 N17 hi17
      obtain ⟨e17, phi17⟩ := hi17
      refine own_go (B := T17.setTop (mkF m 156 (LS_JsJsJsJsJsJsJsRIIIuuuuuu q0 q1 q2 q3 q4 q5 (36028797018963967 : Int64) b1 (((q5.toUInt64 >>> ((61 : Int32) &&& 0x3f).toInt64.toUInt64).toInt64).toInt32) fA fB) [])) (fun t k => ?_) ?_
      · refine XS.istore X17.here hx rfl (hb hby at_154) rfl (l' := (LS_JsJsJsJsJsJsJsRIIIuuuuuu q0 q1 q2 q3 q4 q5 (36028797018963967 : Int64) b1 (((q5.toUInt64 >>> ((61 : Int32) &&& 0x3f).toInt64.toUInt64).toInt64).toInt32) fA fB)) rfl ?_
        exact k
      refine own_join X17 N17 (ι := Int32) (fun i18 T' => T'.heap = h15 ∧ (i18 = (0 : Int32) ∨ i18 = (1 : Int32))) (fun i18 => mkF m 168 (LS_JsJsJsJsJsJsJsRIIIuuuuuu q0 q1 q2 q3 q4 q5 (36028797018963967 : Int64) b1 (((q5.toUInt64 >>> ((61 : Int32) &&& 0x3f).toInt64.toUInt64).toInt64).toInt32) fA fB) [(.int i18)]) ?_ ?_
      · intro fP T18 lc18 X18 N18 hi18
        obtain ⟨e18, phi18⟩ := hi18
        obtain ⟨cl19, Ar19, qa19, Sa19, Na19, Ha19, Ga19⟩ := id Vx
        have hin20 : ¬ ((6 : Int32) < 0 ∨ cl19.slots.size ≤ ((6 : Int32)).toNatClampNeg) := inb_of Sa19 ⟨by decide, by decide⟩
        have hat20 : cl19.slots[((6 : Int32)).toNatClampNeg]? = some (.long x6) := Has.at Ha19 hin20 rfl
        refine own_go (B := T18.setTop (mkF m 182 (LS_JsJsJsJsJsJsJsRIIIIIuuuu q0 q1 q2 q3 q4 q5 (36028797018963967 : Int64) b1 (((q5.toUInt64 >>> ((61 : Int32) &&& 0x3f).toInt64.toUInt64).toInt64).toInt32) fA fB fP ((x6 - (x6 / (7 : Int64)) * (7 : Int64)).toInt32)) [])) (fun t k => ?_) ?_
        · refine XS.istore X18.here hx rfl (hb hby at_168) rfl (l' := (LS_JsJsJsJsJsJsJsRIIIIuuuuu q0 q1 q2 q3 q4 q5 (36028797018963967 : Int64) b1 (((q5.toUInt64 >>> ((61 : Int32) &&& 0x3f).toInt64.toUInt64).toInt64).toInt32) fA fB fP)) rfl ?_
          refine XS.aload X18.here hx rfl (hb hby at_170) rfl rfl ?_
          show Steps p.tables e below (T18.setTop (mkF m 172 (LS_JsJsJsJsJsJsJsRIIIIuuuuu q0 q1 q2 q3 q4 q5 (36028797018963967 : Int64) b1 (((q5.toUInt64 >>> ((61 : Int32) &&& 0x3f).toInt64.toUInt64).toInt64).toInt32) fA fB fP) [(.ref b1)])) _
          refine XS.bipush X18.here hx rfl (hb hby at_172) ?_
          refine X18.laload hx (j := (6 : Int32)) (v := (.long x6)) (by rw [e18]; exact Ar19.1) (State.isArrayOf_alike hZ.alike Ar19.2.1) Ar19.2.2 hin20 hat20 (g := (mkF m 174 (LS_JsJsJsJsJsJsJsRIIIIuuuuu q0 q1 q2 q3 q4 q5 (36028797018963967 : Int64) b1 (((q5.toUInt64 >>> ((61 : Int32) &&& 0x3f).toInt64.toUInt64).toInt64).toInt32) fA fB fP) [(.int (6 : Int32)), (.ref b1)])) rfl rfl (hb hby at_174) _ ?_
          refine X18.ldc2Long hx hown (mvT hZ (hw _ (List.mem_of_getElem? (i := 3) rfl))) (g := (mkF m 175 (LS_JsJsJsJsJsJsJsRIIIIuuuuu q0 q1 q2 q3 q4 q5 (36028797018963967 : Int64) b1 (((q5.toUInt64 >>> ((61 : Int32) &&& 0x3f).toInt64.toUInt64).toInt64).toInt32) fA fB fP) [(.long x6)])) rfl (hb hby at_175) _ ?_
          show Steps p.tables e below (T18.setTop (mkF m 178 (LS_JsJsJsJsJsJsJsRIIIIuuuuu q0 q1 q2 q3 q4 q5 (36028797018963967 : Int64) b1 (((q5.toUInt64 >>> ((61 : Int32) &&& 0x3f).toInt64.toUInt64).toInt64).toInt32) fA fB fP) [(.long (7 : Int64)), (.long x6)])) _
          refine XS.lrem X18.here hx rfl (hb hby at_178) rfl (by decide) ?_
          refine XS.l2i X18.here hx rfl (hb hby at_179) rfl ?_
          refine XS.istore X18.here hx rfl (hb hby at_180) rfl (l' := (LS_JsJsJsJsJsJsJsRIIIIIuuuu q0 q1 q2 q3 q4 q5 (36028797018963967 : Int64) b1 (((q5.toUInt64 >>> ((61 : Int32) &&& 0x3f).toInt64.toUInt64).toInt64).toInt32) fA fB fP ((x6 - (x6 / (7 : Int64)) * (7 : Int64)).toInt32))) rfl ?_
          exact k
        obtain ⟨z21, hz21⟩ : ∃ z, z = ((x6 - (x6 / (7 : Int64)) * (7 : Int64)).toInt32) := ⟨_, rfl⟩
        refine own_go (B := T18.setTop (mkF m 182 (LS_JsJsJsJsJsJsJsRIIIIIuuuu q0 q1 q2 q3 q4 q5 (36028797018963967 : Int64) b1 (((q5.toUInt64 >>> ((61 : Int32) &&& 0x3f).toInt64.toUInt64).toInt64).toInt32) fA fB fP z21) [])) (fun t k => by rw [hz21] at k; exact k) ?_
        refine own_go (B := T18.setTop (mkF m 184 (LS_JsJsJsJsJsJsJsRIIIIIuuuu q0 q1 q2 q3 q4 q5 (36028797018963967 : Int64) b1 (((q5.toUInt64 >>> ((61 : Int32) &&& 0x3f).toInt64.toUInt64).toInt64).toInt32) fA fB fP z21) [(.int (7 : Int32))])) (fun t k => ?_) ?_
        · refine XS.bipush X18.here hx rfl (hb hby at_182) ?_
          exact k
        obtain ⟨T22, h22, k22, X22, e22, E22, A22, st22⟩ := newP X18 hx hZ (hw _ (List.mem_of_getElem? (i := 1) rfl)) e18 (g := (mkF m 184 (LS_JsJsJsJsJsJsJsRIIIIIuuuu q0 q1 q2 q3 q4 q5 (36028797018963967 : Int64) b1 (((q5.toUInt64 >>> ((61 : Int32) &&& 0x3f).toInt64.toUInt64).toInt64).toInt32) fA fB fP z21) [(.int (7 : Int32))])) rfl (hb hby at_184) rfl (by decide) (cap := 7) (by decide) (by decide) (by decide) (by decide)
        obtain ⟨b22, g22⟩ : ∃ z, z = h15.size := ⟨_, rfl⟩
        rw [← g22] at A22 st22
        have Z0_v23 := Nat.le_trans Z0 E1.1
        have Z0_v24 := Nat.le_trans Z0_v23 (Nat.le_of_eq W3.size.symm)
        have Z0_v25 := Nat.le_trans Z0_v24 (Nat.le_of_eq W5.size.symm)
        have Z0_v26 := Nat.le_trans Z0_v25 (Nat.le_of_eq W7.size.symm)
        have Z0_v27 := Nat.le_trans Z0_v26 (Nat.le_of_eq W9.size.symm)
        have Z0_v28 := Nat.le_trans Z0_v27 (Nat.le_of_eq W11.size.symm)
        have Z0_v29 := Nat.le_trans Z0_v28 (Nat.le_of_eq W13.size.symm)
        have Z0_v30 := Nat.le_trans Z0_v29 (Nat.le_of_eq W15.size.symm)
        have g_b22 : n0 ≤ b22 := Nat.le_trans Z0_v30 (Nat.le_of_eq g22.symm)
        have V22 : Arv Z h22 b22 k22 .long (7 : Int32) [(.long (0 : Int64)), (.long (0 : Int64)), (.long (0 : Int64)), (.long (0 : Int64)), (.long (0 : Int64)), (.long (0 : Int64)), (.long (0 : Int64))] (.long (0 : Int64)) := (Arv.new A22 (by decide)).pad (pad_rep [] (.long (0 : Int64)) 7)
        refine own_go (B := T22.setTop (mkF m 186 (LS_JsJsJsJsJsJsJsRIIIIIuuuu q0 q1 q2 q3 q4 q5 (36028797018963967 : Int64) b1 (((q5.toUInt64 >>> ((61 : Int32) &&& 0x3f).toInt64.toUInt64).toInt64).toInt32) fA fB fP z21) [(.ref b22)])) (fun t k => st22 _ k) ?_
        have Vx_v32 := Vx.ext E22
        obtain ⟨cl31, Ar31, qa31, Sa31, Na31, Ha31, Ga31⟩ := id Vx_v32
        have hin33 : ¬ ((0 : Int32) < 0 ∨ cl31.slots.size ≤ ((0 : Int32)).toNatClampNeg) := inb_of Sa31 ⟨by decide, by decide⟩
        have hat33 : cl31.slots[((0 : Int32)).toNatClampNeg]? = some (.long x0) := Has.at Ha31 hin33 rfl
        refine own_go (B := T22.setTop (mkF m 195 (LS_JsJsJsJsJsJsJsRIIIIIRuuu q0 q1 q2 q3 q4 q5 (36028797018963967 : Int64) b1 (((q5.toUInt64 >>> ((61 : Int32) &&& 0x3f).toInt64.toUInt64).toInt64).toInt32) fA fB fP z21 b22) [(.long x0), (.int (0 : Int32)), (.ref b22)])) (fun t k => ?_) ?_
        · refine XS.astore X22.here hx rfl (hb hby at_186) rfl rfl (l' := (LS_JsJsJsJsJsJsJsRIIIIIRuuu q0 q1 q2 q3 q4 q5 (36028797018963967 : Int64) b1 (((q5.toUInt64 >>> ((61 : Int32) &&& 0x3f).toInt64.toUInt64).toInt64).toInt32) fA fB fP z21 b22)) rfl ?_
          refine XS.aload X22.here hx rfl (hb hby at_188) rfl rfl ?_
          show Steps p.tables e below (T22.setTop (mkF m 190 (LS_JsJsJsJsJsJsJsRIIIIIRuuu q0 q1 q2 q3 q4 q5 (36028797018963967 : Int64) b1 (((q5.toUInt64 >>> ((61 : Int32) &&& 0x3f).toInt64.toUInt64).toInt64).toInt32) fA fB fP z21 b22) [(.ref b22)])) _
          refine XS.iconst X22.here hx rfl (hb hby at_190) ?_
          refine XS.aload X22.here hx rfl (hb hby at_191) rfl rfl ?_
          refine XS.iconst X22.here hx rfl (hb hby at_193) ?_
          show Steps p.tables e below (T22.setTop (mkF m 194 (LS_JsJsJsJsJsJsJsRIIIIIRuuu q0 q1 q2 q3 q4 q5 (36028797018963967 : Int64) b1 (((q5.toUInt64 >>> ((61 : Int32) &&& 0x3f).toInt64.toUInt64).toInt64).toInt32) fA fB fP z21 b22) [(.int (0 : Int32)), (.ref b1), (.int (0 : Int32)), (.ref b22)])) _
          refine X22.laload hx (j := (0 : Int32)) (v := (.long x0)) (by rw [e22]; exact Ar31.1) (State.isArrayOf_alike hZ.alike Ar31.2.1) Ar31.2.2 hin33 hat33 (g := (mkF m 194 (LS_JsJsJsJsJsJsJsRIIIIIRuuu q0 q1 q2 q3 q4 q5 (36028797018963967 : Int64) b1 (((q5.toUInt64 >>> ((61 : Int32) &&& 0x3f).toInt64.toUInt64).toInt64).toInt32) fA fB fP z21 b22) [(.int (0 : Int32)), (.ref b1), (.int (0 : Int32)), (.ref b22)])) rfl rfl (hb hby at_194) _ ?_
          exact k
        obtain ⟨cl34, Ar34, qa34, Sa34, Na34, Ha34, Ga34⟩ := id V22
        have hin35 : ¬ ((0 : Int32) < 0 ∨ cl34.slots.size ≤ ((0 : Int32)).toNatClampNeg) := inb_of Sa34 ⟨by decide, by decide⟩
        obtain ⟨T35, h35, X35, e35, W35, st35⟩ := stJ X22 hx hZ e22 Ar34 (j := (0 : Int32)) hin35 (g := (mkF m 195 (LS_JsJsJsJsJsJsJsRIIIIIRuuu q0 q1 q2 q3 q4 q5 (36028797018963967 : Int64) b1 (((q5.toUInt64 >>> ((61 : Int32) &&& 0x3f).toInt64.toUInt64).toInt64).toInt32) fA fB fP z21 b22) [(.long x0), (.int (0 : Int32)), (.ref b22)])) rfl rfl (hb hby at_195)
        have N35 := Fr.snoc X35 N18 g_b22
        have V35 : Arv Z h35 b22 k22 .long (7 : Int32) [(.long x0), (.long (0 : Int64)), (.long (0 : Int64)), (.long (0 : Int64)), (.long (0 : Int64)), (.long (0 : Int64)), (.long (0 : Int64))] (.long (0 : Int64)) := Arv.set Ar34 qa34 Sa34 Na34 Ha34 Ga34 rfl W35 0 rfl (Nat.le_of_ble_eq_true rfl)
        refine own_go (B := T35.setTop (mkF m 196 (LS_JsJsJsJsJsJsJsRIIIIIRuuu q0 q1 q2 q3 q4 q5 (36028797018963967 : Int64) b1 (((q5.toUInt64 >>> ((61 : Int32) &&& 0x3f).toInt64.toUInt64).toInt64).toInt32) fA fB fP z21 b22) [])) (fun t k => st35 _ k) ?_
        have ne38 : b1 ≠ b22 := Nat.ne_of_lt (Nat.lt_of_lt_of_le Vx.lt (Nat.le_of_eq g22.symm))
        have Vx_v37 := Vx_v32.other W35 ne38
        obtain ⟨cl36, Ar36, qa36, Sa36, Na36, Ha36, Ga36⟩ := id Vx_v37
        have hin39 : ¬ ((1 : Int32) < 0 ∨ cl36.slots.size ≤ ((1 : Int32)).toNatClampNeg) := inb_of Sa36 ⟨by decide, by decide⟩
        have hat39 : cl36.slots[((1 : Int32)).toNatClampNeg]? = some (.long x1) := Has.at Ha36 hin39 rfl
        refine own_go (B := T35.setTop (mkF m 203 (LS_JsJsJsJsJsJsJsRIIIIIRuuu q0 q1 q2 q3 q4 q5 (36028797018963967 : Int64) b1 (((q5.toUInt64 >>> ((61 : Int32) &&& 0x3f).toInt64.toUInt64).toInt64).toInt32) fA fB fP z21 b22) [(.long x1), (.int (1 : Int32)), (.ref b22)])) (fun t k => ?_) ?_
        · refine XS.aload X35.here hx rfl (hb hby at_196) rfl rfl ?_
          refine XS.iconst X35.here hx rfl (hb hby at_198) ?_
          show Steps p.tables e below (T35.setTop (mkF m 199 (LS_JsJsJsJsJsJsJsRIIIIIRuuu q0 q1 q2 q3 q4 q5 (36028797018963967 : Int64) b1 (((q5.toUInt64 >>> ((61 : Int32) &&& 0x3f).toInt64.toUInt64).toInt64).toInt32) fA fB fP z21 b22) [(.int (1 : Int32)), (.ref b22)])) _
          refine XS.aload X35.here hx rfl (hb hby at_199) rfl rfl ?_
          refine XS.iconst X35.here hx rfl (hb hby at_201) ?_
          refine X35.laload hx (j := (1 : Int32)) (v := (.long x1)) (by rw [e35]; exact Ar36.1) (State.isArrayOf_alike hZ.alike Ar36.2.1) Ar36.2.2 hin39 hat39 (g := (mkF m 202 (LS_JsJsJsJsJsJsJsRIIIIIRuuu q0 q1 q2 q3 q4 q5 (36028797018963967 : Int64) b1 (((q5.toUInt64 >>> ((61 : Int32) &&& 0x3f).toInt64.toUInt64).toInt64).toInt32) fA fB fP z21 b22) [(.int (1 : Int32)), (.ref b1), (.int (1 : Int32)), (.ref b22)])) rfl rfl (hb hby at_202) _ ?_
          exact k
        obtain ⟨cl40, Ar40, qa40, Sa40, Na40, Ha40, Ga40⟩ := id V35
        have hin41 : ¬ ((1 : Int32) < 0 ∨ cl40.slots.size ≤ ((1 : Int32)).toNatClampNeg) := inb_of Sa40 ⟨by decide, by decide⟩
        obtain ⟨T41, h41, X41, e41, W41, st41⟩ := stJ X35 hx hZ e35 Ar40 (j := (1 : Int32)) hin41 (g := (mkF m 203 (LS_JsJsJsJsJsJsJsRIIIIIRuuu q0 q1 q2 q3 q4 q5 (36028797018963967 : Int64) b1 (((q5.toUInt64 >>> ((61 : Int32) &&& 0x3f).toInt64.toUInt64).toInt64).toInt32) fA fB fP z21 b22) [(.long x1), (.int (1 : Int32)), (.ref b22)])) rfl rfl (hb hby at_203)
        have N41 := Fr.snoc X41 N35 g_b22
        have V41 : Arv Z h41 b22 k22 .long (7 : Int32) [(.long x0), (.long x1), (.long (0 : Int64)), (.long (0 : Int64)), (.long (0 : Int64)), (.long (0 : Int64)), (.long (0 : Int64))] (.long (0 : Int64)) := Arv.set Ar40 qa40 Sa40 Na40 Ha40 Ga40 rfl W41 1 rfl (Nat.le_of_ble_eq_true rfl)
        refine own_go (B := T41.setTop (mkF m 204 (LS_JsJsJsJsJsJsJsRIIIIIRuuu q0 q1 q2 q3 q4 q5 (36028797018963967 : Int64) b1 (((q5.toUInt64 >>> ((61 : Int32) &&& 0x3f).toInt64.toUInt64).toInt64).toInt32) fA fB fP z21 b22) [])) (fun t k => st41 _ k) ?_
        have Vx_v43 := Vx_v32.other W35 ne38
        have Vx_v44 := Vx_v43.other W41 ne38
        obtain ⟨cl42, Ar42, qa42, Sa42, Na42, Ha42, Ga42⟩ := id Vx_v44
        have hin45 : ¬ ((2 : Int32) < 0 ∨ cl42.slots.size ≤ ((2 : Int32)).toNatClampNeg) := inb_of Sa42 ⟨by decide, by decide⟩
        have hat45 : cl42.slots[((2 : Int32)).toNatClampNeg]? = some (.long x2) := Has.at Ha42 hin45 rfl
        refine own_go (B := T41.setTop (mkF m 211 (LS_JsJsJsJsJsJsJsRIIIIIRuuu q0 q1 q2 q3 q4 q5 (36028797018963967 : Int64) b1 (((q5.toUInt64 >>> ((61 : Int32) &&& 0x3f).toInt64.toUInt64).toInt64).toInt32) fA fB fP z21 b22) [(.long x2), (.int (2 : Int32)), (.ref b22)])) (fun t k => ?_) ?_
        · refine XS.aload X41.here hx rfl (hb hby at_204) rfl rfl ?_
          refine XS.iconst X41.here hx rfl (hb hby at_206) ?_
          show Steps p.tables e below (T41.setTop (mkF m 207 (LS_JsJsJsJsJsJsJsRIIIIIRuuu q0 q1 q2 q3 q4 q5 (36028797018963967 : Int64) b1 (((q5.toUInt64 >>> ((61 : Int32) &&& 0x3f).toInt64.toUInt64).toInt64).toInt32) fA fB fP z21 b22) [(.int (2 : Int32)), (.ref b22)])) _
          refine XS.aload X41.here hx rfl (hb hby at_207) rfl rfl ?_
          refine XS.iconst X41.here hx rfl (hb hby at_209) ?_
          refine X41.laload hx (j := (2 : Int32)) (v := (.long x2)) (by rw [e41]; exact Ar42.1) (State.isArrayOf_alike hZ.alike Ar42.2.1) Ar42.2.2 hin45 hat45 (g := (mkF m 210 (LS_JsJsJsJsJsJsJsRIIIIIRuuu q0 q1 q2 q3 q4 q5 (36028797018963967 : Int64) b1 (((q5.toUInt64 >>> ((61 : Int32) &&& 0x3f).toInt64.toUInt64).toInt64).toInt32) fA fB fP z21 b22) [(.int (2 : Int32)), (.ref b1), (.int (2 : Int32)), (.ref b22)])) rfl rfl (hb hby at_210) _ ?_
          exact k
        obtain ⟨cl46, Ar46, qa46, Sa46, Na46, Ha46, Ga46⟩ := id V41
        have hin47 : ¬ ((2 : Int32) < 0 ∨ cl46.slots.size ≤ ((2 : Int32)).toNatClampNeg) := inb_of Sa46 ⟨by decide, by decide⟩
        obtain ⟨T47, h47, X47, e47, W47, st47⟩ := stJ X41 hx hZ e41 Ar46 (j := (2 : Int32)) hin47 (g := (mkF m 211 (LS_JsJsJsJsJsJsJsRIIIIIRuuu q0 q1 q2 q3 q4 q5 (36028797018963967 : Int64) b1 (((q5.toUInt64 >>> ((61 : Int32) &&& 0x3f).toInt64.toUInt64).toInt64).toInt32) fA fB fP z21 b22) [(.long x2), (.int (2 : Int32)), (.ref b22)])) rfl rfl (hb hby at_211)
        have N47 := Fr.snoc X47 N41 g_b22
        have V47 : Arv Z h47 b22 k22 .long (7 : Int32) [(.long x0), (.long x1), (.long x2), (.long (0 : Int64)), (.long (0 : Int64)), (.long (0 : Int64)), (.long (0 : Int64))] (.long (0 : Int64)) := Arv.set Ar46 qa46 Sa46 Na46 Ha46 Ga46 rfl W47 2 rfl (Nat.le_of_ble_eq_true rfl)
        refine own_go (B := T47.setTop (mkF m 212 (LS_JsJsJsJsJsJsJsRIIIIIRuuu q0 q1 q2 q3 q4 q5 (36028797018963967 : Int64) b1 (((q5.toUInt64 >>> ((61 : Int32) &&& 0x3f).toInt64.toUInt64).toInt64).toInt32) fA fB fP z21 b22) [])) (fun t k => st47 _ k) ?_
        have Vx_v49 := Vx_v44.other W47 ne38
        obtain ⟨cl48, Ar48, qa48, Sa48, Na48, Ha48, Ga48⟩ := id Vx_v49
        have hin50 : ¬ ((3 : Int32) < 0 ∨ cl48.slots.size ≤ ((3 : Int32)).toNatClampNeg) := inb_of Sa48 ⟨by decide, by decide⟩
        have hat50 : cl48.slots[((3 : Int32)).toNatClampNeg]? = some (.long x3) := Has.at Ha48 hin50 rfl
        refine own_go (B := T47.setTop (mkF m 219 (LS_JsJsJsJsJsJsJsRIIIIIRuuu q0 q1 q2 q3 q4 q5 (36028797018963967 : Int64) b1 (((q5.toUInt64 >>> ((61 : Int32) &&& 0x3f).toInt64.toUInt64).toInt64).toInt32) fA fB fP z21 b22) [(.long x3), (.int (3 : Int32)), (.ref b22)])) (fun t k => ?_) ?_
        · refine XS.aload X47.here hx rfl (hb hby at_212) rfl rfl ?_
          refine XS.iconst X47.here hx rfl (hb hby at_214) ?_
          show Steps p.tables e below (T47.setTop (mkF m 215 (LS_JsJsJsJsJsJsJsRIIIIIRuuu q0 q1 q2 q3 q4 q5 (36028797018963967 : Int64) b1 (((q5.toUInt64 >>> ((61 : Int32) &&& 0x3f).toInt64.toUInt64).toInt64).toInt32) fA fB fP z21 b22) [(.int (3 : Int32)), (.ref b22)])) _
          refine XS.aload X47.here hx rfl (hb hby at_215) rfl rfl ?_
          refine XS.iconst X47.here hx rfl (hb hby at_217) ?_
          refine X47.laload hx (j := (3 : Int32)) (v := (.long x3)) (by rw [e47]; exact Ar48.1) (State.isArrayOf_alike hZ.alike Ar48.2.1) Ar48.2.2 hin50 hat50 (g := (mkF m 218 (LS_JsJsJsJsJsJsJsRIIIIIRuuu q0 q1 q2 q3 q4 q5 (36028797018963967 : Int64) b1 (((q5.toUInt64 >>> ((61 : Int32) &&& 0x3f).toInt64.toUInt64).toInt64).toInt32) fA fB fP z21 b22) [(.int (3 : Int32)), (.ref b1), (.int (3 : Int32)), (.ref b22)])) rfl rfl (hb hby at_218) _ ?_
          exact k
        obtain ⟨cl51, Ar51, qa51, Sa51, Na51, Ha51, Ga51⟩ := id V47
        have hin52 : ¬ ((3 : Int32) < 0 ∨ cl51.slots.size ≤ ((3 : Int32)).toNatClampNeg) := inb_of Sa51 ⟨by decide, by decide⟩
        obtain ⟨T52, h52, X52, e52, W52, st52⟩ := stJ X47 hx hZ e47 Ar51 (j := (3 : Int32)) hin52 (g := (mkF m 219 (LS_JsJsJsJsJsJsJsRIIIIIRuuu q0 q1 q2 q3 q4 q5 (36028797018963967 : Int64) b1 (((q5.toUInt64 >>> ((61 : Int32) &&& 0x3f).toInt64.toUInt64).toInt64).toInt32) fA fB fP z21 b22) [(.long x3), (.int (3 : Int32)), (.ref b22)])) rfl rfl (hb hby at_219)
        have N52 := Fr.snoc X52 N47 g_b22
        have V52 : Arv Z h52 b22 k22 .long (7 : Int32) [(.long x0), (.long x1), (.long x2), (.long x3), (.long (0 : Int64)), (.long (0 : Int64)), (.long (0 : Int64))] (.long (0 : Int64)) := Arv.set Ar51 qa51 Sa51 Na51 Ha51 Ga51 rfl W52 3 rfl (Nat.le_of_ble_eq_true rfl)
        refine own_go (B := T52.setTop (mkF m 220 (LS_JsJsJsJsJsJsJsRIIIIIRuuu q0 q1 q2 q3 q4 q5 (36028797018963967 : Int64) b1 (((q5.toUInt64 >>> ((61 : Int32) &&& 0x3f).toInt64.toUInt64).toInt64).toInt32) fA fB fP z21 b22) [])) (fun t k => st52 _ k) ?_
        have Vx_v54 := Vx_v49.other W52 ne38
        obtain ⟨cl53, Ar53, qa53, Sa53, Na53, Ha53, Ga53⟩ := id Vx_v54
        have hin55 : ¬ ((4 : Int32) < 0 ∨ cl53.slots.size ≤ ((4 : Int32)).toNatClampNeg) := inb_of Sa53 ⟨by decide, by decide⟩
        have hat55 : cl53.slots[((4 : Int32)).toNatClampNeg]? = some (.long x4) := Has.at Ha53 hin55 rfl
        refine own_go (B := T52.setTop (mkF m 227 (LS_JsJsJsJsJsJsJsRIIIIIRuuu q0 q1 q2 q3 q4 q5 (36028797018963967 : Int64) b1 (((q5.toUInt64 >>> ((61 : Int32) &&& 0x3f).toInt64.toUInt64).toInt64).toInt32) fA fB fP z21 b22) [(.long x4), (.int (4 : Int32)), (.ref b22)])) (fun t k => ?_) ?_
        · refine XS.aload X52.here hx rfl (hb hby at_220) rfl rfl ?_
          refine XS.iconst X52.here hx rfl (hb hby at_222) ?_
          show Steps p.tables e below (T52.setTop (mkF m 223 (LS_JsJsJsJsJsJsJsRIIIIIRuuu q0 q1 q2 q3 q4 q5 (36028797018963967 : Int64) b1 (((q5.toUInt64 >>> ((61 : Int32) &&& 0x3f).toInt64.toUInt64).toInt64).toInt32) fA fB fP z21 b22) [(.int (4 : Int32)), (.ref b22)])) _
          refine XS.aload X52.here hx rfl (hb hby at_223) rfl rfl ?_
          refine XS.iconst X52.here hx rfl (hb hby at_225) ?_
          refine X52.laload hx (j := (4 : Int32)) (v := (.long x4)) (by rw [e52]; exact Ar53.1) (State.isArrayOf_alike hZ.alike Ar53.2.1) Ar53.2.2 hin55 hat55 (g := (mkF m 226 (LS_JsJsJsJsJsJsJsRIIIIIRuuu q0 q1 q2 q3 q4 q5 (36028797018963967 : Int64) b1 (((q5.toUInt64 >>> ((61 : Int32) &&& 0x3f).toInt64.toUInt64).toInt64).toInt32) fA fB fP z21 b22) [(.int (4 : Int32)), (.ref b1), (.int (4 : Int32)), (.ref b22)])) rfl rfl (hb hby at_226) _ ?_
          exact k
        obtain ⟨cl56, Ar56, qa56, Sa56, Na56, Ha56, Ga56⟩ := id V52
        have hin57 : ¬ ((4 : Int32) < 0 ∨ cl56.slots.size ≤ ((4 : Int32)).toNatClampNeg) := inb_of Sa56 ⟨by decide, by decide⟩
        obtain ⟨T57, h57, X57, e57, W57, st57⟩ := stJ X52 hx hZ e52 Ar56 (j := (4 : Int32)) hin57 (g := (mkF m 227 (LS_JsJsJsJsJsJsJsRIIIIIRuuu q0 q1 q2 q3 q4 q5 (36028797018963967 : Int64) b1 (((q5.toUInt64 >>> ((61 : Int32) &&& 0x3f).toInt64.toUInt64).toInt64).toInt32) fA fB fP z21 b22) [(.long x4), (.int (4 : Int32)), (.ref b22)])) rfl rfl (hb hby at_227)
        have N57 := Fr.snoc X57 N52 g_b22
        have V57 : Arv Z h57 b22 k22 .long (7 : Int32) [(.long x0), (.long x1), (.long x2), (.long x3), (.long x4), (.long (0 : Int64)), (.long (0 : Int64))] (.long (0 : Int64)) := Arv.set Ar56 qa56 Sa56 Na56 Ha56 Ga56 rfl W57 4 rfl (Nat.le_of_ble_eq_true rfl)
        refine own_go (B := T57.setTop (mkF m 228 (LS_JsJsJsJsJsJsJsRIIIIIRuuu q0 q1 q2 q3 q4 q5 (36028797018963967 : Int64) b1 (((q5.toUInt64 >>> ((61 : Int32) &&& 0x3f).toInt64.toUInt64).toInt64).toInt32) fA fB fP z21 b22) [])) (fun t k => st57 _ k) ?_
        have Vx_v59 := Vx_v54.other W57 ne38
        obtain ⟨cl58, Ar58, qa58, Sa58, Na58, Ha58, Ga58⟩ := id Vx_v59
        have hin60 : ¬ ((5 : Int32) < 0 ∨ cl58.slots.size ≤ ((5 : Int32)).toNatClampNeg) := inb_of Sa58 ⟨by decide, by decide⟩
        have hat60 : cl58.slots[((5 : Int32)).toNatClampNeg]? = some (.long x5) := Has.at Ha58 hin60 rfl
        refine own_go (B := T57.setTop (mkF m 235 (LS_JsJsJsJsJsJsJsRIIIIIRuuu q0 q1 q2 q3 q4 q5 (36028797018963967 : Int64) b1 (((q5.toUInt64 >>> ((61 : Int32) &&& 0x3f).toInt64.toUInt64).toInt64).toInt32) fA fB fP z21 b22) [(.long x5), (.int (5 : Int32)), (.ref b22)])) (fun t k => ?_) ?_
        · refine XS.aload X57.here hx rfl (hb hby at_228) rfl rfl ?_
          refine XS.iconst X57.here hx rfl (hb hby at_230) ?_
          show Steps p.tables e below (T57.setTop (mkF m 231 (LS_JsJsJsJsJsJsJsRIIIIIRuuu q0 q1 q2 q3 q4 q5 (36028797018963967 : Int64) b1 (((q5.toUInt64 >>> ((61 : Int32) &&& 0x3f).toInt64.toUInt64).toInt64).toInt32) fA fB fP z21 b22) [(.int (5 : Int32)), (.ref b22)])) _
          refine XS.aload X57.here hx rfl (hb hby at_231) rfl rfl ?_
          refine XS.iconst X57.here hx rfl (hb hby at_233) ?_
          refine X57.laload hx (j := (5 : Int32)) (v := (.long x5)) (by rw [e57]; exact Ar58.1) (State.isArrayOf_alike hZ.alike Ar58.2.1) Ar58.2.2 hin60 hat60 (g := (mkF m 234 (LS_JsJsJsJsJsJsJsRIIIIIRuuu q0 q1 q2 q3 q4 q5 (36028797018963967 : Int64) b1 (((q5.toUInt64 >>> ((61 : Int32) &&& 0x3f).toInt64.toUInt64).toInt64).toInt32) fA fB fP z21 b22) [(.int (5 : Int32)), (.ref b1), (.int (5 : Int32)), (.ref b22)])) rfl rfl (hb hby at_234) _ ?_
          exact k
        obtain ⟨cl61, Ar61, qa61, Sa61, Na61, Ha61, Ga61⟩ := id V57
        have hin62 : ¬ ((5 : Int32) < 0 ∨ cl61.slots.size ≤ ((5 : Int32)).toNatClampNeg) := inb_of Sa61 ⟨by decide, by decide⟩
        obtain ⟨T62, h62, X62, e62, W62, st62⟩ := stJ X57 hx hZ e57 Ar61 (j := (5 : Int32)) hin62 (g := (mkF m 235 (LS_JsJsJsJsJsJsJsRIIIIIRuuu q0 q1 q2 q3 q4 q5 (36028797018963967 : Int64) b1 (((q5.toUInt64 >>> ((61 : Int32) &&& 0x3f).toInt64.toUInt64).toInt64).toInt32) fA fB fP z21 b22) [(.long x5), (.int (5 : Int32)), (.ref b22)])) rfl rfl (hb hby at_235)
        have N62 := Fr.snoc X62 N57 g_b22
        have V62 : Arv Z h62 b22 k22 .long (7 : Int32) [(.long x0), (.long x1), (.long x2), (.long x3), (.long x4), (.long x5), (.long (0 : Int64))] (.long (0 : Int64)) := Arv.set Ar61 qa61 Sa61 Na61 Ha61 Ga61 rfl W62 5 rfl (Nat.le_of_ble_eq_true rfl)
        refine own_go (B := T62.setTop (mkF m 236 (LS_JsJsJsJsJsJsJsRIIIIIRuuu q0 q1 q2 q3 q4 q5 (36028797018963967 : Int64) b1 (((q5.toUInt64 >>> ((61 : Int32) &&& 0x3f).toInt64.toUInt64).toInt64).toInt32) fA fB fP z21 b22) [])) (fun t k => st62 _ k) ?_
        have Vx_v64 := Vx_v59.other W62 ne38
        obtain ⟨cl63, Ar63, qa63, Sa63, Na63, Ha63, Ga63⟩ := id Vx_v64
        have hin65 : ¬ ((6 : Int32) < 0 ∨ cl63.slots.size ≤ ((6 : Int32)).toNatClampNeg) := inb_of Sa63 ⟨by decide, by decide⟩
        have hat65 : cl63.slots[((6 : Int32)).toNatClampNeg]? = some (.long x6) := Has.at Ha63 hin65 rfl
        refine own_go (B := T62.setTop (mkF m 245 (LS_JsJsJsJsJsJsJsRIIIIIRuuu q0 q1 q2 q3 q4 q5 (36028797018963967 : Int64) b1 (((q5.toUInt64 >>> ((61 : Int32) &&& 0x3f).toInt64.toUInt64).toInt64).toInt32) fA fB fP z21 b22) [(.long x6), (.int (6 : Int32)), (.ref b22)])) (fun t k => ?_) ?_
        · refine XS.aload X62.here hx rfl (hb hby at_236) rfl rfl ?_
          refine XS.bipush X62.here hx rfl (hb hby at_238) ?_
          show Steps p.tables e below (T62.setTop (mkF m 240 (LS_JsJsJsJsJsJsJsRIIIIIRuuu q0 q1 q2 q3 q4 q5 (36028797018963967 : Int64) b1 (((q5.toUInt64 >>> ((61 : Int32) &&& 0x3f).toInt64.toUInt64).toInt64).toInt32) fA fB fP z21 b22) [(.int (6 : Int32)), (.ref b22)])) _
          refine XS.aload X62.here hx rfl (hb hby at_240) rfl rfl ?_
          refine XS.bipush X62.here hx rfl (hb hby at_242) ?_
          refine X62.laload hx (j := (6 : Int32)) (v := (.long x6)) (by rw [e62]; exact Ar63.1) (State.isArrayOf_alike hZ.alike Ar63.2.1) Ar63.2.2 hin65 hat65 (g := (mkF m 244 (LS_JsJsJsJsJsJsJsRIIIIIRuuu q0 q1 q2 q3 q4 q5 (36028797018963967 : Int64) b1 (((q5.toUInt64 >>> ((61 : Int32) &&& 0x3f).toInt64.toUInt64).toInt64).toInt32) fA fB fP z21 b22) [(.int (6 : Int32)), (.ref b1), (.int (6 : Int32)), (.ref b22)])) rfl rfl (hb hby at_244) _ ?_
          exact k
        obtain ⟨cl66, Ar66, qa66, Sa66, Na66, Ha66, Ga66⟩ := id V62
        have hin67 : ¬ ((6 : Int32) < 0 ∨ cl66.slots.size ≤ ((6 : Int32)).toNatClampNeg) := inb_of Sa66 ⟨by decide, by decide⟩
        obtain ⟨T67, h67, X67, e67, W67, st67⟩ := stJ X62 hx hZ e62 Ar66 (j := (6 : Int32)) hin67 (g := (mkF m 245 (LS_JsJsJsJsJsJsJsRIIIIIRuuu q0 q1 q2 q3 q4 q5 (36028797018963967 : Int64) b1 (((q5.toUInt64 >>> ((61 : Int32) &&& 0x3f).toInt64.toUInt64).toInt64).toInt32) fA fB fP z21 b22) [(.long x6), (.int (6 : Int32)), (.ref b22)])) rfl rfl (hb hby at_245)
        have N67 := Fr.snoc X67 N62 g_b22
        have V67 : Arv Z h67 b22 k22 .long (7 : Int32) [(.long x0), (.long x1), (.long x2), (.long x3), (.long x4), (.long x5), (.long x6)] (.long (0 : Int64)) := Arv.set Ar66 qa66 Sa66 Na66 Ha66 Ga66 rfl W67 6 rfl (Nat.le_of_ble_eq_true rfl)
        refine own_go (B := T67.setTop (mkF m 246 (LS_JsJsJsJsJsJsJsRIIIIIRuuu q0 q1 q2 q3 q4 q5 (36028797018963967 : Int64) b1 (((q5.toUInt64 >>> ((61 : Int32) &&& 0x3f).toInt64.toUInt64).toInt64).toInt32) fA fB fP z21 b22) [])) (fun t k => st67 _ k) ?_
        refine own_joinH X67 N67 (ι := Unit) 2 14 (fun i68 hh => ∃ (y0 y1 y2 y3 y4 y5 y6 : Int64), n0 ≤ hh.size ∧ Arv Z hh b1 k1 .long (7 : Int32) [(.long x0), (.long x1), (.long x2), (.long x3), (.long x4), (.long x5), (.long x6)] (.long (0 : Int64)) ∧ Arv Z hh b22 k22 .long (7 : Int32) [(.long y0), (.long y1), (.long y2), (.long y3), (.long y4), (.long y5), (.long y6)] (.long (0 : Int64)) ∧ (0 ≤ (y0).toInt ∧ (y0).toInt < 36028797018963968) ∧ (0 ≤ (y1).toInt ∧ (y1).toInt < 36028797018963968) ∧ (0 ≤ (y2).toInt ∧ (y2).toInt < 36028797018963968) ∧ (0 ≤ (y3).toInt ∧ (y3).toInt < 36028797018963968) ∧ (0 ≤ (y4).toInt ∧ (y4).toInt < 36028797018963968) ∧ (0 ≤ (y5).toInt ∧ (y5).toInt < 36028797018963968) ∧ (0 ≤ (y6).toInt ∧ (y6).toInt < 36028797018963968) ∧ Sta Z hh "com/example/barred_rows/barredrows/crypto/Fp" "P0" "J" (.long (35747322042231467 : Int64)) ∧ Sta Z hh "com/example/barred_rows/barredrows/crypto/Fp" "P1" "J" (.long (36025922209447795 : Int64)) ∧ Sta Z hh "com/example/barred_rows/barredrows/crypto/Fp" "P2" "J" (.long (1084959616957103 : Int64)) ∧ Sta Z hh "com/example/barred_rows/barredrows/crypto/Fp" "P3" "J" (.long (7925923977987733 : Int64)) ∧ Sta Z hh "com/example/barred_rows/barredrows/crypto/Fp" "P4" "J" (.long (16551456537884751 : Int64)) ∧ Sta Z hh "com/example/barred_rows/barredrows/crypto/Fp" "P5" "J" (.long (23443114579904617 : Int64)) ∧ Sta Z hh "com/example/barred_rows/barredrows/crypto/Fp" "P6" "J" (.long (1829881462546425 : Int64)) ∧ ((fP = (0 : Int32) ∧ x0 = y0 ∧ x1 = y1 ∧ x2 = y2 ∧ x3 = y3 ∧ x4 = y4 ∧ x5 = y5 ∧ x6 = y6) ∨ (fP = (1 : Int32) ∧ z21 = (0 : Int32) ∧ (0 : Int64) = y0 ∧ x1 = y1 ∧ x2 = y2 ∧ x3 = y3 ∧ x4 = y4 ∧ x5 = y5 ∧ x6 = y6) ∨ (fP = (1 : Int32) ∧ z21 = (1 : Int32) ∧ x0 = y0 ∧ (0 : Int64) = y1 ∧ x2 = y2 ∧ x3 = y3 ∧ x4 = y4 ∧ x5 = y5 ∧ x6 = y6) ∨ (fP = (1 : Int32) ∧ z21 = (2 : Int32) ∧ x0 = y0 ∧ x1 = y1 ∧ (0 : Int64) = y2 ∧ x3 = y3 ∧ x4 = y4 ∧ x5 = y5 ∧ x6 = y6) ∨ (fP = (1 : Int32) ∧ z21 = (3 : Int32) ∧ x0 = y0 ∧ x1 = y1 ∧ x2 = y2 ∧ (0 : Int64) = y3 ∧ x4 = y4 ∧ x5 = y5 ∧ x6 = y6) ∨ (fP = (1 : Int32) ∧ z21 = (4 : Int32) ∧ x0 = y0 ∧ x1 = y1 ∧ x2 = y2 ∧ x3 = y3 ∧ (0 : Int64) = y4 ∧ x5 = y5 ∧ x6 = y6) ∨ (fP = (1 : Int32) ∧ z21 = (5 : Int32) ∧ x0 = y0 ∧ x1 = y1 ∧ x2 = y2 ∧ x3 = y3 ∧ x4 = y4 ∧ (0 : Int64) = y5 ∧ x6 = y6) ∨ (fP = (1 : Int32) ∧ z21 = (6 : Int32) ∧ x0 = y0 ∧ x1 = y1 ∧ x2 = y2 ∧ x3 = y3 ∧ x4 = y4 ∧ x5 = y5 ∧ (0 : Int64) = y6))) (fun i68 => mkF m 257 (LS_JsJsJsJsJsJsJsRIIIIIRuuu q0 q1 q2 q3 q4 q5 (36028797018963967 : Int64) b1 (((q5.toUInt64 >>> ((61 : Int32) &&& 0x3f).toInt64.toUInt64).toInt64).toInt32) fA fB fP z21 b22) []) ?_ ?_
        · intro i68 T68 lc68 X68 N68 phi68
          obtain ⟨y0, y1, y2, y3, y4, y5, y6, Zj, Vxj, Vyj, by0, by1, by2, by3, by4, by5, by6, Sj0, Sj1, Sj2, Sj3, Sj4, Sj5, Sj6, hrel⟩ := phi68
          have ty6 : y6.toInt < 9007199254740992 := by
            rcases hrel with ⟨-, -, -, -, -, -, -, q⟩ | ⟨-, -, -, -, -, -, -, -, q⟩ | ⟨-, -, -, -, -, -, -, -, q⟩ | ⟨-, -, -, -, -, -, -, -, q⟩ | ⟨-, -, -, -, -, -, -, -, q⟩ | ⟨-, -, -, -, -, -, -, -, q⟩ | ⟨-, -, -, -, -, -, -, -, q⟩ | ⟨-, -, -, -, -, -, -, -, q⟩ <;> (rw [← q]; first | exact tx6 | decide)
          obtain ⟨_, _, ⟨T69, L69, k69, n69⟩, -, X69, ⟨Lc69, hQ69, l69, y69, z69⟩, st69⟩ := Jvm.LawKit.callS X68 hx (y := (⟨"com/example/barred_rows/barredrows/crypto/FpEqualPinLaw", "prime", "()[J"⟩ : MethodName)) hown (mvT hZ (hw _ (List.mem_of_getElem? (i := 4) rfl))) (mvT hZ (hw _ (List.mem_of_getElem? (i := 5) rfl))) (mvT hZ (hw _ (List.mem_of_getElem? (i := 6) rfl))) (mvT hZ (hw _ (List.mem_of_getElem? (i := 7) rfl))) (by decide) (backOf (W := 0) (rm1 l Z a0 hw [] T68.heap n0 Zj) hZ (hw _ (List.mem_of_getElem? (i := 7) rfl)) (hw _ (List.mem_of_getElem? (i := 6) rfl)) (by decide) (by decide)) (g := (mkF m 257 (LS_JsJsJsJsJsJsJsRIIIIIRuuu q0 q1 q2 q3 q4 q5 (36028797018963967 : Int64) b1 (((q5.toUInt64 >>> ((61 : Int32) &&& 0x3f).toInt64.toUInt64).toInt64).toInt32) fA fB fP z21 b22) [])) rfl (by rw [hml]; rfl) (argsL := []) (rest := []) (lenOf pd____J rfl) rfl (by show 2 * 0 + _ ≤ _; exact Nat.le_of_eq rfl) (hb hby at_257) (fun _ _ => ⟨rfl, rfl, (by decide : 2 + 1 ≤ _), (by decide : 14 + 7 ≤ _)⟩)
          dsimp only [Pt.U, Pt.locs, Pt.cells, Pt.slots] at X69 l69 y69 z69 st69 hQ69
          subst l69 y69 z69
          obtain ⟨o69, ko69, rfl, N69q, hfr69, K69, V69r⟩ := hQ69
          have N69 := Fr.app N68 N69q
          have g_o69 : n0 ≤ o69 := Nat.le_trans Zj hfr69
          refine own_go (B := T69.setTop (mkF m 260 (LS_JsJsJsJsJsJsJsRIIIIIRuuu q0 q1 q2 q3 q4 q5 (36028797018963967 : Int64) b1 (((q5.toUInt64 >>> ((61 : Int32) &&& 0x3f).toInt64.toUInt64).toInt64).toInt32) fA fB fP z21 b22) [(.ref o69)])) (fun t k => st69 _ k) ?_
          refine own_go (B := T69.setTop (mkF m 264 (LS_JsJsJsJsJsJsJsRIIIIIRRuu q0 q1 q2 q3 q4 q5 (36028797018963967 : Int64) b1 (((q5.toUInt64 >>> ((61 : Int32) &&& 0x3f).toInt64.toUInt64).toInt64).toInt32) fA fB fP z21 b22 o69) [(.int (21 : Int32))])) (fun t k => ?_) ?_
          · refine XS.astore X69.here hx rfl (hb hby at_260) rfl rfl (l' := (LS_JsJsJsJsJsJsJsRIIIIIRRuu q0 q1 q2 q3 q4 q5 (36028797018963967 : Int64) b1 (((q5.toUInt64 >>> ((61 : Int32) &&& 0x3f).toInt64.toUInt64).toInt64).toInt32) fA fB fP z21 b22 o69)) rfl ?_
            refine XS.bipush X69.here hx rfl (hb hby at_262) ?_
            exact k
          obtain ⟨T70, h70, k70, X70, e70, E70, A70, st70⟩ := newP X69 hx hZ (hw _ (List.mem_of_getElem? (i := 1) rfl)) rfl (g := (mkF m 264 (LS_JsJsJsJsJsJsJsRIIIIIRRuu q0 q1 q2 q3 q4 q5 (36028797018963967 : Int64) b1 (((q5.toUInt64 >>> ((61 : Int32) &&& 0x3f).toInt64.toUInt64).toInt64).toInt32) fA fB fP z21 b22 o69) [(.int (21 : Int32))])) rfl (hb hby at_264) rfl (by decide) (cap := 21) (by decide) (by decide) (by decide) (by decide)
          obtain ⟨b70, g70⟩ : ∃ z, z = T69.heap.size := ⟨_, rfl⟩
          rw [← g70] at A70 st70
          have Zj_v71 := Nat.le_trans Zj K69.1
          have g_b70 : n0 ≤ b70 := Nat.le_trans Zj_v71 (Nat.le_of_eq g70.symm)
          have V70 : Arv Z h70 b70 k70 .long (21 : Int32) [(.long (0 : Int64)), (.long (0 : Int64)), (.long (0 : Int64)), (.long (0 : Int64)), (.long (0 : Int64)), (.long (0 : Int64)), (.long (0 : Int64)), (.long (0 : Int64)), (.long (0 : Int64)), (.long (0 : Int64)), (.long (0 : Int64)), (.long (0 : Int64)), (.long (0 : Int64)), (.long (0 : Int64)), (.long (0 : Int64)), (.long (0 : Int64)), (.long (0 : Int64)), (.long (0 : Int64)), (.long (0 : Int64)), (.long (0 : Int64)), (.long (0 : Int64))] (.long (0 : Int64)) := (Arv.new A70 (by decide)).pad (pad_rep [] (.long (0 : Int64)) 21)
          refine own_go (B := T70.setTop (mkF m 266 (LS_JsJsJsJsJsJsJsRIIIIIRRuu q0 q1 q2 q3 q4 q5 (36028797018963967 : Int64) b1 (((q5.toUInt64 >>> ((61 : Int32) &&& 0x3f).toInt64.toUInt64).toInt64).toInt32) fA fB fP z21 b22 o69) [(.ref b70)])) (fun t k => st70 _ k) ?_
          refine own_go (B := T70.setTop (mkF m 276 (LS_JsJsJsJsJsJsJsRIIIIIRRRu q0 q1 q2 q3 q4 q5 (36028797018963967 : Int64) b1 (((q5.toUInt64 >>> ((61 : Int32) &&& 0x3f).toInt64.toUInt64).toInt64).toInt32) fA fB fP z21 b22 o69 b70) [(.ref o69), (.ref b1), (.int (7 : Int32)), (.ref b70)])) (fun t k => ?_) ?_
          · refine XS.astore X70.here hx rfl (hb hby at_266) rfl rfl (l' := (LS_JsJsJsJsJsJsJsRIIIIIRRRu q0 q1 q2 q3 q4 q5 (36028797018963967 : Int64) b1 (((q5.toUInt64 >>> ((61 : Int32) &&& 0x3f).toInt64.toUInt64).toInt64).toInt32) fA fB fP z21 b22 o69 b70)) rfl ?_
            refine XS.aload X70.here hx rfl (hb hby at_268) rfl rfl ?_
            show Steps p.tables e below (T70.setTop (mkF m 270 (LS_JsJsJsJsJsJsJsRIIIIIRRRu q0 q1 q2 q3 q4 q5 (36028797018963967 : Int64) b1 (((q5.toUInt64 >>> ((61 : Int32) &&& 0x3f).toInt64.toUInt64).toInt64).toInt32) fA fB fP z21 b22 o69 b70) [(.ref b70)])) _
            refine XS.bipush X70.here hx rfl (hb hby at_270) ?_
            refine XS.aload X70.here hx rfl (hb hby at_272) rfl rfl ?_
            refine XS.aload X70.here hx rfl (hb hby at_274) rfl rfl ?_
            exact k
          refine own_join X70 N69 (ι := Int32) (fun i72 T' => T'.heap = h70 ∧ (i72 = (0 : Int32) ∨ (i72 = (1 : Int32) ∧ (x0).toInt + (x1).toInt * 36028797018963968 + (x2).toInt * 1298074214633706907132624082305024 + (x3).toInt * 46768052394588893382517914646921056628989841375232 + (x4).toInt * 1684996666696914987166688442938726917102321526408785780068975640576 + (x5).toInt * 60708402882054033466233184588234965832575213720379360039119137804340758912662765568 + (x6).toInt * 2187250724783011924372502227117621365353169430893212436425770606409952999199375923223513177023053824 < 4002409555221667393417789825735904156556882819939007885332058136124031650490837864442687629129015664037894272559787))) (fun i72 => mkF m 296 (LS_JsJsJsJsJsJsJsRIIIIIRRRu q0 q1 q2 q3 q4 q5 (36028797018963967 : Int64) b1 (((q5.toUInt64 >>> ((61 : Int32) &&& 0x3f).toInt64.toUInt64).toInt64).toInt32) fA fB fP z21 b22 o69 b70) [(.int i72), (.ref o69), (.ref b1), (.int (7 : Int32)), (.ref b70)]) ?_ ?_
          · intro zA T72 lc72 X72 N72 hi72
            obtain ⟨e72, phi72⟩ := hi72
            have Zj_v73 := Nat.le_trans Zj_v71 E70.1
            have Vxj_v74 := Vxj.keep K69 nin0
            have Vxj_v75 := Vxj_v74.ext E70
            have V69r_v76 := V69r.ext E70
            have ne77 : b1 ≠ b70 := Nat.ne_of_lt (Nat.lt_of_lt_of_le Vxj_v74.lt (Nat.le_of_eq g70.symm))
            have ne78 : o69 ≠ b70 := Nat.ne_of_lt (Nat.lt_of_lt_of_le V69r.lt (Nat.le_of_eq g70.symm))
            obtain ⟨_, _, ⟨T79, L79, k79, n79⟩, -, X79, ⟨Lc79, hQ79, l79, y79, z79⟩, st79⟩ := Jvm.LawKit.callS X72 hx (y := (⟨"com/example/barred_rows/barredrows/crypto/FpEqualPinLaw", "place", "([JI[J[JZ)V"⟩ : MethodName)) hown (mvT hZ (hw _ (List.mem_of_getElem? (i := 14) rfl))) (mvT hZ (hw _ (List.mem_of_getElem? (i := 15) rfl))) (mvT hZ (hw _ (List.mem_of_getElem? (i := 6) rfl))) (mvT hZ (hw _ (List.mem_of_getElem? (i := 16) rfl))) (by decide) (backOf (W := 0) (rm2 l Z a0 hw [] b70 (7 : Int32) b1 o69 zA k70 k1 ko69 [(.long (0 : Int64)), (.long (0 : Int64)), (.long (0 : Int64)), (.long (0 : Int64)), (.long (0 : Int64)), (.long (0 : Int64)), (.long (0 : Int64)), (.long (0 : Int64)), (.long (0 : Int64)), (.long (0 : Int64)), (.long (0 : Int64)), (.long (0 : Int64)), (.long (0 : Int64)), (.long (0 : Int64)), (.long (0 : Int64)), (.long (0 : Int64)), (.long (0 : Int64)), (.long (0 : Int64)), (.long (0 : Int64)), (.long (0 : Int64)), (.long (0 : Int64))] 7 8 9 10 11 12 13 x0 x1 x2 x3 x4 x5 x6 h70 n0 Zj_v73 V70 Vxj_v75 V69r_v76 rfl ⟨by decide, by decide⟩ ⟨by decide, by decide⟩ ⟨by decide, by decide⟩ ⟨by decide, by decide⟩ ⟨by decide, by decide⟩ ⟨by decide, by decide⟩ ⟨by decide, by decide⟩ (by decide) (by decide) (by decide) (by decide) (by decide) (by decide) (by decide) (by decide) (by decide) (by decide) (by decide) (by decide) (by decide) (by decide) bx0 bx1 bx2 bx3 bx4 bx5 bx6 tx6 phi72 ne77 ne78 g_b70) hZ (hw _ (List.mem_of_getElem? (i := 16) rfl)) (hw _ (List.mem_of_getElem? (i := 6) rfl)) (by decide) (by decide)) (g := (mkF m 296 (LS_JsJsJsJsJsJsJsRIIIIIRRRu q0 q1 q2 q3 q4 q5 (36028797018963967 : Int64) b1 (((q5.toUInt64 >>> ((61 : Int32) &&& 0x3f).toInt64.toUInt64).toInt64).toInt32) fA fB fP z21 b22 o69 b70) [(.int zA), (.ref o69), (.ref b1), (.int (7 : Int32)), (.ref b70)])) rfl (by rw [hml]; rfl) (argsL := [(.ref b70), (.int (7 : Int32)), (.ref b1), (.ref o69), (.int zA)]) (rest := []) (lenOf pd___JI_J_JZ_V rfl) rfl (by show 2 * 0 + _ ≤ _; exact Nat.le_of_eq rfl) (hb hby at_296) (fun _ _ => ⟨rfl, e72, (by decide : 4 + 0 ≤ _), (by decide : 42 + 0 ≤ _)⟩)
            dsimp only [Pt.U, Pt.locs, Pt.cells, Pt.slots] at X79 l79 y79 z79 st79 hQ79
            subst l79 y79 z79
            obtain ⟨z79_0, z79_1, z79_2, z79_3, z79_4, z79_5, z79_6, rfl, N79q, K79, V79r, c79_0, c79_1, c79_2, c79_3, c79_4, c79_5, c79_6⟩ := hQ79
            have N79 := Fr.app N72 N79q
            refine own_go (B := T79.setTop (mkF m 299 (LS_JsJsJsJsJsJsJsRIIIIIRRRu q0 q1 q2 q3 q4 q5 (36028797018963967 : Int64) b1 (((q5.toUInt64 >>> ((61 : Int32) &&& 0x3f).toInt64.toUInt64).toInt64).toInt32) fA fB fP z21 b22 o69 b70) [])) (fun t k => st79 _ k) ?_
            have V79b : Arv Z T79.heap b70 k70 .long (21 : Int32) [(.long (0 : Int64)), (.long (0 : Int64)), (.long (0 : Int64)), (.long (0 : Int64)), (.long (0 : Int64)), (.long (0 : Int64)), (.long (0 : Int64)), (.long z79_0), (.long z79_1), (.long z79_2), (.long z79_3), (.long z79_4), (.long z79_5), (.long z79_6), (.long (0 : Int64)), (.long (0 : Int64)), (.long (0 : Int64)), (.long (0 : Int64)), (.long (0 : Int64)), (.long (0 : Int64)), (.long (0 : Int64))] (.long (0 : Int64)) := V79r
            refine own_go (B := T79.setTop (mkF m 307 (LS_JsJsJsJsJsJsJsRIIIIIRRRu q0 q1 q2 q3 q4 q5 (36028797018963967 : Int64) b1 (((q5.toUInt64 >>> ((61 : Int32) &&& 0x3f).toInt64.toUInt64).toInt64).toInt32) fA fB fP z21 b22 o69 b70) [(.ref o69), (.ref b22), (.int (14 : Int32)), (.ref b70)])) (fun t k => ?_) ?_
            · refine XS.aload X79.here hx rfl (hb hby at_299) rfl rfl ?_
              refine XS.bipush X79.here hx rfl (hb hby at_301) ?_
              show Steps p.tables e below (T79.setTop (mkF m 303 (LS_JsJsJsJsJsJsJsRIIIIIRRRu q0 q1 q2 q3 q4 q5 (36028797018963967 : Int64) b1 (((q5.toUInt64 >>> ((61 : Int32) &&& 0x3f).toInt64.toUInt64).toInt64).toInt32) fA fB fP z21 b22 o69 b70) [(.int (14 : Int32)), (.ref b70)])) _
              refine XS.aload X79.here hx rfl (hb hby at_303) rfl rfl ?_
              refine XS.aload X79.here hx rfl (hb hby at_305) rfl rfl ?_
              exact k
            refine own_join X79 N79 (ι := Int32) (fun i80 T' => T'.heap = T79.heap ∧ (i80 = (0 : Int32) ∨ (i80 = (1 : Int32) ∧ (y0).toInt + (y1).toInt * 36028797018963968 + (y2).toInt * 1298074214633706907132624082305024 + (y3).toInt * 46768052394588893382517914646921056628989841375232 + (y4).toInt * 1684996666696914987166688442938726917102321526408785780068975640576 + (y5).toInt * 60708402882054033466233184588234965832575213720379360039119137804340758912662765568 + (y6).toInt * 2187250724783011924372502227117621365353169430893212436425770606409952999199375923223513177023053824 < 4002409555221667393417789825735904156556882819939007885332058136124031650490837864442687629129015664037894272559787))) (fun i80 => mkF m 327 (LS_JsJsJsJsJsJsJsRIIIIIRRRu q0 q1 q2 q3 q4 q5 (36028797018963967 : Int64) b1 (((q5.toUInt64 >>> ((61 : Int32) &&& 0x3f).toInt64.toUInt64).toInt64).toInt32) fA fB fP z21 b22 o69 b70) [(.int i80), (.ref o69), (.ref b22), (.int (14 : Int32)), (.ref b70)]) ?_ ?_
            · intro zB T80 lc80 X80 N80 hi80
              obtain ⟨e80, phi80⟩ := hi80
              have Zj_v81 := Nat.le_trans Zj_v73 K79.1
              have Vyj_v82 := Vyj.keep K69 nin0
              have Vyj_v83 := Vyj_v82.ext E70
              have ne85 : b22 ≠ b70 := Nat.ne_of_lt (Nat.lt_of_lt_of_le Vyj_v82.lt (Nat.le_of_eq g70.symm))
              have Vyj_v84 := Vyj_v83.keep K79 (ninS ne85 nin0)
              have V69r_v86 := V69r_v76.keep K79 (ninS ne78 nin0)
              obtain ⟨_, _, ⟨T87, L87, k87, n87⟩, -, X87, ⟨Lc87, hQ87, l87, y87, z87⟩, st87⟩ := Jvm.LawKit.callS X80 hx (y := (⟨"com/example/barred_rows/barredrows/crypto/FpEqualPinLaw", "place", "([JI[J[JZ)V"⟩ : MethodName)) hown (mvT hZ (hw _ (List.mem_of_getElem? (i := 14) rfl))) (mvT hZ (hw _ (List.mem_of_getElem? (i := 15) rfl))) (mvT hZ (hw _ (List.mem_of_getElem? (i := 6) rfl))) (mvT hZ (hw _ (List.mem_of_getElem? (i := 16) rfl))) (by decide) (backOf (W := 0) (rm2 l Z a0 hw [] b70 (14 : Int32) b22 o69 zB k70 k22 ko69 [(.long (0 : Int64)), (.long (0 : Int64)), (.long (0 : Int64)), (.long (0 : Int64)), (.long (0 : Int64)), (.long (0 : Int64)), (.long (0 : Int64)), (.long z79_0), (.long z79_1), (.long z79_2), (.long z79_3), (.long z79_4), (.long z79_5), (.long z79_6), (.long (0 : Int64)), (.long (0 : Int64)), (.long (0 : Int64)), (.long (0 : Int64)), (.long (0 : Int64)), (.long (0 : Int64)), (.long (0 : Int64))] 14 15 16 17 18 19 20 y0 y1 y2 y3 y4 y5 y6 T79.heap n0 Zj_v81 V79b Vyj_v84 V69r_v86 rfl ⟨by decide, by decide⟩ ⟨by decide, by decide⟩ ⟨by decide, by decide⟩ ⟨by decide, by decide⟩ ⟨by decide, by decide⟩ ⟨by decide, by decide⟩ ⟨by decide, by decide⟩ (by decide) (by decide) (by decide) (by decide) (by decide) (by decide) (by decide) (by decide) (by decide) (by decide) (by decide) (by decide) (by decide) (by decide) by0 by1 by2 by3 by4 by5 by6 ty6 phi80 ne85 ne78 g_b70) hZ (hw _ (List.mem_of_getElem? (i := 16) rfl)) (hw _ (List.mem_of_getElem? (i := 6) rfl)) (by decide) (by decide)) (g := (mkF m 327 (LS_JsJsJsJsJsJsJsRIIIIIRRRu q0 q1 q2 q3 q4 q5 (36028797018963967 : Int64) b1 (((q5.toUInt64 >>> ((61 : Int32) &&& 0x3f).toInt64.toUInt64).toInt64).toInt32) fA fB fP z21 b22 o69 b70) [(.int zB), (.ref o69), (.ref b22), (.int (14 : Int32)), (.ref b70)])) rfl (by rw [hml]; rfl) (argsL := [(.ref b70), (.int (14 : Int32)), (.ref b22), (.ref o69), (.int zB)]) (rest := []) (lenOf pd___JI_J_JZ_V rfl) rfl (by show 2 * 0 + _ ≤ _; exact Nat.le_of_eq rfl) (hb hby at_327) (fun _ _ => ⟨rfl, e80, (by decide : 4 + 0 ≤ _), (by decide : 42 + 0 ≤ _)⟩)
              dsimp only [Pt.U, Pt.locs, Pt.cells, Pt.slots] at X87 l87 y87 z87 st87 hQ87
              subst l87 y87 z87
              obtain ⟨z87_0, z87_1, z87_2, z87_3, z87_4, z87_5, z87_6, rfl, N87q, K87, V87r, c87_0, c87_1, c87_2, c87_3, c87_4, c87_5, c87_6⟩ := hQ87
              have N87 := Fr.app N80 N87q
              refine own_go (B := T87.setTop (mkF m 330 (LS_JsJsJsJsJsJsJsRIIIIIRRRu q0 q1 q2 q3 q4 q5 (36028797018963967 : Int64) b1 (((q5.toUInt64 >>> ((61 : Int32) &&& 0x3f).toInt64.toUInt64).toInt64).toInt32) fA fB fP z21 b22 o69 b70) [])) (fun t k => st87 _ k) ?_
              have V87b : Arv Z T87.heap b70 k70 .long (21 : Int32) [(.long (0 : Int64)), (.long (0 : Int64)), (.long (0 : Int64)), (.long (0 : Int64)), (.long (0 : Int64)), (.long (0 : Int64)), (.long (0 : Int64)), (.long z79_0), (.long z79_1), (.long z79_2), (.long z79_3), (.long z79_4), (.long z79_5), (.long z79_6), (.long z87_0), (.long z87_1), (.long z87_2), (.long z87_3), (.long z87_4), (.long z87_5), (.long z87_6)] (.long (0 : Int64)) := V87r
              rcases hrel with ⟨rfl, rfl, rfl, rfl, rfl, rfl, rfl, rfl⟩ | ⟨rfl, hkf, rfl, rfl, rfl, rfl, rfl, rfl, rfl⟩ | ⟨rfl, hkf, rfl, rfl, rfl, rfl, rfl, rfl, rfl⟩ | ⟨rfl, hkf, rfl, rfl, rfl, rfl, rfl, rfl, rfl⟩ | ⟨rfl, hkf, rfl, rfl, rfl, rfl, rfl, rfl, rfl⟩ | ⟨rfl, hkf, rfl, rfl, rfl, rfl, rfl, rfl, rfl⟩ | ⟨rfl, hkf, rfl, rfl, rfl, rfl, rfl, rfl, rfl⟩ | ⟨rfl, hkf, rfl, rfl, rfl, rfl, rfl, rfl, rfl⟩
              · refine own_go (B := T87.setTop (mkF m 360 (LS_JsJsJsJsJsJsJsRIIIIIRRRI q0 q1 q2 q3 q4 q5 (36028797018963967 : Int64) b1 (((q5.toUInt64 >>> ((61 : Int32) &&& 0x3f).toInt64.toUInt64).toInt64).toInt32) fA fB (0 : Int32) z21 b22 o69 b70 (1 : Int32)) [(.int (14 : Int32)), (.ref b70), (.int (7 : Int32)), (.ref b70)])) (fun t k => ?_) ?_
                · refine XS.iload X87.here hx rfl (hb hby at_330) rfl ?_
                  refine XS.ifYes X87.here hx rfl (pc0 := 332) (pc' := 345) rfl (hb hby at_332) rfl ((if0 _ _).trans (teq (by decide : (0 : Int32) = (0 : Int32))).1) (by decide) (by decide) ?_
                  show Steps p.tables e below (T87.setTop (mkF m 345 (LS_JsJsJsJsJsJsJsRIIIIIRRRu q0 q1 q2 q3 q4 q5 (36028797018963967 : Int64) b1 (((q5.toUInt64 >>> ((61 : Int32) &&& 0x3f).toInt64.toUInt64).toInt64).toInt32) fA fB (0 : Int32) z21 b22 o69 b70) [])) _
                  refine XS.iconst X87.here hx rfl (hb hby at_345) ?_
                  refine XS.goto X87.here hx rfl (pc0 := 346) (pc' := 350) rfl (hb hby at_346) (by decide) (by decide) ?_
                  refine XS.istore X87.here hx rfl (hb hby at_350) rfl (l' := (LS_JsJsJsJsJsJsJsRIIIIIRRRI q0 q1 q2 q3 q4 q5 (36028797018963967 : Int64) b1 (((q5.toUInt64 >>> ((61 : Int32) &&& 0x3f).toInt64.toUInt64).toInt64).toInt32) fA fB (0 : Int32) z21 b22 o69 b70 (1 : Int32))) rfl ?_
                  show Steps p.tables e below (T87.setTop (mkF m 352 (LS_JsJsJsJsJsJsJsRIIIIIRRRI q0 q1 q2 q3 q4 q5 (36028797018963967 : Int64) b1 (((q5.toUInt64 >>> ((61 : Int32) &&& 0x3f).toInt64.toUInt64).toInt64).toInt32) fA fB (0 : Int32) z21 b22 o69 b70 (1 : Int32)) [])) _
                  refine XS.aload X87.here hx rfl (hb hby at_352) rfl rfl ?_
                  refine XS.bipush X87.here hx rfl (hb hby at_354) ?_
                  refine XS.aload X87.here hx rfl (hb hby at_356) rfl rfl ?_
                  show Steps p.tables e below (T87.setTop (mkF m 358 (LS_JsJsJsJsJsJsJsRIIIIIRRRI q0 q1 q2 q3 q4 q5 (36028797018963967 : Int64) b1 (((q5.toUInt64 >>> ((61 : Int32) &&& 0x3f).toInt64.toUInt64).toInt64).toInt32) fA fB (0 : Int32) z21 b22 o69 b70 (1 : Int32)) [(.ref b70), (.int (7 : Int32)), (.ref b70)])) _
                  refine XS.bipush X87.here hx rfl (hb hby at_358) ?_
                  exact k
                obtain ⟨cl88, Ar88, qa88, Sa88, Na88, Ha88, Ga88⟩ := id V87b
                have hi88_0 : ¬ ((7 : Int32) < 0 ∨ cl88.slots.size ≤ ((7 : Int32)).toNatClampNeg) := inb_of Sa88 ⟨by decide, by decide⟩
                have thi88_0 : cl88.slots[((7 : Int32)).toNatClampNeg]? = some (.long z79_0) := Has.at Ha88 hi88_0 rfl
                have hi88_1 : ¬ (((7 : Int32) + (1 : Int32)) < 0 ∨ cl88.slots.size ≤ (((7 : Int32) + (1 : Int32))).toNatClampNeg) := inb_of Sa88 ⟨by decide, by decide⟩
                have thi88_1 : cl88.slots[(((7 : Int32) + (1 : Int32))).toNatClampNeg]? = some (.long z79_1) := Has.at Ha88 hi88_1 rfl
                have hi88_2 : ¬ (((7 : Int32) + (2 : Int32)) < 0 ∨ cl88.slots.size ≤ (((7 : Int32) + (2 : Int32))).toNatClampNeg) := inb_of Sa88 ⟨by decide, by decide⟩
                have thi88_2 : cl88.slots[(((7 : Int32) + (2 : Int32))).toNatClampNeg]? = some (.long z79_2) := Has.at Ha88 hi88_2 rfl
                have hi88_3 : ¬ (((7 : Int32) + (3 : Int32)) < 0 ∨ cl88.slots.size ≤ (((7 : Int32) + (3 : Int32))).toNatClampNeg) := inb_of Sa88 ⟨by decide, by decide⟩
                have thi88_3 : cl88.slots[(((7 : Int32) + (3 : Int32))).toNatClampNeg]? = some (.long z79_3) := Has.at Ha88 hi88_3 rfl
                have hi88_4 : ¬ (((7 : Int32) + (4 : Int32)) < 0 ∨ cl88.slots.size ≤ (((7 : Int32) + (4 : Int32))).toNatClampNeg) := inb_of Sa88 ⟨by decide, by decide⟩
                have thi88_4 : cl88.slots[(((7 : Int32) + (4 : Int32))).toNatClampNeg]? = some (.long z79_4) := Has.at Ha88 hi88_4 rfl
                have hi88_5 : ¬ (((7 : Int32) + (5 : Int32)) < 0 ∨ cl88.slots.size ≤ (((7 : Int32) + (5 : Int32))).toNatClampNeg) := inb_of Sa88 ⟨by decide, by decide⟩
                have thi88_5 : cl88.slots[(((7 : Int32) + (5 : Int32))).toNatClampNeg]? = some (.long z79_5) := Has.at Ha88 hi88_5 rfl
                have hi88_6 : ¬ (((7 : Int32) + (6 : Int32)) < 0 ∨ cl88.slots.size ≤ (((7 : Int32) + (6 : Int32))).toNatClampNeg) := inb_of Sa88 ⟨by decide, by decide⟩
                have thi88_6 : cl88.slots[(((7 : Int32) + (6 : Int32))).toNatClampNeg]? = some (.long z79_6) := Has.at Ha88 hi88_6 rfl
                have gi88_0 : ¬ ((14 : Int32) < 0 ∨ cl88.slots.size ≤ ((14 : Int32)).toNatClampNeg) := inb_of Sa88 ⟨by decide, by decide⟩
                have tgi88_0 : cl88.slots[((14 : Int32)).toNatClampNeg]? = some (.long z87_0) := Has.at Ha88 gi88_0 rfl
                have gi88_1 : ¬ (((14 : Int32) + (1 : Int32)) < 0 ∨ cl88.slots.size ≤ (((14 : Int32) + (1 : Int32))).toNatClampNeg) := inb_of Sa88 ⟨by decide, by decide⟩
                have tgi88_1 : cl88.slots[(((14 : Int32) + (1 : Int32))).toNatClampNeg]? = some (.long z87_1) := Has.at Ha88 gi88_1 rfl
                have gi88_2 : ¬ (((14 : Int32) + (2 : Int32)) < 0 ∨ cl88.slots.size ≤ (((14 : Int32) + (2 : Int32))).toNatClampNeg) := inb_of Sa88 ⟨by decide, by decide⟩
                have tgi88_2 : cl88.slots[(((14 : Int32) + (2 : Int32))).toNatClampNeg]? = some (.long z87_2) := Has.at Ha88 gi88_2 rfl
                have gi88_3 : ¬ (((14 : Int32) + (3 : Int32)) < 0 ∨ cl88.slots.size ≤ (((14 : Int32) + (3 : Int32))).toNatClampNeg) := inb_of Sa88 ⟨by decide, by decide⟩
                have tgi88_3 : cl88.slots[(((14 : Int32) + (3 : Int32))).toNatClampNeg]? = some (.long z87_3) := Has.at Ha88 gi88_3 rfl
                have gi88_4 : ¬ (((14 : Int32) + (4 : Int32)) < 0 ∨ cl88.slots.size ≤ (((14 : Int32) + (4 : Int32))).toNatClampNeg) := inb_of Sa88 ⟨by decide, by decide⟩
                have tgi88_4 : cl88.slots[(((14 : Int32) + (4 : Int32))).toNatClampNeg]? = some (.long z87_4) := Has.at Ha88 gi88_4 rfl
                have gi88_5 : ¬ (((14 : Int32) + (5 : Int32)) < 0 ∨ cl88.slots.size ≤ (((14 : Int32) + (5 : Int32))).toNatClampNeg) := inb_of Sa88 ⟨by decide, by decide⟩
                have tgi88_5 : cl88.slots[(((14 : Int32) + (5 : Int32))).toNatClampNeg]? = some (.long z87_5) := Has.at Ha88 gi88_5 rfl
                have gi88_6 : ¬ (((14 : Int32) + (6 : Int32)) < 0 ∨ cl88.slots.size ≤ (((14 : Int32) + (6 : Int32))).toNatClampNeg) := inb_of Sa88 ⟨by decide, by decide⟩
                have tgi88_6 : cl88.slots[(((14 : Int32) + (6 : Int32))).toNatClampNeg]? = some (.long z87_6) := Has.at Ha88 gi88_6 rfl
                have Zj_v89 := Nat.le_trans Zj_v81 K87.1
                have Sj0_v90 := own_sta_keep Sj0 K69 all0
                have Sj0_v91 := Sj0_v90.ext E70
                have Sj0_v92 := own_sta_keep Sj0_v91 K79 (allS (own_plain_V V70) all0)
                have Sj0_v93 := own_sta_keep Sj0_v92 K87 (allS (own_plain_V V79b) all0)
                have Sj1_v94 := own_sta_keep Sj1 K69 all0
                have Sj1_v95 := Sj1_v94.ext E70
                have Sj1_v96 := own_sta_keep Sj1_v95 K79 (allS (own_plain_V V70) all0)
                have Sj1_v97 := own_sta_keep Sj1_v96 K87 (allS (own_plain_V V79b) all0)
                have Sj2_v98 := own_sta_keep Sj2 K69 all0
                have Sj2_v99 := Sj2_v98.ext E70
                have Sj2_v100 := own_sta_keep Sj2_v99 K79 (allS (own_plain_V V70) all0)
                have Sj2_v101 := own_sta_keep Sj2_v100 K87 (allS (own_plain_V V79b) all0)
                have Sj3_v102 := own_sta_keep Sj3 K69 all0
                have Sj3_v103 := Sj3_v102.ext E70
                have Sj3_v104 := own_sta_keep Sj3_v103 K79 (allS (own_plain_V V70) all0)
                have Sj3_v105 := own_sta_keep Sj3_v104 K87 (allS (own_plain_V V79b) all0)
                have Sj4_v106 := own_sta_keep Sj4 K69 all0
                have Sj4_v107 := Sj4_v106.ext E70
                have Sj4_v108 := own_sta_keep Sj4_v107 K79 (allS (own_plain_V V70) all0)
                have Sj4_v109 := own_sta_keep Sj4_v108 K87 (allS (own_plain_V V79b) all0)
                have Sj5_v110 := own_sta_keep Sj5 K69 all0
                have Sj5_v111 := Sj5_v110.ext E70
                have Sj5_v112 := own_sta_keep Sj5_v111 K79 (allS (own_plain_V V70) all0)
                have Sj5_v113 := own_sta_keep Sj5_v112 K87 (allS (own_plain_V V79b) all0)
                have Sj6_v114 := own_sta_keep Sj6 K69 all0
                have Sj6_v115 := Sj6_v114.ext E70
                have Sj6_v116 := own_sta_keep Sj6_v115 K79 (allS (own_plain_V V70) all0)
                have Sj6_v117 := own_sta_keep Sj6_v116 K87 (allS (own_plain_V V79b) all0)
                obtain ⟨_, _, ⟨T118, L118, k118, n118⟩, -, X118, ⟨Lc118, hQ118, l118, y118, z118⟩, st118⟩ := Jvm.LawKit.callS X87 hx (y := (⟨"com/example/barred_rows/barredrows/crypto/Fp", "equal", "([JI[JI)Z"⟩ : MethodName)) hown (mvT hZ (hw _ (List.mem_of_getElem? (i := 20) rfl))) (mvT hZ (hw _ (List.mem_of_getElem? (i := 21) rfl))) (mvT hZ (hw _ (List.mem_of_getElem? (i := 22) rfl))) (mvT hZ (hw _ (List.mem_of_getElem? (i := 23) rfl))) (by decide) (backOf (W := 0) (rm4 l Z a0 hw [] b70 (7 : Int32) (14 : Int32) cl88 z79_0 z79_1 z79_2 z79_3 z79_4 z79_5 z79_6 z87_0 z87_1 z87_2 z87_3 z87_4 z87_5 z87_6 T87.heap n0 Zj_v89 Ar88 hi88_0 hi88_1 hi88_2 hi88_3 hi88_4 hi88_5 hi88_6 thi88_0 thi88_1 thi88_2 thi88_3 thi88_4 thi88_5 thi88_6 gi88_0 gi88_1 gi88_2 gi88_3 gi88_4 gi88_5 gi88_6 tgi88_0 tgi88_1 tgi88_2 tgi88_3 tgi88_4 tgi88_5 tgi88_6 Sj0_v93 Sj1_v97 Sj2_v101 Sj3_v105 Sj4_v109 Sj5_v113 Sj6_v117) hZ (hw _ (List.mem_of_getElem? (i := 23) rfl)) (hw _ (List.mem_of_getElem? (i := 22) rfl)) (by decide) (by decide)) (g := (mkF m 360 (LS_JsJsJsJsJsJsJsRIIIIIRRRI q0 q1 q2 q3 q4 q5 (36028797018963967 : Int64) b1 (((q5.toUInt64 >>> ((61 : Int32) &&& 0x3f).toInt64.toUInt64).toInt64).toInt32) fA fB (0 : Int32) z21 b22 o69 b70 (1 : Int32)) [(.int (14 : Int32)), (.ref b70), (.int (7 : Int32)), (.ref b70)])) rfl (by rw [hml]; rfl) (argsL := [(.ref b70), (.int (7 : Int32)), (.ref b70), (.int (14 : Int32))]) (rest := []) (lenOf pd___JI_JI_Z rfl) rfl (by show 2 * 0 + _ ≤ _; exact Nat.le_of_eq rfl) (hb hby at_360) (fun _ _ => ⟨rfl, rfl, (by decide : 4 + 2 ≤ _), (by decide : 42 + 14 ≤ _)⟩)
                dsimp only [Pt.U, Pt.locs, Pt.cells, Pt.slots] at X118 l118 y118 z118 st118 hQ118
                subst l118 y118 z118
                obtain ⟨rfl, N118q⟩ := hQ118
                have N118 := Fr.app N87 N118q
                refine own_go (B := T118.setTop (mkF m 363 (LS_JsJsJsJsJsJsJsRIIIIIRRRI q0 q1 q2 q3 q4 q5 (36028797018963967 : Int64) b1 (((q5.toUInt64 >>> ((61 : Int32) &&& 0x3f).toInt64.toUInt64).toInt64).toInt32) fA fB (0 : Int32) z21 b22 o69 b70 (1 : Int32)) [(.int (if ((((((((own_c0 z79_0 z79_1 z79_2 z79_3 z79_4 z79_5 z79_6) ^^^ (own_c0 z87_0 z87_1 z87_2 z87_3 z87_4 z87_5 z87_6)) ||| ((own_c1 z79_0 z79_1 z79_2 z79_3 z79_4 z79_5 z79_6) ^^^ (own_c1 z87_0 z87_1 z87_2 z87_3 z87_4 z87_5 z87_6))) ||| ((own_c2 z79_0 z79_1 z79_2 z79_3 z79_4 z79_5 z79_6) ^^^ (own_c2 z87_0 z87_1 z87_2 z87_3 z87_4 z87_5 z87_6))) ||| ((own_c3 z79_0 z79_1 z79_2 z79_3 z79_4 z79_5 z79_6) ^^^ (own_c3 z87_0 z87_1 z87_2 z87_3 z87_4 z87_5 z87_6))) ||| ((own_c4 z79_0 z79_1 z79_2 z79_3 z79_4 z79_5 z79_6) ^^^ (own_c4 z87_0 z87_1 z87_2 z87_3 z87_4 z87_5 z87_6))) ||| ((own_c5 z79_0 z79_1 z79_2 z79_3 z79_4 z79_5 z79_6) ^^^ (own_c5 z87_0 z87_1 z87_2 z87_3 z87_4 z87_5 z87_6))) ||| ((own_c6 z79_0 z79_1 z79_2 z79_3 z79_4 z79_5 z79_6) ^^^ (own_c6 z87_0 z87_1 z87_2 z87_3 z87_4 z87_5 z87_6))) = (0 : Int64) then (1 : Int32) else (0 : Int32)))])) (fun t k => st118 _ k) ?_
                rw [c79_0, c79_1, c79_2, c79_3, c79_4, c79_5, c79_6, c87_0, c87_1, c87_2, c87_3, c87_4, c87_5, c87_6]
                refine own_go (B := T118.setTop (mkF m 373 (LS_JsJsJsJsJsJsJsRIIIIIRRRI q0 q1 q2 q3 q4 q5 (36028797018963967 : Int64) b1 (((q5.toUInt64 >>> ((61 : Int32) &&& 0x3f).toInt64.toUInt64).toInt64).toInt32) fA fB (0 : Int32) z21 b22 o69 b70 (1 : Int32)) [(.int (1 : Int32))])) (fun t k => ?_) ?_
                · refine XS.iload X118.here hx rfl (hb hby at_363) rfl ?_
                  refine XS.icmpNo X118.here hx rfl (hb hby at_365) rfl (teq (if_pos (own_eqx x0 x1 x2 x3 x4 x5 x6))).2 ?_
                  show Steps p.tables e below (T118.setTop (mkF m 368 (LS_JsJsJsJsJsJsJsRIIIIIRRRI q0 q1 q2 q3 q4 q5 (36028797018963967 : Int64) b1 (((q5.toUInt64 >>> ((61 : Int32) &&& 0x3f).toInt64.toUInt64).toInt64).toInt32) fA fB (0 : Int32) z21 b22 o69 b70 (1 : Int32)) [])) _
                  refine XS.iconst X118.here hx rfl (hb hby at_368) ?_
                  refine XS.goto X118.here hx rfl (pc0 := 369) (pc' := 373) rfl (hb hby at_369) (by decide) (by decide) ?_
                  exact k
                obtain ⟨fs, hr, hrun, hended, hW, hsame⟩ := X118.leave (v := some (.int (1 : Int32))) (fun h => by rw [Bd.returns] at h; cases h)
                refine ⟨_, _, ?_, hrun, hended, _, _, rfl, ?_, ⟨_, rfl⟩, hW, hsame.mono (by decide) (by decide)⟩
                · show Steps p.tables e below (T118.setTop (mkF m 373 (LS_JsJsJsJsJsJsJsRIIIIIRRRI q0 q1 q2 q3 q4 q5 (36028797018963967 : Int64) b1 (((q5.toUInt64 >>> ((61 : Int32) &&& 0x3f).toInt64.toUInt64).toInt64).toInt32) fA fB (0 : Int32) z21 b22 o69 b70 (1 : Int32)) [(.int (1 : Int32))])) _
                  exact retN X118 hx (t := .boolean) Bd.returns (by simp) (hb hby at_373) hr
                · show Q0 Z q0 q1 q2 q3 q4 q5 h0 n0 _ T118.heap _
                  exact ⟨rfl, N118⟩
              · refine own_go (B := T87.setTop (mkF m 330 (LS_JsJsJsJsJsJsJsRIIIIIRRRu q0 q1 q2 q3 q4 q5 (36028797018963967 : Int64) b1 (((q5.toUInt64 >>> ((61 : Int32) &&& 0x3f).toInt64.toUInt64).toInt64).toInt32) fA fB (1 : Int32) (0 : Int32) b22 o69 b70) [])) (fun t k => by rw [hkf]; exact k) ?_
                have Vxj_v120 := Vxj_v75.keep K79 (ninS ne77 nin0)
                have Vxj_v121 := Vxj_v120.keep K87 (ninS ne77 nin0)
                obtain ⟨cl119, Ar119, qa119, Sa119, Na119, Ha119, Ga119⟩ := id Vxj_v121
                have hin122 : ¬ ((0 : Int32) < 0 ∨ cl119.slots.size ≤ ((0 : Int32)).toNatClampNeg) := inb_of Sa119 ⟨by decide, by decide⟩
                have hat122 : cl119.slots[((0 : Int32)).toNatClampNeg]? = some (.long x0) := Has.at Ha119 hin122 rfl
                refine own_go (B := T87.setTop (mkF m 342 (LS_JsJsJsJsJsJsJsRIIIIIRRRu q0 q1 q2 q3 q4 q5 (36028797018963967 : Int64) b1 (((q5.toUInt64 >>> ((61 : Int32) &&& 0x3f).toInt64.toUInt64).toInt64).toInt32) fA fB (1 : Int32) (0 : Int32) b22 o69 b70) [(.int (lcmpW x0 (0 : Int64)))])) (fun t k => ?_) ?_
                · refine XS.iload X87.here hx rfl (hb hby at_330) rfl ?_
                  refine XS.ifNo X87.here hx rfl (hb hby at_332) rfl ((if0 _ _).trans (feq (by decide : ¬ ((1 : Int32) = (0 : Int32)))).1) ?_
                  show Steps p.tables e below (T87.setTop (mkF m 335 (LS_JsJsJsJsJsJsJsRIIIIIRRRu q0 q1 q2 q3 q4 q5 (36028797018963967 : Int64) b1 (((q5.toUInt64 >>> ((61 : Int32) &&& 0x3f).toInt64.toUInt64).toInt64).toInt32) fA fB (1 : Int32) (0 : Int32) b22 o69 b70) [])) _
                  refine XS.aload X87.here hx rfl (hb hby at_335) rfl rfl ?_
                  refine XS.iload X87.here hx rfl (hb hby at_337) rfl ?_
                  refine X87.laload hx (j := (0 : Int32)) (v := (.long x0)) Ar119.1 (State.isArrayOf_alike hZ.alike Ar119.2.1) Ar119.2.2 hin122 hat122 (g := (mkF m 339 (LS_JsJsJsJsJsJsJsRIIIIIRRRu q0 q1 q2 q3 q4 q5 (36028797018963967 : Int64) b1 (((q5.toUInt64 >>> ((61 : Int32) &&& 0x3f).toInt64.toUInt64).toInt64).toInt32) fA fB (1 : Int32) (0 : Int32) b22 o69 b70) [(.int (0 : Int32)), (.ref b1)])) rfl rfl (hb hby at_339) _ ?_
                  show Steps p.tables e below (T87.setTop (mkF m 340 (LS_JsJsJsJsJsJsJsRIIIIIRRRu q0 q1 q2 q3 q4 q5 (36028797018963967 : Int64) b1 (((q5.toUInt64 >>> ((61 : Int32) &&& 0x3f).toInt64.toUInt64).toInt64).toInt32) fA fB (1 : Int32) (0 : Int32) b22 o69 b70) [(.long x0)])) _
                  refine XS.lconst X87.here hx rfl (hb hby at_340) ?_
                  refine XS.lcmp X87.here hx rfl (hb hby at_341) rfl ?_
                  exact k
                by_cases hc342_123 : x0 = (0 : Int64)
                · refine own_go (B := T87.setTop (mkF m 360 (LS_JsJsJsJsJsJsJsRIIIIIRRRI q0 q1 q2 q3 q4 q5 (36028797018963967 : Int64) b1 (((q5.toUInt64 >>> ((61 : Int32) &&& 0x3f).toInt64.toUInt64).toInt64).toInt32) fA fB (1 : Int32) (0 : Int32) b22 o69 b70 (1 : Int32)) [(.int (14 : Int32)), (.ref b70), (.int (7 : Int32)), (.ref b70)])) (fun t k => ?_) ?_
                  · refine XS.ifNo X87.here hx rfl (hb hby at_342) rfl ((if0 _ _).trans (teq ((lw_eq x0 (0 : Int64)).mpr hc342_123)).2) ?_
                    refine XS.iconst X87.here hx rfl (hb hby at_345) ?_
                    show Steps p.tables e below (T87.setTop (mkF m 346 (LS_JsJsJsJsJsJsJsRIIIIIRRRu q0 q1 q2 q3 q4 q5 (36028797018963967 : Int64) b1 (((q5.toUInt64 >>> ((61 : Int32) &&& 0x3f).toInt64.toUInt64).toInt64).toInt32) fA fB (1 : Int32) (0 : Int32) b22 o69 b70) [(.int (1 : Int32))])) _
                    refine XS.goto X87.here hx rfl (pc0 := 346) (pc' := 350) rfl (hb hby at_346) (by decide) (by decide) ?_
                    refine XS.istore X87.here hx rfl (hb hby at_350) rfl (l' := (LS_JsJsJsJsJsJsJsRIIIIIRRRI q0 q1 q2 q3 q4 q5 (36028797018963967 : Int64) b1 (((q5.toUInt64 >>> ((61 : Int32) &&& 0x3f).toInt64.toUInt64).toInt64).toInt32) fA fB (1 : Int32) (0 : Int32) b22 o69 b70 (1 : Int32))) rfl ?_
                    refine XS.aload X87.here hx rfl (hb hby at_352) rfl rfl ?_
                    show Steps p.tables e below (T87.setTop (mkF m 354 (LS_JsJsJsJsJsJsJsRIIIIIRRRI q0 q1 q2 q3 q4 q5 (36028797018963967 : Int64) b1 (((q5.toUInt64 >>> ((61 : Int32) &&& 0x3f).toInt64.toUInt64).toInt64).toInt32) fA fB (1 : Int32) (0 : Int32) b22 o69 b70 (1 : Int32)) [(.ref b70)])) _
                    refine XS.bipush X87.here hx rfl (hb hby at_354) ?_
                    refine XS.aload X87.here hx rfl (hb hby at_356) rfl rfl ?_
                    refine XS.bipush X87.here hx rfl (hb hby at_358) ?_
                    exact k
                  obtain ⟨cl124, Ar124, qa124, Sa124, Na124, Ha124, Ga124⟩ := id V87b
                  have hi124_0 : ¬ ((7 : Int32) < 0 ∨ cl124.slots.size ≤ ((7 : Int32)).toNatClampNeg) := inb_of Sa124 ⟨by decide, by decide⟩
                  have thi124_0 : cl124.slots[((7 : Int32)).toNatClampNeg]? = some (.long z79_0) := Has.at Ha124 hi124_0 rfl
                  have hi124_1 : ¬ (((7 : Int32) + (1 : Int32)) < 0 ∨ cl124.slots.size ≤ (((7 : Int32) + (1 : Int32))).toNatClampNeg) := inb_of Sa124 ⟨by decide, by decide⟩
                  have thi124_1 : cl124.slots[(((7 : Int32) + (1 : Int32))).toNatClampNeg]? = some (.long z79_1) := Has.at Ha124 hi124_1 rfl
                  have hi124_2 : ¬ (((7 : Int32) + (2 : Int32)) < 0 ∨ cl124.slots.size ≤ (((7 : Int32) + (2 : Int32))).toNatClampNeg) := inb_of Sa124 ⟨by decide, by decide⟩
                  have thi124_2 : cl124.slots[(((7 : Int32) + (2 : Int32))).toNatClampNeg]? = some (.long z79_2) := Has.at Ha124 hi124_2 rfl
                  have hi124_3 : ¬ (((7 : Int32) + (3 : Int32)) < 0 ∨ cl124.slots.size ≤ (((7 : Int32) + (3 : Int32))).toNatClampNeg) := inb_of Sa124 ⟨by decide, by decide⟩
                  have thi124_3 : cl124.slots[(((7 : Int32) + (3 : Int32))).toNatClampNeg]? = some (.long z79_3) := Has.at Ha124 hi124_3 rfl
                  have hi124_4 : ¬ (((7 : Int32) + (4 : Int32)) < 0 ∨ cl124.slots.size ≤ (((7 : Int32) + (4 : Int32))).toNatClampNeg) := inb_of Sa124 ⟨by decide, by decide⟩
                  have thi124_4 : cl124.slots[(((7 : Int32) + (4 : Int32))).toNatClampNeg]? = some (.long z79_4) := Has.at Ha124 hi124_4 rfl
                  have hi124_5 : ¬ (((7 : Int32) + (5 : Int32)) < 0 ∨ cl124.slots.size ≤ (((7 : Int32) + (5 : Int32))).toNatClampNeg) := inb_of Sa124 ⟨by decide, by decide⟩
                  have thi124_5 : cl124.slots[(((7 : Int32) + (5 : Int32))).toNatClampNeg]? = some (.long z79_5) := Has.at Ha124 hi124_5 rfl
                  have hi124_6 : ¬ (((7 : Int32) + (6 : Int32)) < 0 ∨ cl124.slots.size ≤ (((7 : Int32) + (6 : Int32))).toNatClampNeg) := inb_of Sa124 ⟨by decide, by decide⟩
                  have thi124_6 : cl124.slots[(((7 : Int32) + (6 : Int32))).toNatClampNeg]? = some (.long z79_6) := Has.at Ha124 hi124_6 rfl
                  have gi124_0 : ¬ ((14 : Int32) < 0 ∨ cl124.slots.size ≤ ((14 : Int32)).toNatClampNeg) := inb_of Sa124 ⟨by decide, by decide⟩
                  have tgi124_0 : cl124.slots[((14 : Int32)).toNatClampNeg]? = some (.long z87_0) := Has.at Ha124 gi124_0 rfl
                  have gi124_1 : ¬ (((14 : Int32) + (1 : Int32)) < 0 ∨ cl124.slots.size ≤ (((14 : Int32) + (1 : Int32))).toNatClampNeg) := inb_of Sa124 ⟨by decide, by decide⟩
                  have tgi124_1 : cl124.slots[(((14 : Int32) + (1 : Int32))).toNatClampNeg]? = some (.long z87_1) := Has.at Ha124 gi124_1 rfl
                  have gi124_2 : ¬ (((14 : Int32) + (2 : Int32)) < 0 ∨ cl124.slots.size ≤ (((14 : Int32) + (2 : Int32))).toNatClampNeg) := inb_of Sa124 ⟨by decide, by decide⟩
                  have tgi124_2 : cl124.slots[(((14 : Int32) + (2 : Int32))).toNatClampNeg]? = some (.long z87_2) := Has.at Ha124 gi124_2 rfl
                  have gi124_3 : ¬ (((14 : Int32) + (3 : Int32)) < 0 ∨ cl124.slots.size ≤ (((14 : Int32) + (3 : Int32))).toNatClampNeg) := inb_of Sa124 ⟨by decide, by decide⟩
                  have tgi124_3 : cl124.slots[(((14 : Int32) + (3 : Int32))).toNatClampNeg]? = some (.long z87_3) := Has.at Ha124 gi124_3 rfl
                  have gi124_4 : ¬ (((14 : Int32) + (4 : Int32)) < 0 ∨ cl124.slots.size ≤ (((14 : Int32) + (4 : Int32))).toNatClampNeg) := inb_of Sa124 ⟨by decide, by decide⟩
                  have tgi124_4 : cl124.slots[(((14 : Int32) + (4 : Int32))).toNatClampNeg]? = some (.long z87_4) := Has.at Ha124 gi124_4 rfl
                  have gi124_5 : ¬ (((14 : Int32) + (5 : Int32)) < 0 ∨ cl124.slots.size ≤ (((14 : Int32) + (5 : Int32))).toNatClampNeg) := inb_of Sa124 ⟨by decide, by decide⟩
                  have tgi124_5 : cl124.slots[(((14 : Int32) + (5 : Int32))).toNatClampNeg]? = some (.long z87_5) := Has.at Ha124 gi124_5 rfl
                  have gi124_6 : ¬ (((14 : Int32) + (6 : Int32)) < 0 ∨ cl124.slots.size ≤ (((14 : Int32) + (6 : Int32))).toNatClampNeg) := inb_of Sa124 ⟨by decide, by decide⟩
                  have tgi124_6 : cl124.slots[(((14 : Int32) + (6 : Int32))).toNatClampNeg]? = some (.long z87_6) := Has.at Ha124 gi124_6 rfl
                  have Zj_v125 := Nat.le_trans Zj_v81 K87.1
                  have Sj0_v126 := own_sta_keep Sj0 K69 all0
                  have Sj0_v127 := Sj0_v126.ext E70
                  have Sj0_v128 := own_sta_keep Sj0_v127 K79 (allS (own_plain_V V70) all0)
                  have Sj0_v129 := own_sta_keep Sj0_v128 K87 (allS (own_plain_V V79b) all0)
                  have Sj1_v130 := own_sta_keep Sj1 K69 all0
                  have Sj1_v131 := Sj1_v130.ext E70
                  have Sj1_v132 := own_sta_keep Sj1_v131 K79 (allS (own_plain_V V70) all0)
                  have Sj1_v133 := own_sta_keep Sj1_v132 K87 (allS (own_plain_V V79b) all0)
                  have Sj2_v134 := own_sta_keep Sj2 K69 all0
                  have Sj2_v135 := Sj2_v134.ext E70
                  have Sj2_v136 := own_sta_keep Sj2_v135 K79 (allS (own_plain_V V70) all0)
                  have Sj2_v137 := own_sta_keep Sj2_v136 K87 (allS (own_plain_V V79b) all0)
                  have Sj3_v138 := own_sta_keep Sj3 K69 all0
                  have Sj3_v139 := Sj3_v138.ext E70
                  have Sj3_v140 := own_sta_keep Sj3_v139 K79 (allS (own_plain_V V70) all0)
                  have Sj3_v141 := own_sta_keep Sj3_v140 K87 (allS (own_plain_V V79b) all0)
                  have Sj4_v142 := own_sta_keep Sj4 K69 all0
                  have Sj4_v143 := Sj4_v142.ext E70
                  have Sj4_v144 := own_sta_keep Sj4_v143 K79 (allS (own_plain_V V70) all0)
                  have Sj4_v145 := own_sta_keep Sj4_v144 K87 (allS (own_plain_V V79b) all0)
                  have Sj5_v146 := own_sta_keep Sj5 K69 all0
                  have Sj5_v147 := Sj5_v146.ext E70
                  have Sj5_v148 := own_sta_keep Sj5_v147 K79 (allS (own_plain_V V70) all0)
                  have Sj5_v149 := own_sta_keep Sj5_v148 K87 (allS (own_plain_V V79b) all0)
                  have Sj6_v150 := own_sta_keep Sj6 K69 all0
                  have Sj6_v151 := Sj6_v150.ext E70
                  have Sj6_v152 := own_sta_keep Sj6_v151 K79 (allS (own_plain_V V70) all0)
                  have Sj6_v153 := own_sta_keep Sj6_v152 K87 (allS (own_plain_V V79b) all0)
                  obtain ⟨_, _, ⟨T154, L154, k154, n154⟩, -, X154, ⟨Lc154, hQ154, l154, y154, z154⟩, st154⟩ := Jvm.LawKit.callS X87 hx (y := (⟨"com/example/barred_rows/barredrows/crypto/Fp", "equal", "([JI[JI)Z"⟩ : MethodName)) hown (mvT hZ (hw _ (List.mem_of_getElem? (i := 20) rfl))) (mvT hZ (hw _ (List.mem_of_getElem? (i := 21) rfl))) (mvT hZ (hw _ (List.mem_of_getElem? (i := 22) rfl))) (mvT hZ (hw _ (List.mem_of_getElem? (i := 23) rfl))) (by decide) (backOf (W := 0) (rm4 l Z a0 hw [] b70 (7 : Int32) (14 : Int32) cl124 z79_0 z79_1 z79_2 z79_3 z79_4 z79_5 z79_6 z87_0 z87_1 z87_2 z87_3 z87_4 z87_5 z87_6 T87.heap n0 Zj_v125 Ar124 hi124_0 hi124_1 hi124_2 hi124_3 hi124_4 hi124_5 hi124_6 thi124_0 thi124_1 thi124_2 thi124_3 thi124_4 thi124_5 thi124_6 gi124_0 gi124_1 gi124_2 gi124_3 gi124_4 gi124_5 gi124_6 tgi124_0 tgi124_1 tgi124_2 tgi124_3 tgi124_4 tgi124_5 tgi124_6 Sj0_v129 Sj1_v133 Sj2_v137 Sj3_v141 Sj4_v145 Sj5_v149 Sj6_v153) hZ (hw _ (List.mem_of_getElem? (i := 23) rfl)) (hw _ (List.mem_of_getElem? (i := 22) rfl)) (by decide) (by decide)) (g := (mkF m 360 (LS_JsJsJsJsJsJsJsRIIIIIRRRI q0 q1 q2 q3 q4 q5 (36028797018963967 : Int64) b1 (((q5.toUInt64 >>> ((61 : Int32) &&& 0x3f).toInt64.toUInt64).toInt64).toInt32) fA fB (1 : Int32) (0 : Int32) b22 o69 b70 (1 : Int32)) [(.int (14 : Int32)), (.ref b70), (.int (7 : Int32)), (.ref b70)])) rfl (by rw [hml]; rfl) (argsL := [(.ref b70), (.int (7 : Int32)), (.ref b70), (.int (14 : Int32))]) (rest := []) (lenOf pd___JI_JI_Z rfl) rfl (by show 2 * 0 + _ ≤ _; exact Nat.le_of_eq rfl) (hb hby at_360) (fun _ _ => ⟨rfl, rfl, (by decide : 4 + 2 ≤ _), (by decide : 42 + 14 ≤ _)⟩)
                  dsimp only [Pt.U, Pt.locs, Pt.cells, Pt.slots] at X154 l154 y154 z154 st154 hQ154
                  subst l154 y154 z154
                  obtain ⟨rfl, N154q⟩ := hQ154
                  have N154 := Fr.app N87 N154q
                  refine own_go (B := T154.setTop (mkF m 363 (LS_JsJsJsJsJsJsJsRIIIIIRRRI q0 q1 q2 q3 q4 q5 (36028797018963967 : Int64) b1 (((q5.toUInt64 >>> ((61 : Int32) &&& 0x3f).toInt64.toUInt64).toInt64).toInt32) fA fB (1 : Int32) (0 : Int32) b22 o69 b70 (1 : Int32)) [(.int (if ((((((((own_c0 z79_0 z79_1 z79_2 z79_3 z79_4 z79_5 z79_6) ^^^ (own_c0 z87_0 z87_1 z87_2 z87_3 z87_4 z87_5 z87_6)) ||| ((own_c1 z79_0 z79_1 z79_2 z79_3 z79_4 z79_5 z79_6) ^^^ (own_c1 z87_0 z87_1 z87_2 z87_3 z87_4 z87_5 z87_6))) ||| ((own_c2 z79_0 z79_1 z79_2 z79_3 z79_4 z79_5 z79_6) ^^^ (own_c2 z87_0 z87_1 z87_2 z87_3 z87_4 z87_5 z87_6))) ||| ((own_c3 z79_0 z79_1 z79_2 z79_3 z79_4 z79_5 z79_6) ^^^ (own_c3 z87_0 z87_1 z87_2 z87_3 z87_4 z87_5 z87_6))) ||| ((own_c4 z79_0 z79_1 z79_2 z79_3 z79_4 z79_5 z79_6) ^^^ (own_c4 z87_0 z87_1 z87_2 z87_3 z87_4 z87_5 z87_6))) ||| ((own_c5 z79_0 z79_1 z79_2 z79_3 z79_4 z79_5 z79_6) ^^^ (own_c5 z87_0 z87_1 z87_2 z87_3 z87_4 z87_5 z87_6))) ||| ((own_c6 z79_0 z79_1 z79_2 z79_3 z79_4 z79_5 z79_6) ^^^ (own_c6 z87_0 z87_1 z87_2 z87_3 z87_4 z87_5 z87_6))) = (0 : Int64) then (1 : Int32) else (0 : Int32)))])) (fun t k => st154 _ k) ?_
                  rw [c79_0, c79_1, c79_2, c79_3, c79_4, c79_5, c79_6, c87_0, c87_1, c87_2, c87_3, c87_4, c87_5, c87_6]
                  refine own_go (B := T154.setTop (mkF m 373 (LS_JsJsJsJsJsJsJsRIIIIIRRRI q0 q1 q2 q3 q4 q5 (36028797018963967 : Int64) b1 (((q5.toUInt64 >>> ((61 : Int32) &&& 0x3f).toInt64.toUInt64).toInt64).toInt32) fA fB (1 : Int32) (0 : Int32) b22 o69 b70 (1 : Int32)) [(.int (1 : Int32))])) (fun t k => ?_) ?_
                  · refine XS.iload X154.here hx rfl (hb hby at_363) rfl ?_
                    refine XS.icmpNo X154.here hx rfl (hb hby at_365) rfl (teq (if_pos ((own_eq0 bx0 bx1 bx2 bx3 bx4 bx5 bx6).mpr hc342_123))).2 ?_
                    show Steps p.tables e below (T154.setTop (mkF m 368 (LS_JsJsJsJsJsJsJsRIIIIIRRRI q0 q1 q2 q3 q4 q5 (36028797018963967 : Int64) b1 (((q5.toUInt64 >>> ((61 : Int32) &&& 0x3f).toInt64.toUInt64).toInt64).toInt32) fA fB (1 : Int32) (0 : Int32) b22 o69 b70 (1 : Int32)) [])) _
                    refine XS.iconst X154.here hx rfl (hb hby at_368) ?_
                    refine XS.goto X154.here hx rfl (pc0 := 369) (pc' := 373) rfl (hb hby at_369) (by decide) (by decide) ?_
                    exact k
                  obtain ⟨fs, hr, hrun, hended, hW, hsame⟩ := X154.leave (v := some (.int (1 : Int32))) (fun h => by rw [Bd.returns] at h; cases h)
                  refine ⟨_, _, ?_, hrun, hended, _, _, rfl, ?_, ⟨_, rfl⟩, hW, hsame.mono (by decide) (by decide)⟩
                  · show Steps p.tables e below (T154.setTop (mkF m 373 (LS_JsJsJsJsJsJsJsRIIIIIRRRI q0 q1 q2 q3 q4 q5 (36028797018963967 : Int64) b1 (((q5.toUInt64 >>> ((61 : Int32) &&& 0x3f).toInt64.toUInt64).toInt64).toInt32) fA fB (1 : Int32) (0 : Int32) b22 o69 b70 (1 : Int32)) [(.int (1 : Int32))])) _
                    exact retN X154 hx (t := .boolean) Bd.returns (by simp) (hb hby at_373) hr
                  · show Q0 Z q0 q1 q2 q3 q4 q5 h0 n0 _ T154.heap _
                    exact ⟨rfl, N154⟩
                · refine own_go (B := T87.setTop (mkF m 360 (LS_JsJsJsJsJsJsJsRIIIIIRRRI q0 q1 q2 q3 q4 q5 (36028797018963967 : Int64) b1 (((q5.toUInt64 >>> ((61 : Int32) &&& 0x3f).toInt64.toUInt64).toInt64).toInt32) fA fB (1 : Int32) (0 : Int32) b22 o69 b70 (0 : Int32)) [(.int (14 : Int32)), (.ref b70), (.int (7 : Int32)), (.ref b70)])) (fun t k => ?_) ?_
                  · refine XS.ifYes X87.here hx rfl (pc0 := 342) (pc' := 349) rfl (hb hby at_342) rfl ((if0 _ _).trans (feq (fun q => hc342_123 ((lw_eq x0 (0 : Int64)).mp q))).2) (by decide) (by decide) ?_
                    refine XS.iconst X87.here hx rfl (hb hby at_349) ?_
                    show Steps p.tables e below (T87.setTop (mkF m 350 (LS_JsJsJsJsJsJsJsRIIIIIRRRu q0 q1 q2 q3 q4 q5 (36028797018963967 : Int64) b1 (((q5.toUInt64 >>> ((61 : Int32) &&& 0x3f).toInt64.toUInt64).toInt64).toInt32) fA fB (1 : Int32) (0 : Int32) b22 o69 b70) [(.int (0 : Int32))])) _
                    refine XS.istore X87.here hx rfl (hb hby at_350) rfl (l' := (LS_JsJsJsJsJsJsJsRIIIIIRRRI q0 q1 q2 q3 q4 q5 (36028797018963967 : Int64) b1 (((q5.toUInt64 >>> ((61 : Int32) &&& 0x3f).toInt64.toUInt64).toInt64).toInt32) fA fB (1 : Int32) (0 : Int32) b22 o69 b70 (0 : Int32))) rfl ?_
                    refine XS.aload X87.here hx rfl (hb hby at_352) rfl rfl ?_
                    refine XS.bipush X87.here hx rfl (hb hby at_354) ?_
                    show Steps p.tables e below (T87.setTop (mkF m 356 (LS_JsJsJsJsJsJsJsRIIIIIRRRI q0 q1 q2 q3 q4 q5 (36028797018963967 : Int64) b1 (((q5.toUInt64 >>> ((61 : Int32) &&& 0x3f).toInt64.toUInt64).toInt64).toInt32) fA fB (1 : Int32) (0 : Int32) b22 o69 b70 (0 : Int32)) [(.int (7 : Int32)), (.ref b70)])) _
                    refine XS.aload X87.here hx rfl (hb hby at_356) rfl rfl ?_
                    refine XS.bipush X87.here hx rfl (hb hby at_358) ?_
                    exact k
                  obtain ⟨cl155, Ar155, qa155, Sa155, Na155, Ha155, Ga155⟩ := id V87b
                  have hi155_0 : ¬ ((7 : Int32) < 0 ∨ cl155.slots.size ≤ ((7 : Int32)).toNatClampNeg) := inb_of Sa155 ⟨by decide, by decide⟩
                  have thi155_0 : cl155.slots[((7 : Int32)).toNatClampNeg]? = some (.long z79_0) := Has.at Ha155 hi155_0 rfl
                  have hi155_1 : ¬ (((7 : Int32) + (1 : Int32)) < 0 ∨ cl155.slots.size ≤ (((7 : Int32) + (1 : Int32))).toNatClampNeg) := inb_of Sa155 ⟨by decide, by decide⟩
                  have thi155_1 : cl155.slots[(((7 : Int32) + (1 : Int32))).toNatClampNeg]? = some (.long z79_1) := Has.at Ha155 hi155_1 rfl
                  have hi155_2 : ¬ (((7 : Int32) + (2 : Int32)) < 0 ∨ cl155.slots.size ≤ (((7 : Int32) + (2 : Int32))).toNatClampNeg) := inb_of Sa155 ⟨by decide, by decide⟩
                  have thi155_2 : cl155.slots[(((7 : Int32) + (2 : Int32))).toNatClampNeg]? = some (.long z79_2) := Has.at Ha155 hi155_2 rfl
                  have hi155_3 : ¬ (((7 : Int32) + (3 : Int32)) < 0 ∨ cl155.slots.size ≤ (((7 : Int32) + (3 : Int32))).toNatClampNeg) := inb_of Sa155 ⟨by decide, by decide⟩
                  have thi155_3 : cl155.slots[(((7 : Int32) + (3 : Int32))).toNatClampNeg]? = some (.long z79_3) := Has.at Ha155 hi155_3 rfl
                  have hi155_4 : ¬ (((7 : Int32) + (4 : Int32)) < 0 ∨ cl155.slots.size ≤ (((7 : Int32) + (4 : Int32))).toNatClampNeg) := inb_of Sa155 ⟨by decide, by decide⟩
                  have thi155_4 : cl155.slots[(((7 : Int32) + (4 : Int32))).toNatClampNeg]? = some (.long z79_4) := Has.at Ha155 hi155_4 rfl
                  have hi155_5 : ¬ (((7 : Int32) + (5 : Int32)) < 0 ∨ cl155.slots.size ≤ (((7 : Int32) + (5 : Int32))).toNatClampNeg) := inb_of Sa155 ⟨by decide, by decide⟩
                  have thi155_5 : cl155.slots[(((7 : Int32) + (5 : Int32))).toNatClampNeg]? = some (.long z79_5) := Has.at Ha155 hi155_5 rfl
                  have hi155_6 : ¬ (((7 : Int32) + (6 : Int32)) < 0 ∨ cl155.slots.size ≤ (((7 : Int32) + (6 : Int32))).toNatClampNeg) := inb_of Sa155 ⟨by decide, by decide⟩
                  have thi155_6 : cl155.slots[(((7 : Int32) + (6 : Int32))).toNatClampNeg]? = some (.long z79_6) := Has.at Ha155 hi155_6 rfl
                  have gi155_0 : ¬ ((14 : Int32) < 0 ∨ cl155.slots.size ≤ ((14 : Int32)).toNatClampNeg) := inb_of Sa155 ⟨by decide, by decide⟩
                  have tgi155_0 : cl155.slots[((14 : Int32)).toNatClampNeg]? = some (.long z87_0) := Has.at Ha155 gi155_0 rfl
                  have gi155_1 : ¬ (((14 : Int32) + (1 : Int32)) < 0 ∨ cl155.slots.size ≤ (((14 : Int32) + (1 : Int32))).toNatClampNeg) := inb_of Sa155 ⟨by decide, by decide⟩
                  have tgi155_1 : cl155.slots[(((14 : Int32) + (1 : Int32))).toNatClampNeg]? = some (.long z87_1) := Has.at Ha155 gi155_1 rfl
                  have gi155_2 : ¬ (((14 : Int32) + (2 : Int32)) < 0 ∨ cl155.slots.size ≤ (((14 : Int32) + (2 : Int32))).toNatClampNeg) := inb_of Sa155 ⟨by decide, by decide⟩
                  have tgi155_2 : cl155.slots[(((14 : Int32) + (2 : Int32))).toNatClampNeg]? = some (.long z87_2) := Has.at Ha155 gi155_2 rfl
                  have gi155_3 : ¬ (((14 : Int32) + (3 : Int32)) < 0 ∨ cl155.slots.size ≤ (((14 : Int32) + (3 : Int32))).toNatClampNeg) := inb_of Sa155 ⟨by decide, by decide⟩
                  have tgi155_3 : cl155.slots[(((14 : Int32) + (3 : Int32))).toNatClampNeg]? = some (.long z87_3) := Has.at Ha155 gi155_3 rfl
                  have gi155_4 : ¬ (((14 : Int32) + (4 : Int32)) < 0 ∨ cl155.slots.size ≤ (((14 : Int32) + (4 : Int32))).toNatClampNeg) := inb_of Sa155 ⟨by decide, by decide⟩
                  have tgi155_4 : cl155.slots[(((14 : Int32) + (4 : Int32))).toNatClampNeg]? = some (.long z87_4) := Has.at Ha155 gi155_4 rfl
                  have gi155_5 : ¬ (((14 : Int32) + (5 : Int32)) < 0 ∨ cl155.slots.size ≤ (((14 : Int32) + (5 : Int32))).toNatClampNeg) := inb_of Sa155 ⟨by decide, by decide⟩
                  have tgi155_5 : cl155.slots[(((14 : Int32) + (5 : Int32))).toNatClampNeg]? = some (.long z87_5) := Has.at Ha155 gi155_5 rfl
                  have gi155_6 : ¬ (((14 : Int32) + (6 : Int32)) < 0 ∨ cl155.slots.size ≤ (((14 : Int32) + (6 : Int32))).toNatClampNeg) := inb_of Sa155 ⟨by decide, by decide⟩
                  have tgi155_6 : cl155.slots[(((14 : Int32) + (6 : Int32))).toNatClampNeg]? = some (.long z87_6) := Has.at Ha155 gi155_6 rfl
                  have Zj_v156 := Nat.le_trans Zj_v81 K87.1
                  have Sj0_v157 := own_sta_keep Sj0 K69 all0
                  have Sj0_v158 := Sj0_v157.ext E70
                  have Sj0_v159 := own_sta_keep Sj0_v158 K79 (allS (own_plain_V V70) all0)
                  have Sj0_v160 := own_sta_keep Sj0_v159 K87 (allS (own_plain_V V79b) all0)
                  have Sj1_v161 := own_sta_keep Sj1 K69 all0
                  have Sj1_v162 := Sj1_v161.ext E70
                  have Sj1_v163 := own_sta_keep Sj1_v162 K79 (allS (own_plain_V V70) all0)
                  have Sj1_v164 := own_sta_keep Sj1_v163 K87 (allS (own_plain_V V79b) all0)
                  have Sj2_v165 := own_sta_keep Sj2 K69 all0
                  have Sj2_v166 := Sj2_v165.ext E70
                  have Sj2_v167 := own_sta_keep Sj2_v166 K79 (allS (own_plain_V V70) all0)
                  have Sj2_v168 := own_sta_keep Sj2_v167 K87 (allS (own_plain_V V79b) all0)
                  have Sj3_v169 := own_sta_keep Sj3 K69 all0
                  have Sj3_v170 := Sj3_v169.ext E70
                  have Sj3_v171 := own_sta_keep Sj3_v170 K79 (allS (own_plain_V V70) all0)
                  have Sj3_v172 := own_sta_keep Sj3_v171 K87 (allS (own_plain_V V79b) all0)
                  have Sj4_v173 := own_sta_keep Sj4 K69 all0
                  have Sj4_v174 := Sj4_v173.ext E70
                  have Sj4_v175 := own_sta_keep Sj4_v174 K79 (allS (own_plain_V V70) all0)
                  have Sj4_v176 := own_sta_keep Sj4_v175 K87 (allS (own_plain_V V79b) all0)
                  have Sj5_v177 := own_sta_keep Sj5 K69 all0
                  have Sj5_v178 := Sj5_v177.ext E70
                  have Sj5_v179 := own_sta_keep Sj5_v178 K79 (allS (own_plain_V V70) all0)
                  have Sj5_v180 := own_sta_keep Sj5_v179 K87 (allS (own_plain_V V79b) all0)
                  have Sj6_v181 := own_sta_keep Sj6 K69 all0
                  have Sj6_v182 := Sj6_v181.ext E70
                  have Sj6_v183 := own_sta_keep Sj6_v182 K79 (allS (own_plain_V V70) all0)
                  have Sj6_v184 := own_sta_keep Sj6_v183 K87 (allS (own_plain_V V79b) all0)
                  obtain ⟨_, _, ⟨T185, L185, k185, n185⟩, -, X185, ⟨Lc185, hQ185, l185, y185, z185⟩, st185⟩ := Jvm.LawKit.callS X87 hx (y := (⟨"com/example/barred_rows/barredrows/crypto/Fp", "equal", "([JI[JI)Z"⟩ : MethodName)) hown (mvT hZ (hw _ (List.mem_of_getElem? (i := 20) rfl))) (mvT hZ (hw _ (List.mem_of_getElem? (i := 21) rfl))) (mvT hZ (hw _ (List.mem_of_getElem? (i := 22) rfl))) (mvT hZ (hw _ (List.mem_of_getElem? (i := 23) rfl))) (by decide) (backOf (W := 0) (rm4 l Z a0 hw [] b70 (7 : Int32) (14 : Int32) cl155 z79_0 z79_1 z79_2 z79_3 z79_4 z79_5 z79_6 z87_0 z87_1 z87_2 z87_3 z87_4 z87_5 z87_6 T87.heap n0 Zj_v156 Ar155 hi155_0 hi155_1 hi155_2 hi155_3 hi155_4 hi155_5 hi155_6 thi155_0 thi155_1 thi155_2 thi155_3 thi155_4 thi155_5 thi155_6 gi155_0 gi155_1 gi155_2 gi155_3 gi155_4 gi155_5 gi155_6 tgi155_0 tgi155_1 tgi155_2 tgi155_3 tgi155_4 tgi155_5 tgi155_6 Sj0_v160 Sj1_v164 Sj2_v168 Sj3_v172 Sj4_v176 Sj5_v180 Sj6_v184) hZ (hw _ (List.mem_of_getElem? (i := 23) rfl)) (hw _ (List.mem_of_getElem? (i := 22) rfl)) (by decide) (by decide)) (g := (mkF m 360 (LS_JsJsJsJsJsJsJsRIIIIIRRRI q0 q1 q2 q3 q4 q5 (36028797018963967 : Int64) b1 (((q5.toUInt64 >>> ((61 : Int32) &&& 0x3f).toInt64.toUInt64).toInt64).toInt32) fA fB (1 : Int32) (0 : Int32) b22 o69 b70 (0 : Int32)) [(.int (14 : Int32)), (.ref b70), (.int (7 : Int32)), (.ref b70)])) rfl (by rw [hml]; rfl) (argsL := [(.ref b70), (.int (7 : Int32)), (.ref b70), (.int (14 : Int32))]) (rest := []) (lenOf pd___JI_JI_Z rfl) rfl (by show 2 * 0 + _ ≤ _; exact Nat.le_of_eq rfl) (hb hby at_360) (fun _ _ => ⟨rfl, rfl, (by decide : 4 + 2 ≤ _), (by decide : 42 + 14 ≤ _)⟩)
                  dsimp only [Pt.U, Pt.locs, Pt.cells, Pt.slots] at X185 l185 y185 z185 st185 hQ185
                  subst l185 y185 z185
                  obtain ⟨rfl, N185q⟩ := hQ185
                  have N185 := Fr.app N87 N185q
                  refine own_go (B := T185.setTop (mkF m 363 (LS_JsJsJsJsJsJsJsRIIIIIRRRI q0 q1 q2 q3 q4 q5 (36028797018963967 : Int64) b1 (((q5.toUInt64 >>> ((61 : Int32) &&& 0x3f).toInt64.toUInt64).toInt64).toInt32) fA fB (1 : Int32) (0 : Int32) b22 o69 b70 (0 : Int32)) [(.int (if ((((((((own_c0 z79_0 z79_1 z79_2 z79_3 z79_4 z79_5 z79_6) ^^^ (own_c0 z87_0 z87_1 z87_2 z87_3 z87_4 z87_5 z87_6)) ||| ((own_c1 z79_0 z79_1 z79_2 z79_3 z79_4 z79_5 z79_6) ^^^ (own_c1 z87_0 z87_1 z87_2 z87_3 z87_4 z87_5 z87_6))) ||| ((own_c2 z79_0 z79_1 z79_2 z79_3 z79_4 z79_5 z79_6) ^^^ (own_c2 z87_0 z87_1 z87_2 z87_3 z87_4 z87_5 z87_6))) ||| ((own_c3 z79_0 z79_1 z79_2 z79_3 z79_4 z79_5 z79_6) ^^^ (own_c3 z87_0 z87_1 z87_2 z87_3 z87_4 z87_5 z87_6))) ||| ((own_c4 z79_0 z79_1 z79_2 z79_3 z79_4 z79_5 z79_6) ^^^ (own_c4 z87_0 z87_1 z87_2 z87_3 z87_4 z87_5 z87_6))) ||| ((own_c5 z79_0 z79_1 z79_2 z79_3 z79_4 z79_5 z79_6) ^^^ (own_c5 z87_0 z87_1 z87_2 z87_3 z87_4 z87_5 z87_6))) ||| ((own_c6 z79_0 z79_1 z79_2 z79_3 z79_4 z79_5 z79_6) ^^^ (own_c6 z87_0 z87_1 z87_2 z87_3 z87_4 z87_5 z87_6))) = (0 : Int64) then (1 : Int32) else (0 : Int32)))])) (fun t k => st185 _ k) ?_
                  rw [c79_0, c79_1, c79_2, c79_3, c79_4, c79_5, c79_6, c87_0, c87_1, c87_2, c87_3, c87_4, c87_5, c87_6]
                  refine own_go (B := T185.setTop (mkF m 373 (LS_JsJsJsJsJsJsJsRIIIIIRRRI q0 q1 q2 q3 q4 q5 (36028797018963967 : Int64) b1 (((q5.toUInt64 >>> ((61 : Int32) &&& 0x3f).toInt64.toUInt64).toInt64).toInt32) fA fB (1 : Int32) (0 : Int32) b22 o69 b70 (0 : Int32)) [(.int (1 : Int32))])) (fun t k => ?_) ?_
                  · refine XS.iload X185.here hx rfl (hb hby at_363) rfl ?_
                    refine XS.icmpNo X185.here hx rfl (hb hby at_365) rfl (teq (if_neg fun q => hc342_123 ((own_eq0 bx0 bx1 bx2 bx3 bx4 bx5 bx6).mp q))).2 ?_
                    show Steps p.tables e below (T185.setTop (mkF m 368 (LS_JsJsJsJsJsJsJsRIIIIIRRRI q0 q1 q2 q3 q4 q5 (36028797018963967 : Int64) b1 (((q5.toUInt64 >>> ((61 : Int32) &&& 0x3f).toInt64.toUInt64).toInt64).toInt32) fA fB (1 : Int32) (0 : Int32) b22 o69 b70 (0 : Int32)) [])) _
                    refine XS.iconst X185.here hx rfl (hb hby at_368) ?_
                    refine XS.goto X185.here hx rfl (pc0 := 369) (pc' := 373) rfl (hb hby at_369) (by decide) (by decide) ?_
                    exact k
                  obtain ⟨fs, hr, hrun, hended, hW, hsame⟩ := X185.leave (v := some (.int (1 : Int32))) (fun h => by rw [Bd.returns] at h; cases h)
                  refine ⟨_, _, ?_, hrun, hended, _, _, rfl, ?_, ⟨_, rfl⟩, hW, hsame.mono (by decide) (by decide)⟩
                  · show Steps p.tables e below (T185.setTop (mkF m 373 (LS_JsJsJsJsJsJsJsRIIIIIRRRI q0 q1 q2 q3 q4 q5 (36028797018963967 : Int64) b1 (((q5.toUInt64 >>> ((61 : Int32) &&& 0x3f).toInt64.toUInt64).toInt64).toInt32) fA fB (1 : Int32) (0 : Int32) b22 o69 b70 (0 : Int32)) [(.int (1 : Int32))])) _
                    exact retN X185 hx (t := .boolean) Bd.returns (by simp) (hb hby at_373) hr
                  · show Q0 Z q0 q1 q2 q3 q4 q5 h0 n0 _ T185.heap _
                    exact ⟨rfl, N185⟩
              · refine own_go (B := T87.setTop (mkF m 330 (LS_JsJsJsJsJsJsJsRIIIIIRRRu q0 q1 q2 q3 q4 q5 (36028797018963967 : Int64) b1 (((q5.toUInt64 >>> ((61 : Int32) &&& 0x3f).toInt64.toUInt64).toInt64).toInt32) fA fB (1 : Int32) (1 : Int32) b22 o69 b70) [])) (fun t k => by rw [hkf]; exact k) ?_
                have Vxj_v187 := Vxj_v75.keep K79 (ninS ne77 nin0)
                have Vxj_v188 := Vxj_v187.keep K87 (ninS ne77 nin0)
                obtain ⟨cl186, Ar186, qa186, Sa186, Na186, Ha186, Ga186⟩ := id Vxj_v188
                have hin189 : ¬ ((1 : Int32) < 0 ∨ cl186.slots.size ≤ ((1 : Int32)).toNatClampNeg) := inb_of Sa186 ⟨by decide, by decide⟩
                have hat189 : cl186.slots[((1 : Int32)).toNatClampNeg]? = some (.long x1) := Has.at Ha186 hin189 rfl
                refine own_go (B := T87.setTop (mkF m 342 (LS_JsJsJsJsJsJsJsRIIIIIRRRu q0 q1 q2 q3 q4 q5 (36028797018963967 : Int64) b1 (((q5.toUInt64 >>> ((61 : Int32) &&& 0x3f).toInt64.toUInt64).toInt64).toInt32) fA fB (1 : Int32) (1 : Int32) b22 o69 b70) [(.int (lcmpW x1 (0 : Int64)))])) (fun t k => ?_) ?_
                · refine XS.iload X87.here hx rfl (hb hby at_330) rfl ?_
                  refine XS.ifNo X87.here hx rfl (hb hby at_332) rfl ((if0 _ _).trans (feq (by decide : ¬ ((1 : Int32) = (0 : Int32)))).1) ?_
                  show Steps p.tables e below (T87.setTop (mkF m 335 (LS_JsJsJsJsJsJsJsRIIIIIRRRu q0 q1 q2 q3 q4 q5 (36028797018963967 : Int64) b1 (((q5.toUInt64 >>> ((61 : Int32) &&& 0x3f).toInt64.toUInt64).toInt64).toInt32) fA fB (1 : Int32) (1 : Int32) b22 o69 b70) [])) _
                  refine XS.aload X87.here hx rfl (hb hby at_335) rfl rfl ?_
                  refine XS.iload X87.here hx rfl (hb hby at_337) rfl ?_
                  refine X87.laload hx (j := (1 : Int32)) (v := (.long x1)) Ar186.1 (State.isArrayOf_alike hZ.alike Ar186.2.1) Ar186.2.2 hin189 hat189 (g := (mkF m 339 (LS_JsJsJsJsJsJsJsRIIIIIRRRu q0 q1 q2 q3 q4 q5 (36028797018963967 : Int64) b1 (((q5.toUInt64 >>> ((61 : Int32) &&& 0x3f).toInt64.toUInt64).toInt64).toInt32) fA fB (1 : Int32) (1 : Int32) b22 o69 b70) [(.int (1 : Int32)), (.ref b1)])) rfl rfl (hb hby at_339) _ ?_
                  show Steps p.tables e below (T87.setTop (mkF m 340 (LS_JsJsJsJsJsJsJsRIIIIIRRRu q0 q1 q2 q3 q4 q5 (36028797018963967 : Int64) b1 (((q5.toUInt64 >>> ((61 : Int32) &&& 0x3f).toInt64.toUInt64).toInt64).toInt32) fA fB (1 : Int32) (1 : Int32) b22 o69 b70) [(.long x1)])) _
                  refine XS.lconst X87.here hx rfl (hb hby at_340) ?_
                  refine XS.lcmp X87.here hx rfl (hb hby at_341) rfl ?_
                  exact k
                by_cases hc342_190 : x1 = (0 : Int64)
                · refine own_go (B := T87.setTop (mkF m 360 (LS_JsJsJsJsJsJsJsRIIIIIRRRI q0 q1 q2 q3 q4 q5 (36028797018963967 : Int64) b1 (((q5.toUInt64 >>> ((61 : Int32) &&& 0x3f).toInt64.toUInt64).toInt64).toInt32) fA fB (1 : Int32) (1 : Int32) b22 o69 b70 (1 : Int32)) [(.int (14 : Int32)), (.ref b70), (.int (7 : Int32)), (.ref b70)])) (fun t k => ?_) ?_
                  · refine XS.ifNo X87.here hx rfl (hb hby at_342) rfl ((if0 _ _).trans (teq ((lw_eq x1 (0 : Int64)).mpr hc342_190)).2) ?_
                    refine XS.iconst X87.here hx rfl (hb hby at_345) ?_
                    show Steps p.tables e below (T87.setTop (mkF m 346 (LS_JsJsJsJsJsJsJsRIIIIIRRRu q0 q1 q2 q3 q4 q5 (36028797018963967 : Int64) b1 (((q5.toUInt64 >>> ((61 : Int32) &&& 0x3f).toInt64.toUInt64).toInt64).toInt32) fA fB (1 : Int32) (1 : Int32) b22 o69 b70) [(.int (1 : Int32))])) _
                    refine XS.goto X87.here hx rfl (pc0 := 346) (pc' := 350) rfl (hb hby at_346) (by decide) (by decide) ?_
                    refine XS.istore X87.here hx rfl (hb hby at_350) rfl (l' := (LS_JsJsJsJsJsJsJsRIIIIIRRRI q0 q1 q2 q3 q4 q5 (36028797018963967 : Int64) b1 (((q5.toUInt64 >>> ((61 : Int32) &&& 0x3f).toInt64.toUInt64).toInt64).toInt32) fA fB (1 : Int32) (1 : Int32) b22 o69 b70 (1 : Int32))) rfl ?_
                    refine XS.aload X87.here hx rfl (hb hby at_352) rfl rfl ?_
                    show Steps p.tables e below (T87.setTop (mkF m 354 (LS_JsJsJsJsJsJsJsRIIIIIRRRI q0 q1 q2 q3 q4 q5 (36028797018963967 : Int64) b1 (((q5.toUInt64 >>> ((61 : Int32) &&& 0x3f).toInt64.toUInt64).toInt64).toInt32) fA fB (1 : Int32) (1 : Int32) b22 o69 b70 (1 : Int32)) [(.ref b70)])) _
                    refine XS.bipush X87.here hx rfl (hb hby at_354) ?_
                    refine XS.aload X87.here hx rfl (hb hby at_356) rfl rfl ?_
                    refine XS.bipush X87.here hx rfl (hb hby at_358) ?_
                    exact k
                  obtain ⟨cl191, Ar191, qa191, Sa191, Na191, Ha191, Ga191⟩ := id V87b
                  have hi191_0 : ¬ ((7 : Int32) < 0 ∨ cl191.slots.size ≤ ((7 : Int32)).toNatClampNeg) := inb_of Sa191 ⟨by decide, by decide⟩
                  have thi191_0 : cl191.slots[((7 : Int32)).toNatClampNeg]? = some (.long z79_0) := Has.at Ha191 hi191_0 rfl
                  have hi191_1 : ¬ (((7 : Int32) + (1 : Int32)) < 0 ∨ cl191.slots.size ≤ (((7 : Int32) + (1 : Int32))).toNatClampNeg) := inb_of Sa191 ⟨by decide, by decide⟩
                  have thi191_1 : cl191.slots[(((7 : Int32) + (1 : Int32))).toNatClampNeg]? = some (.long z79_1) := Has.at Ha191 hi191_1 rfl
                  have hi191_2 : ¬ (((7 : Int32) + (2 : Int32)) < 0 ∨ cl191.slots.size ≤ (((7 : Int32) + (2 : Int32))).toNatClampNeg) := inb_of Sa191 ⟨by decide, by decide⟩
                  have thi191_2 : cl191.slots[(((7 : Int32) + (2 : Int32))).toNatClampNeg]? = some (.long z79_2) := Has.at Ha191 hi191_2 rfl
                  have hi191_3 : ¬ (((7 : Int32) + (3 : Int32)) < 0 ∨ cl191.slots.size ≤ (((7 : Int32) + (3 : Int32))).toNatClampNeg) := inb_of Sa191 ⟨by decide, by decide⟩
                  have thi191_3 : cl191.slots[(((7 : Int32) + (3 : Int32))).toNatClampNeg]? = some (.long z79_3) := Has.at Ha191 hi191_3 rfl
                  have hi191_4 : ¬ (((7 : Int32) + (4 : Int32)) < 0 ∨ cl191.slots.size ≤ (((7 : Int32) + (4 : Int32))).toNatClampNeg) := inb_of Sa191 ⟨by decide, by decide⟩
                  have thi191_4 : cl191.slots[(((7 : Int32) + (4 : Int32))).toNatClampNeg]? = some (.long z79_4) := Has.at Ha191 hi191_4 rfl
                  have hi191_5 : ¬ (((7 : Int32) + (5 : Int32)) < 0 ∨ cl191.slots.size ≤ (((7 : Int32) + (5 : Int32))).toNatClampNeg) := inb_of Sa191 ⟨by decide, by decide⟩
                  have thi191_5 : cl191.slots[(((7 : Int32) + (5 : Int32))).toNatClampNeg]? = some (.long z79_5) := Has.at Ha191 hi191_5 rfl
                  have hi191_6 : ¬ (((7 : Int32) + (6 : Int32)) < 0 ∨ cl191.slots.size ≤ (((7 : Int32) + (6 : Int32))).toNatClampNeg) := inb_of Sa191 ⟨by decide, by decide⟩
                  have thi191_6 : cl191.slots[(((7 : Int32) + (6 : Int32))).toNatClampNeg]? = some (.long z79_6) := Has.at Ha191 hi191_6 rfl
                  have gi191_0 : ¬ ((14 : Int32) < 0 ∨ cl191.slots.size ≤ ((14 : Int32)).toNatClampNeg) := inb_of Sa191 ⟨by decide, by decide⟩
                  have tgi191_0 : cl191.slots[((14 : Int32)).toNatClampNeg]? = some (.long z87_0) := Has.at Ha191 gi191_0 rfl
                  have gi191_1 : ¬ (((14 : Int32) + (1 : Int32)) < 0 ∨ cl191.slots.size ≤ (((14 : Int32) + (1 : Int32))).toNatClampNeg) := inb_of Sa191 ⟨by decide, by decide⟩
                  have tgi191_1 : cl191.slots[(((14 : Int32) + (1 : Int32))).toNatClampNeg]? = some (.long z87_1) := Has.at Ha191 gi191_1 rfl
                  have gi191_2 : ¬ (((14 : Int32) + (2 : Int32)) < 0 ∨ cl191.slots.size ≤ (((14 : Int32) + (2 : Int32))).toNatClampNeg) := inb_of Sa191 ⟨by decide, by decide⟩
                  have tgi191_2 : cl191.slots[(((14 : Int32) + (2 : Int32))).toNatClampNeg]? = some (.long z87_2) := Has.at Ha191 gi191_2 rfl
                  have gi191_3 : ¬ (((14 : Int32) + (3 : Int32)) < 0 ∨ cl191.slots.size ≤ (((14 : Int32) + (3 : Int32))).toNatClampNeg) := inb_of Sa191 ⟨by decide, by decide⟩
                  have tgi191_3 : cl191.slots[(((14 : Int32) + (3 : Int32))).toNatClampNeg]? = some (.long z87_3) := Has.at Ha191 gi191_3 rfl
                  have gi191_4 : ¬ (((14 : Int32) + (4 : Int32)) < 0 ∨ cl191.slots.size ≤ (((14 : Int32) + (4 : Int32))).toNatClampNeg) := inb_of Sa191 ⟨by decide, by decide⟩
                  have tgi191_4 : cl191.slots[(((14 : Int32) + (4 : Int32))).toNatClampNeg]? = some (.long z87_4) := Has.at Ha191 gi191_4 rfl
                  have gi191_5 : ¬ (((14 : Int32) + (5 : Int32)) < 0 ∨ cl191.slots.size ≤ (((14 : Int32) + (5 : Int32))).toNatClampNeg) := inb_of Sa191 ⟨by decide, by decide⟩
                  have tgi191_5 : cl191.slots[(((14 : Int32) + (5 : Int32))).toNatClampNeg]? = some (.long z87_5) := Has.at Ha191 gi191_5 rfl
                  have gi191_6 : ¬ (((14 : Int32) + (6 : Int32)) < 0 ∨ cl191.slots.size ≤ (((14 : Int32) + (6 : Int32))).toNatClampNeg) := inb_of Sa191 ⟨by decide, by decide⟩
                  have tgi191_6 : cl191.slots[(((14 : Int32) + (6 : Int32))).toNatClampNeg]? = some (.long z87_6) := Has.at Ha191 gi191_6 rfl
                  have Zj_v192 := Nat.le_trans Zj_v81 K87.1
                  have Sj0_v193 := own_sta_keep Sj0 K69 all0
                  have Sj0_v194 := Sj0_v193.ext E70
                  have Sj0_v195 := own_sta_keep Sj0_v194 K79 (allS (own_plain_V V70) all0)
                  have Sj0_v196 := own_sta_keep Sj0_v195 K87 (allS (own_plain_V V79b) all0)
                  have Sj1_v197 := own_sta_keep Sj1 K69 all0
                  have Sj1_v198 := Sj1_v197.ext E70
                  have Sj1_v199 := own_sta_keep Sj1_v198 K79 (allS (own_plain_V V70) all0)
                  have Sj1_v200 := own_sta_keep Sj1_v199 K87 (allS (own_plain_V V79b) all0)
                  have Sj2_v201 := own_sta_keep Sj2 K69 all0
                  have Sj2_v202 := Sj2_v201.ext E70
                  have Sj2_v203 := own_sta_keep Sj2_v202 K79 (allS (own_plain_V V70) all0)
                  have Sj2_v204 := own_sta_keep Sj2_v203 K87 (allS (own_plain_V V79b) all0)
                  have Sj3_v205 := own_sta_keep Sj3 K69 all0
                  have Sj3_v206 := Sj3_v205.ext E70
                  have Sj3_v207 := own_sta_keep Sj3_v206 K79 (allS (own_plain_V V70) all0)
                  have Sj3_v208 := own_sta_keep Sj3_v207 K87 (allS (own_plain_V V79b) all0)
                  have Sj4_v209 := own_sta_keep Sj4 K69 all0
                  have Sj4_v210 := Sj4_v209.ext E70
                  have Sj4_v211 := own_sta_keep Sj4_v210 K79 (allS (own_plain_V V70) all0)
                  have Sj4_v212 := own_sta_keep Sj4_v211 K87 (allS (own_plain_V V79b) all0)
                  have Sj5_v213 := own_sta_keep Sj5 K69 all0
                  have Sj5_v214 := Sj5_v213.ext E70
                  have Sj5_v215 := own_sta_keep Sj5_v214 K79 (allS (own_plain_V V70) all0)
                  have Sj5_v216 := own_sta_keep Sj5_v215 K87 (allS (own_plain_V V79b) all0)
                  have Sj6_v217 := own_sta_keep Sj6 K69 all0
                  have Sj6_v218 := Sj6_v217.ext E70
                  have Sj6_v219 := own_sta_keep Sj6_v218 K79 (allS (own_plain_V V70) all0)
                  have Sj6_v220 := own_sta_keep Sj6_v219 K87 (allS (own_plain_V V79b) all0)
                  obtain ⟨_, _, ⟨T221, L221, k221, n221⟩, -, X221, ⟨Lc221, hQ221, l221, y221, z221⟩, st221⟩ := Jvm.LawKit.callS X87 hx (y := (⟨"com/example/barred_rows/barredrows/crypto/Fp", "equal", "([JI[JI)Z"⟩ : MethodName)) hown (mvT hZ (hw _ (List.mem_of_getElem? (i := 20) rfl))) (mvT hZ (hw _ (List.mem_of_getElem? (i := 21) rfl))) (mvT hZ (hw _ (List.mem_of_getElem? (i := 22) rfl))) (mvT hZ (hw _ (List.mem_of_getElem? (i := 23) rfl))) (by decide) (backOf (W := 0) (rm4 l Z a0 hw [] b70 (7 : Int32) (14 : Int32) cl191 z79_0 z79_1 z79_2 z79_3 z79_4 z79_5 z79_6 z87_0 z87_1 z87_2 z87_3 z87_4 z87_5 z87_6 T87.heap n0 Zj_v192 Ar191 hi191_0 hi191_1 hi191_2 hi191_3 hi191_4 hi191_5 hi191_6 thi191_0 thi191_1 thi191_2 thi191_3 thi191_4 thi191_5 thi191_6 gi191_0 gi191_1 gi191_2 gi191_3 gi191_4 gi191_5 gi191_6 tgi191_0 tgi191_1 tgi191_2 tgi191_3 tgi191_4 tgi191_5 tgi191_6 Sj0_v196 Sj1_v200 Sj2_v204 Sj3_v208 Sj4_v212 Sj5_v216 Sj6_v220) hZ (hw _ (List.mem_of_getElem? (i := 23) rfl)) (hw _ (List.mem_of_getElem? (i := 22) rfl)) (by decide) (by decide)) (g := (mkF m 360 (LS_JsJsJsJsJsJsJsRIIIIIRRRI q0 q1 q2 q3 q4 q5 (36028797018963967 : Int64) b1 (((q5.toUInt64 >>> ((61 : Int32) &&& 0x3f).toInt64.toUInt64).toInt64).toInt32) fA fB (1 : Int32) (1 : Int32) b22 o69 b70 (1 : Int32)) [(.int (14 : Int32)), (.ref b70), (.int (7 : Int32)), (.ref b70)])) rfl (by rw [hml]; rfl) (argsL := [(.ref b70), (.int (7 : Int32)), (.ref b70), (.int (14 : Int32))]) (rest := []) (lenOf pd___JI_JI_Z rfl) rfl (by show 2 * 0 + _ ≤ _; exact Nat.le_of_eq rfl) (hb hby at_360) (fun _ _ => ⟨rfl, rfl, (by decide : 4 + 2 ≤ _), (by decide : 42 + 14 ≤ _)⟩)
                  dsimp only [Pt.U, Pt.locs, Pt.cells, Pt.slots] at X221 l221 y221 z221 st221 hQ221
                  subst l221 y221 z221
                  obtain ⟨rfl, N221q⟩ := hQ221
                  have N221 := Fr.app N87 N221q
                  refine own_go (B := T221.setTop (mkF m 363 (LS_JsJsJsJsJsJsJsRIIIIIRRRI q0 q1 q2 q3 q4 q5 (36028797018963967 : Int64) b1 (((q5.toUInt64 >>> ((61 : Int32) &&& 0x3f).toInt64.toUInt64).toInt64).toInt32) fA fB (1 : Int32) (1 : Int32) b22 o69 b70 (1 : Int32)) [(.int (if ((((((((own_c0 z79_0 z79_1 z79_2 z79_3 z79_4 z79_5 z79_6) ^^^ (own_c0 z87_0 z87_1 z87_2 z87_3 z87_4 z87_5 z87_6)) ||| ((own_c1 z79_0 z79_1 z79_2 z79_3 z79_4 z79_5 z79_6) ^^^ (own_c1 z87_0 z87_1 z87_2 z87_3 z87_4 z87_5 z87_6))) ||| ((own_c2 z79_0 z79_1 z79_2 z79_3 z79_4 z79_5 z79_6) ^^^ (own_c2 z87_0 z87_1 z87_2 z87_3 z87_4 z87_5 z87_6))) ||| ((own_c3 z79_0 z79_1 z79_2 z79_3 z79_4 z79_5 z79_6) ^^^ (own_c3 z87_0 z87_1 z87_2 z87_3 z87_4 z87_5 z87_6))) ||| ((own_c4 z79_0 z79_1 z79_2 z79_3 z79_4 z79_5 z79_6) ^^^ (own_c4 z87_0 z87_1 z87_2 z87_3 z87_4 z87_5 z87_6))) ||| ((own_c5 z79_0 z79_1 z79_2 z79_3 z79_4 z79_5 z79_6) ^^^ (own_c5 z87_0 z87_1 z87_2 z87_3 z87_4 z87_5 z87_6))) ||| ((own_c6 z79_0 z79_1 z79_2 z79_3 z79_4 z79_5 z79_6) ^^^ (own_c6 z87_0 z87_1 z87_2 z87_3 z87_4 z87_5 z87_6))) = (0 : Int64) then (1 : Int32) else (0 : Int32)))])) (fun t k => st221 _ k) ?_
                  rw [c79_0, c79_1, c79_2, c79_3, c79_4, c79_5, c79_6, c87_0, c87_1, c87_2, c87_3, c87_4, c87_5, c87_6]
                  refine own_go (B := T221.setTop (mkF m 373 (LS_JsJsJsJsJsJsJsRIIIIIRRRI q0 q1 q2 q3 q4 q5 (36028797018963967 : Int64) b1 (((q5.toUInt64 >>> ((61 : Int32) &&& 0x3f).toInt64.toUInt64).toInt64).toInt32) fA fB (1 : Int32) (1 : Int32) b22 o69 b70 (1 : Int32)) [(.int (1 : Int32))])) (fun t k => ?_) ?_
                  · refine XS.iload X221.here hx rfl (hb hby at_363) rfl ?_
                    refine XS.icmpNo X221.here hx rfl (hb hby at_365) rfl (teq (if_pos ((own_eq1 bx0 bx1 bx2 bx3 bx4 bx5 bx6).mpr hc342_190))).2 ?_
                    show Steps p.tables e below (T221.setTop (mkF m 368 (LS_JsJsJsJsJsJsJsRIIIIIRRRI q0 q1 q2 q3 q4 q5 (36028797018963967 : Int64) b1 (((q5.toUInt64 >>> ((61 : Int32) &&& 0x3f).toInt64.toUInt64).toInt64).toInt32) fA fB (1 : Int32) (1 : Int32) b22 o69 b70 (1 : Int32)) [])) _
                    refine XS.iconst X221.here hx rfl (hb hby at_368) ?_
                    refine XS.goto X221.here hx rfl (pc0 := 369) (pc' := 373) rfl (hb hby at_369) (by decide) (by decide) ?_
                    exact k
                  obtain ⟨fs, hr, hrun, hended, hW, hsame⟩ := X221.leave (v := some (.int (1 : Int32))) (fun h => by rw [Bd.returns] at h; cases h)
                  refine ⟨_, _, ?_, hrun, hended, _, _, rfl, ?_, ⟨_, rfl⟩, hW, hsame.mono (by decide) (by decide)⟩
                  · show Steps p.tables e below (T221.setTop (mkF m 373 (LS_JsJsJsJsJsJsJsRIIIIIRRRI q0 q1 q2 q3 q4 q5 (36028797018963967 : Int64) b1 (((q5.toUInt64 >>> ((61 : Int32) &&& 0x3f).toInt64.toUInt64).toInt64).toInt32) fA fB (1 : Int32) (1 : Int32) b22 o69 b70 (1 : Int32)) [(.int (1 : Int32))])) _
                    exact retN X221 hx (t := .boolean) Bd.returns (by simp) (hb hby at_373) hr
                  · show Q0 Z q0 q1 q2 q3 q4 q5 h0 n0 _ T221.heap _
                    exact ⟨rfl, N221⟩
                · refine own_go (B := T87.setTop (mkF m 360 (LS_JsJsJsJsJsJsJsRIIIIIRRRI q0 q1 q2 q3 q4 q5 (36028797018963967 : Int64) b1 (((q5.toUInt64 >>> ((61 : Int32) &&& 0x3f).toInt64.toUInt64).toInt64).toInt32) fA fB (1 : Int32) (1 : Int32) b22 o69 b70 (0 : Int32)) [(.int (14 : Int32)), (.ref b70), (.int (7 : Int32)), (.ref b70)])) (fun t k => ?_) ?_
                  · refine XS.ifYes X87.here hx rfl (pc0 := 342) (pc' := 349) rfl (hb hby at_342) rfl ((if0 _ _).trans (feq (fun q => hc342_190 ((lw_eq x1 (0 : Int64)).mp q))).2) (by decide) (by decide) ?_
                    refine XS.iconst X87.here hx rfl (hb hby at_349) ?_
                    show Steps p.tables e below (T87.setTop (mkF m 350 (LS_JsJsJsJsJsJsJsRIIIIIRRRu q0 q1 q2 q3 q4 q5 (36028797018963967 : Int64) b1 (((q5.toUInt64 >>> ((61 : Int32) &&& 0x3f).toInt64.toUInt64).toInt64).toInt32) fA fB (1 : Int32) (1 : Int32) b22 o69 b70) [(.int (0 : Int32))])) _
                    refine XS.istore X87.here hx rfl (hb hby at_350) rfl (l' := (LS_JsJsJsJsJsJsJsRIIIIIRRRI q0 q1 q2 q3 q4 q5 (36028797018963967 : Int64) b1 (((q5.toUInt64 >>> ((61 : Int32) &&& 0x3f).toInt64.toUInt64).toInt64).toInt32) fA fB (1 : Int32) (1 : Int32) b22 o69 b70 (0 : Int32))) rfl ?_
                    refine XS.aload X87.here hx rfl (hb hby at_352) rfl rfl ?_
                    refine XS.bipush X87.here hx rfl (hb hby at_354) ?_
                    show Steps p.tables e below (T87.setTop (mkF m 356 (LS_JsJsJsJsJsJsJsRIIIIIRRRI q0 q1 q2 q3 q4 q5 (36028797018963967 : Int64) b1 (((q5.toUInt64 >>> ((61 : Int32) &&& 0x3f).toInt64.toUInt64).toInt64).toInt32) fA fB (1 : Int32) (1 : Int32) b22 o69 b70 (0 : Int32)) [(.int (7 : Int32)), (.ref b70)])) _
                    refine XS.aload X87.here hx rfl (hb hby at_356) rfl rfl ?_
                    refine XS.bipush X87.here hx rfl (hb hby at_358) ?_
                    exact k
                  obtain ⟨cl222, Ar222, qa222, Sa222, Na222, Ha222, Ga222⟩ := id V87b
                  have hi222_0 : ¬ ((7 : Int32) < 0 ∨ cl222.slots.size ≤ ((7 : Int32)).toNatClampNeg) := inb_of Sa222 ⟨by decide, by decide⟩
                  have thi222_0 : cl222.slots[((7 : Int32)).toNatClampNeg]? = some (.long z79_0) := Has.at Ha222 hi222_0 rfl
                  have hi222_1 : ¬ (((7 : Int32) + (1 : Int32)) < 0 ∨ cl222.slots.size ≤ (((7 : Int32) + (1 : Int32))).toNatClampNeg) := inb_of Sa222 ⟨by decide, by decide⟩
                  have thi222_1 : cl222.slots[(((7 : Int32) + (1 : Int32))).toNatClampNeg]? = some (.long z79_1) := Has.at Ha222 hi222_1 rfl
                  have hi222_2 : ¬ (((7 : Int32) + (2 : Int32)) < 0 ∨ cl222.slots.size ≤ (((7 : Int32) + (2 : Int32))).toNatClampNeg) := inb_of Sa222 ⟨by decide, by decide⟩
                  have thi222_2 : cl222.slots[(((7 : Int32) + (2 : Int32))).toNatClampNeg]? = some (.long z79_2) := Has.at Ha222 hi222_2 rfl
                  have hi222_3 : ¬ (((7 : Int32) + (3 : Int32)) < 0 ∨ cl222.slots.size ≤ (((7 : Int32) + (3 : Int32))).toNatClampNeg) := inb_of Sa222 ⟨by decide, by decide⟩
                  have thi222_3 : cl222.slots[(((7 : Int32) + (3 : Int32))).toNatClampNeg]? = some (.long z79_3) := Has.at Ha222 hi222_3 rfl
                  have hi222_4 : ¬ (((7 : Int32) + (4 : Int32)) < 0 ∨ cl222.slots.size ≤ (((7 : Int32) + (4 : Int32))).toNatClampNeg) := inb_of Sa222 ⟨by decide, by decide⟩
                  have thi222_4 : cl222.slots[(((7 : Int32) + (4 : Int32))).toNatClampNeg]? = some (.long z79_4) := Has.at Ha222 hi222_4 rfl
                  have hi222_5 : ¬ (((7 : Int32) + (5 : Int32)) < 0 ∨ cl222.slots.size ≤ (((7 : Int32) + (5 : Int32))).toNatClampNeg) := inb_of Sa222 ⟨by decide, by decide⟩
                  have thi222_5 : cl222.slots[(((7 : Int32) + (5 : Int32))).toNatClampNeg]? = some (.long z79_5) := Has.at Ha222 hi222_5 rfl
                  have hi222_6 : ¬ (((7 : Int32) + (6 : Int32)) < 0 ∨ cl222.slots.size ≤ (((7 : Int32) + (6 : Int32))).toNatClampNeg) := inb_of Sa222 ⟨by decide, by decide⟩
                  have thi222_6 : cl222.slots[(((7 : Int32) + (6 : Int32))).toNatClampNeg]? = some (.long z79_6) := Has.at Ha222 hi222_6 rfl
                  have gi222_0 : ¬ ((14 : Int32) < 0 ∨ cl222.slots.size ≤ ((14 : Int32)).toNatClampNeg) := inb_of Sa222 ⟨by decide, by decide⟩
                  have tgi222_0 : cl222.slots[((14 : Int32)).toNatClampNeg]? = some (.long z87_0) := Has.at Ha222 gi222_0 rfl
                  have gi222_1 : ¬ (((14 : Int32) + (1 : Int32)) < 0 ∨ cl222.slots.size ≤ (((14 : Int32) + (1 : Int32))).toNatClampNeg) := inb_of Sa222 ⟨by decide, by decide⟩
                  have tgi222_1 : cl222.slots[(((14 : Int32) + (1 : Int32))).toNatClampNeg]? = some (.long z87_1) := Has.at Ha222 gi222_1 rfl
                  have gi222_2 : ¬ (((14 : Int32) + (2 : Int32)) < 0 ∨ cl222.slots.size ≤ (((14 : Int32) + (2 : Int32))).toNatClampNeg) := inb_of Sa222 ⟨by decide, by decide⟩
                  have tgi222_2 : cl222.slots[(((14 : Int32) + (2 : Int32))).toNatClampNeg]? = some (.long z87_2) := Has.at Ha222 gi222_2 rfl
                  have gi222_3 : ¬ (((14 : Int32) + (3 : Int32)) < 0 ∨ cl222.slots.size ≤ (((14 : Int32) + (3 : Int32))).toNatClampNeg) := inb_of Sa222 ⟨by decide, by decide⟩
                  have tgi222_3 : cl222.slots[(((14 : Int32) + (3 : Int32))).toNatClampNeg]? = some (.long z87_3) := Has.at Ha222 gi222_3 rfl
                  have gi222_4 : ¬ (((14 : Int32) + (4 : Int32)) < 0 ∨ cl222.slots.size ≤ (((14 : Int32) + (4 : Int32))).toNatClampNeg) := inb_of Sa222 ⟨by decide, by decide⟩
                  have tgi222_4 : cl222.slots[(((14 : Int32) + (4 : Int32))).toNatClampNeg]? = some (.long z87_4) := Has.at Ha222 gi222_4 rfl
                  have gi222_5 : ¬ (((14 : Int32) + (5 : Int32)) < 0 ∨ cl222.slots.size ≤ (((14 : Int32) + (5 : Int32))).toNatClampNeg) := inb_of Sa222 ⟨by decide, by decide⟩
                  have tgi222_5 : cl222.slots[(((14 : Int32) + (5 : Int32))).toNatClampNeg]? = some (.long z87_5) := Has.at Ha222 gi222_5 rfl
                  have gi222_6 : ¬ (((14 : Int32) + (6 : Int32)) < 0 ∨ cl222.slots.size ≤ (((14 : Int32) + (6 : Int32))).toNatClampNeg) := inb_of Sa222 ⟨by decide, by decide⟩
                  have tgi222_6 : cl222.slots[(((14 : Int32) + (6 : Int32))).toNatClampNeg]? = some (.long z87_6) := Has.at Ha222 gi222_6 rfl
                  have Zj_v223 := Nat.le_trans Zj_v81 K87.1
                  have Sj0_v224 := own_sta_keep Sj0 K69 all0
                  have Sj0_v225 := Sj0_v224.ext E70
                  have Sj0_v226 := own_sta_keep Sj0_v225 K79 (allS (own_plain_V V70) all0)
                  have Sj0_v227 := own_sta_keep Sj0_v226 K87 (allS (own_plain_V V79b) all0)
                  have Sj1_v228 := own_sta_keep Sj1 K69 all0
                  have Sj1_v229 := Sj1_v228.ext E70
                  have Sj1_v230 := own_sta_keep Sj1_v229 K79 (allS (own_plain_V V70) all0)
                  have Sj1_v231 := own_sta_keep Sj1_v230 K87 (allS (own_plain_V V79b) all0)
                  have Sj2_v232 := own_sta_keep Sj2 K69 all0
                  have Sj2_v233 := Sj2_v232.ext E70
                  have Sj2_v234 := own_sta_keep Sj2_v233 K79 (allS (own_plain_V V70) all0)
                  have Sj2_v235 := own_sta_keep Sj2_v234 K87 (allS (own_plain_V V79b) all0)
                  have Sj3_v236 := own_sta_keep Sj3 K69 all0
                  have Sj3_v237 := Sj3_v236.ext E70
                  have Sj3_v238 := own_sta_keep Sj3_v237 K79 (allS (own_plain_V V70) all0)
                  have Sj3_v239 := own_sta_keep Sj3_v238 K87 (allS (own_plain_V V79b) all0)
                  have Sj4_v240 := own_sta_keep Sj4 K69 all0
                  have Sj4_v241 := Sj4_v240.ext E70
                  have Sj4_v242 := own_sta_keep Sj4_v241 K79 (allS (own_plain_V V70) all0)
                  have Sj4_v243 := own_sta_keep Sj4_v242 K87 (allS (own_plain_V V79b) all0)
                  have Sj5_v244 := own_sta_keep Sj5 K69 all0
                  have Sj5_v245 := Sj5_v244.ext E70
                  have Sj5_v246 := own_sta_keep Sj5_v245 K79 (allS (own_plain_V V70) all0)
                  have Sj5_v247 := own_sta_keep Sj5_v246 K87 (allS (own_plain_V V79b) all0)
                  have Sj6_v248 := own_sta_keep Sj6 K69 all0
                  have Sj6_v249 := Sj6_v248.ext E70
                  have Sj6_v250 := own_sta_keep Sj6_v249 K79 (allS (own_plain_V V70) all0)
                  have Sj6_v251 := own_sta_keep Sj6_v250 K87 (allS (own_plain_V V79b) all0)
                  obtain ⟨_, _, ⟨T252, L252, k252, n252⟩, -, X252, ⟨Lc252, hQ252, l252, y252, z252⟩, st252⟩ := Jvm.LawKit.callS X87 hx (y := (⟨"com/example/barred_rows/barredrows/crypto/Fp", "equal", "([JI[JI)Z"⟩ : MethodName)) hown (mvT hZ (hw _ (List.mem_of_getElem? (i := 20) rfl))) (mvT hZ (hw _ (List.mem_of_getElem? (i := 21) rfl))) (mvT hZ (hw _ (List.mem_of_getElem? (i := 22) rfl))) (mvT hZ (hw _ (List.mem_of_getElem? (i := 23) rfl))) (by decide) (backOf (W := 0) (rm4 l Z a0 hw [] b70 (7 : Int32) (14 : Int32) cl222 z79_0 z79_1 z79_2 z79_3 z79_4 z79_5 z79_6 z87_0 z87_1 z87_2 z87_3 z87_4 z87_5 z87_6 T87.heap n0 Zj_v223 Ar222 hi222_0 hi222_1 hi222_2 hi222_3 hi222_4 hi222_5 hi222_6 thi222_0 thi222_1 thi222_2 thi222_3 thi222_4 thi222_5 thi222_6 gi222_0 gi222_1 gi222_2 gi222_3 gi222_4 gi222_5 gi222_6 tgi222_0 tgi222_1 tgi222_2 tgi222_3 tgi222_4 tgi222_5 tgi222_6 Sj0_v227 Sj1_v231 Sj2_v235 Sj3_v239 Sj4_v243 Sj5_v247 Sj6_v251) hZ (hw _ (List.mem_of_getElem? (i := 23) rfl)) (hw _ (List.mem_of_getElem? (i := 22) rfl)) (by decide) (by decide)) (g := (mkF m 360 (LS_JsJsJsJsJsJsJsRIIIIIRRRI q0 q1 q2 q3 q4 q5 (36028797018963967 : Int64) b1 (((q5.toUInt64 >>> ((61 : Int32) &&& 0x3f).toInt64.toUInt64).toInt64).toInt32) fA fB (1 : Int32) (1 : Int32) b22 o69 b70 (0 : Int32)) [(.int (14 : Int32)), (.ref b70), (.int (7 : Int32)), (.ref b70)])) rfl (by rw [hml]; rfl) (argsL := [(.ref b70), (.int (7 : Int32)), (.ref b70), (.int (14 : Int32))]) (rest := []) (lenOf pd___JI_JI_Z rfl) rfl (by show 2 * 0 + _ ≤ _; exact Nat.le_of_eq rfl) (hb hby at_360) (fun _ _ => ⟨rfl, rfl, (by decide : 4 + 2 ≤ _), (by decide : 42 + 14 ≤ _)⟩)
                  dsimp only [Pt.U, Pt.locs, Pt.cells, Pt.slots] at X252 l252 y252 z252 st252 hQ252
                  subst l252 y252 z252
                  obtain ⟨rfl, N252q⟩ := hQ252
                  have N252 := Fr.app N87 N252q
                  refine own_go (B := T252.setTop (mkF m 363 (LS_JsJsJsJsJsJsJsRIIIIIRRRI q0 q1 q2 q3 q4 q5 (36028797018963967 : Int64) b1 (((q5.toUInt64 >>> ((61 : Int32) &&& 0x3f).toInt64.toUInt64).toInt64).toInt32) fA fB (1 : Int32) (1 : Int32) b22 o69 b70 (0 : Int32)) [(.int (if ((((((((own_c0 z79_0 z79_1 z79_2 z79_3 z79_4 z79_5 z79_6) ^^^ (own_c0 z87_0 z87_1 z87_2 z87_3 z87_4 z87_5 z87_6)) ||| ((own_c1 z79_0 z79_1 z79_2 z79_3 z79_4 z79_5 z79_6) ^^^ (own_c1 z87_0 z87_1 z87_2 z87_3 z87_4 z87_5 z87_6))) ||| ((own_c2 z79_0 z79_1 z79_2 z79_3 z79_4 z79_5 z79_6) ^^^ (own_c2 z87_0 z87_1 z87_2 z87_3 z87_4 z87_5 z87_6))) ||| ((own_c3 z79_0 z79_1 z79_2 z79_3 z79_4 z79_5 z79_6) ^^^ (own_c3 z87_0 z87_1 z87_2 z87_3 z87_4 z87_5 z87_6))) ||| ((own_c4 z79_0 z79_1 z79_2 z79_3 z79_4 z79_5 z79_6) ^^^ (own_c4 z87_0 z87_1 z87_2 z87_3 z87_4 z87_5 z87_6))) ||| ((own_c5 z79_0 z79_1 z79_2 z79_3 z79_4 z79_5 z79_6) ^^^ (own_c5 z87_0 z87_1 z87_2 z87_3 z87_4 z87_5 z87_6))) ||| ((own_c6 z79_0 z79_1 z79_2 z79_3 z79_4 z79_5 z79_6) ^^^ (own_c6 z87_0 z87_1 z87_2 z87_3 z87_4 z87_5 z87_6))) = (0 : Int64) then (1 : Int32) else (0 : Int32)))])) (fun t k => st252 _ k) ?_
                  rw [c79_0, c79_1, c79_2, c79_3, c79_4, c79_5, c79_6, c87_0, c87_1, c87_2, c87_3, c87_4, c87_5, c87_6]
                  refine own_go (B := T252.setTop (mkF m 373 (LS_JsJsJsJsJsJsJsRIIIIIRRRI q0 q1 q2 q3 q4 q5 (36028797018963967 : Int64) b1 (((q5.toUInt64 >>> ((61 : Int32) &&& 0x3f).toInt64.toUInt64).toInt64).toInt32) fA fB (1 : Int32) (1 : Int32) b22 o69 b70 (0 : Int32)) [(.int (1 : Int32))])) (fun t k => ?_) ?_
                  · refine XS.iload X252.here hx rfl (hb hby at_363) rfl ?_
                    refine XS.icmpNo X252.here hx rfl (hb hby at_365) rfl (teq (if_neg fun q => hc342_190 ((own_eq1 bx0 bx1 bx2 bx3 bx4 bx5 bx6).mp q))).2 ?_
                    show Steps p.tables e below (T252.setTop (mkF m 368 (LS_JsJsJsJsJsJsJsRIIIIIRRRI q0 q1 q2 q3 q4 q5 (36028797018963967 : Int64) b1 (((q5.toUInt64 >>> ((61 : Int32) &&& 0x3f).toInt64.toUInt64).toInt64).toInt32) fA fB (1 : Int32) (1 : Int32) b22 o69 b70 (0 : Int32)) [])) _
                    refine XS.iconst X252.here hx rfl (hb hby at_368) ?_
                    refine XS.goto X252.here hx rfl (pc0 := 369) (pc' := 373) rfl (hb hby at_369) (by decide) (by decide) ?_
                    exact k
                  obtain ⟨fs, hr, hrun, hended, hW, hsame⟩ := X252.leave (v := some (.int (1 : Int32))) (fun h => by rw [Bd.returns] at h; cases h)
                  refine ⟨_, _, ?_, hrun, hended, _, _, rfl, ?_, ⟨_, rfl⟩, hW, hsame.mono (by decide) (by decide)⟩
                  · show Steps p.tables e below (T252.setTop (mkF m 373 (LS_JsJsJsJsJsJsJsRIIIIIRRRI q0 q1 q2 q3 q4 q5 (36028797018963967 : Int64) b1 (((q5.toUInt64 >>> ((61 : Int32) &&& 0x3f).toInt64.toUInt64).toInt64).toInt32) fA fB (1 : Int32) (1 : Int32) b22 o69 b70 (0 : Int32)) [(.int (1 : Int32))])) _
                    exact retN X252 hx (t := .boolean) Bd.returns (by simp) (hb hby at_373) hr
                  · show Q0 Z q0 q1 q2 q3 q4 q5 h0 n0 _ T252.heap _
                    exact ⟨rfl, N252⟩
              · refine own_go (B := T87.setTop (mkF m 330 (LS_JsJsJsJsJsJsJsRIIIIIRRRu q0 q1 q2 q3 q4 q5 (36028797018963967 : Int64) b1 (((q5.toUInt64 >>> ((61 : Int32) &&& 0x3f).toInt64.toUInt64).toInt64).toInt32) fA fB (1 : Int32) (2 : Int32) b22 o69 b70) [])) (fun t k => by rw [hkf]; exact k) ?_
                have Vxj_v254 := Vxj_v75.keep K79 (ninS ne77 nin0)
                have Vxj_v255 := Vxj_v254.keep K87 (ninS ne77 nin0)
                obtain ⟨cl253, Ar253, qa253, Sa253, Na253, Ha253, Ga253⟩ := id Vxj_v255
                have hin256 : ¬ ((2 : Int32) < 0 ∨ cl253.slots.size ≤ ((2 : Int32)).toNatClampNeg) := inb_of Sa253 ⟨by decide, by decide⟩
                have hat256 : cl253.slots[((2 : Int32)).toNatClampNeg]? = some (.long x2) := Has.at Ha253 hin256 rfl
                refine own_go (B := T87.setTop (mkF m 342 (LS_JsJsJsJsJsJsJsRIIIIIRRRu q0 q1 q2 q3 q4 q5 (36028797018963967 : Int64) b1 (((q5.toUInt64 >>> ((61 : Int32) &&& 0x3f).toInt64.toUInt64).toInt64).toInt32) fA fB (1 : Int32) (2 : Int32) b22 o69 b70) [(.int (lcmpW x2 (0 : Int64)))])) (fun t k => ?_) ?_
                · refine XS.iload X87.here hx rfl (hb hby at_330) rfl ?_
                  refine XS.ifNo X87.here hx rfl (hb hby at_332) rfl ((if0 _ _).trans (feq (by decide : ¬ ((1 : Int32) = (0 : Int32)))).1) ?_
                  show Steps p.tables e below (T87.setTop (mkF m 335 (LS_JsJsJsJsJsJsJsRIIIIIRRRu q0 q1 q2 q3 q4 q5 (36028797018963967 : Int64) b1 (((q5.toUInt64 >>> ((61 : Int32) &&& 0x3f).toInt64.toUInt64).toInt64).toInt32) fA fB (1 : Int32) (2 : Int32) b22 o69 b70) [])) _
                  refine XS.aload X87.here hx rfl (hb hby at_335) rfl rfl ?_
                  refine XS.iload X87.here hx rfl (hb hby at_337) rfl ?_
                  refine X87.laload hx (j := (2 : Int32)) (v := (.long x2)) Ar253.1 (State.isArrayOf_alike hZ.alike Ar253.2.1) Ar253.2.2 hin256 hat256 (g := (mkF m 339 (LS_JsJsJsJsJsJsJsRIIIIIRRRu q0 q1 q2 q3 q4 q5 (36028797018963967 : Int64) b1 (((q5.toUInt64 >>> ((61 : Int32) &&& 0x3f).toInt64.toUInt64).toInt64).toInt32) fA fB (1 : Int32) (2 : Int32) b22 o69 b70) [(.int (2 : Int32)), (.ref b1)])) rfl rfl (hb hby at_339) _ ?_
                  show Steps p.tables e below (T87.setTop (mkF m 340 (LS_JsJsJsJsJsJsJsRIIIIIRRRu q0 q1 q2 q3 q4 q5 (36028797018963967 : Int64) b1 (((q5.toUInt64 >>> ((61 : Int32) &&& 0x3f).toInt64.toUInt64).toInt64).toInt32) fA fB (1 : Int32) (2 : Int32) b22 o69 b70) [(.long x2)])) _
                  refine XS.lconst X87.here hx rfl (hb hby at_340) ?_
                  refine XS.lcmp X87.here hx rfl (hb hby at_341) rfl ?_
                  exact k
                by_cases hc342_257 : x2 = (0 : Int64)
                · refine own_go (B := T87.setTop (mkF m 360 (LS_JsJsJsJsJsJsJsRIIIIIRRRI q0 q1 q2 q3 q4 q5 (36028797018963967 : Int64) b1 (((q5.toUInt64 >>> ((61 : Int32) &&& 0x3f).toInt64.toUInt64).toInt64).toInt32) fA fB (1 : Int32) (2 : Int32) b22 o69 b70 (1 : Int32)) [(.int (14 : Int32)), (.ref b70), (.int (7 : Int32)), (.ref b70)])) (fun t k => ?_) ?_
                  · refine XS.ifNo X87.here hx rfl (hb hby at_342) rfl ((if0 _ _).trans (teq ((lw_eq x2 (0 : Int64)).mpr hc342_257)).2) ?_
                    refine XS.iconst X87.here hx rfl (hb hby at_345) ?_
                    show Steps p.tables e below (T87.setTop (mkF m 346 (LS_JsJsJsJsJsJsJsRIIIIIRRRu q0 q1 q2 q3 q4 q5 (36028797018963967 : Int64) b1 (((q5.toUInt64 >>> ((61 : Int32) &&& 0x3f).toInt64.toUInt64).toInt64).toInt32) fA fB (1 : Int32) (2 : Int32) b22 o69 b70) [(.int (1 : Int32))])) _
                    refine XS.goto X87.here hx rfl (pc0 := 346) (pc' := 350) rfl (hb hby at_346) (by decide) (by decide) ?_
                    refine XS.istore X87.here hx rfl (hb hby at_350) rfl (l' := (LS_JsJsJsJsJsJsJsRIIIIIRRRI q0 q1 q2 q3 q4 q5 (36028797018963967 : Int64) b1 (((q5.toUInt64 >>> ((61 : Int32) &&& 0x3f).toInt64.toUInt64).toInt64).toInt32) fA fB (1 : Int32) (2 : Int32) b22 o69 b70 (1 : Int32))) rfl ?_
                    refine XS.aload X87.here hx rfl (hb hby at_352) rfl rfl ?_
                    show Steps p.tables e below (T87.setTop (mkF m 354 (LS_JsJsJsJsJsJsJsRIIIIIRRRI q0 q1 q2 q3 q4 q5 (36028797018963967 : Int64) b1 (((q5.toUInt64 >>> ((61 : Int32) &&& 0x3f).toInt64.toUInt64).toInt64).toInt32) fA fB (1 : Int32) (2 : Int32) b22 o69 b70 (1 : Int32)) [(.ref b70)])) _
                    refine XS.bipush X87.here hx rfl (hb hby at_354) ?_
                    refine XS.aload X87.here hx rfl (hb hby at_356) rfl rfl ?_
                    refine XS.bipush X87.here hx rfl (hb hby at_358) ?_
                    exact k
                  obtain ⟨cl258, Ar258, qa258, Sa258, Na258, Ha258, Ga258⟩ := id V87b
                  have hi258_0 : ¬ ((7 : Int32) < 0 ∨ cl258.slots.size ≤ ((7 : Int32)).toNatClampNeg) := inb_of Sa258 ⟨by decide, by decide⟩
                  have thi258_0 : cl258.slots[((7 : Int32)).toNatClampNeg]? = some (.long z79_0) := Has.at Ha258 hi258_0 rfl
                  have hi258_1 : ¬ (((7 : Int32) + (1 : Int32)) < 0 ∨ cl258.slots.size ≤ (((7 : Int32) + (1 : Int32))).toNatClampNeg) := inb_of Sa258 ⟨by decide, by decide⟩
                  have thi258_1 : cl258.slots[(((7 : Int32) + (1 : Int32))).toNatClampNeg]? = some (.long z79_1) := Has.at Ha258 hi258_1 rfl
                  have hi258_2 : ¬ (((7 : Int32) + (2 : Int32)) < 0 ∨ cl258.slots.size ≤ (((7 : Int32) + (2 : Int32))).toNatClampNeg) := inb_of Sa258 ⟨by decide, by decide⟩
                  have thi258_2 : cl258.slots[(((7 : Int32) + (2 : Int32))).toNatClampNeg]? = some (.long z79_2) := Has.at Ha258 hi258_2 rfl
                  have hi258_3 : ¬ (((7 : Int32) + (3 : Int32)) < 0 ∨ cl258.slots.size ≤ (((7 : Int32) + (3 : Int32))).toNatClampNeg) := inb_of Sa258 ⟨by decide, by decide⟩
                  have thi258_3 : cl258.slots[(((7 : Int32) + (3 : Int32))).toNatClampNeg]? = some (.long z79_3) := Has.at Ha258 hi258_3 rfl
                  have hi258_4 : ¬ (((7 : Int32) + (4 : Int32)) < 0 ∨ cl258.slots.size ≤ (((7 : Int32) + (4 : Int32))).toNatClampNeg) := inb_of Sa258 ⟨by decide, by decide⟩
                  have thi258_4 : cl258.slots[(((7 : Int32) + (4 : Int32))).toNatClampNeg]? = some (.long z79_4) := Has.at Ha258 hi258_4 rfl
                  have hi258_5 : ¬ (((7 : Int32) + (5 : Int32)) < 0 ∨ cl258.slots.size ≤ (((7 : Int32) + (5 : Int32))).toNatClampNeg) := inb_of Sa258 ⟨by decide, by decide⟩
                  have thi258_5 : cl258.slots[(((7 : Int32) + (5 : Int32))).toNatClampNeg]? = some (.long z79_5) := Has.at Ha258 hi258_5 rfl
                  have hi258_6 : ¬ (((7 : Int32) + (6 : Int32)) < 0 ∨ cl258.slots.size ≤ (((7 : Int32) + (6 : Int32))).toNatClampNeg) := inb_of Sa258 ⟨by decide, by decide⟩
                  have thi258_6 : cl258.slots[(((7 : Int32) + (6 : Int32))).toNatClampNeg]? = some (.long z79_6) := Has.at Ha258 hi258_6 rfl
                  have gi258_0 : ¬ ((14 : Int32) < 0 ∨ cl258.slots.size ≤ ((14 : Int32)).toNatClampNeg) := inb_of Sa258 ⟨by decide, by decide⟩
                  have tgi258_0 : cl258.slots[((14 : Int32)).toNatClampNeg]? = some (.long z87_0) := Has.at Ha258 gi258_0 rfl
                  have gi258_1 : ¬ (((14 : Int32) + (1 : Int32)) < 0 ∨ cl258.slots.size ≤ (((14 : Int32) + (1 : Int32))).toNatClampNeg) := inb_of Sa258 ⟨by decide, by decide⟩
                  have tgi258_1 : cl258.slots[(((14 : Int32) + (1 : Int32))).toNatClampNeg]? = some (.long z87_1) := Has.at Ha258 gi258_1 rfl
                  have gi258_2 : ¬ (((14 : Int32) + (2 : Int32)) < 0 ∨ cl258.slots.size ≤ (((14 : Int32) + (2 : Int32))).toNatClampNeg) := inb_of Sa258 ⟨by decide, by decide⟩
                  have tgi258_2 : cl258.slots[(((14 : Int32) + (2 : Int32))).toNatClampNeg]? = some (.long z87_2) := Has.at Ha258 gi258_2 rfl
                  have gi258_3 : ¬ (((14 : Int32) + (3 : Int32)) < 0 ∨ cl258.slots.size ≤ (((14 : Int32) + (3 : Int32))).toNatClampNeg) := inb_of Sa258 ⟨by decide, by decide⟩
                  have tgi258_3 : cl258.slots[(((14 : Int32) + (3 : Int32))).toNatClampNeg]? = some (.long z87_3) := Has.at Ha258 gi258_3 rfl
                  have gi258_4 : ¬ (((14 : Int32) + (4 : Int32)) < 0 ∨ cl258.slots.size ≤ (((14 : Int32) + (4 : Int32))).toNatClampNeg) := inb_of Sa258 ⟨by decide, by decide⟩
                  have tgi258_4 : cl258.slots[(((14 : Int32) + (4 : Int32))).toNatClampNeg]? = some (.long z87_4) := Has.at Ha258 gi258_4 rfl
                  have gi258_5 : ¬ (((14 : Int32) + (5 : Int32)) < 0 ∨ cl258.slots.size ≤ (((14 : Int32) + (5 : Int32))).toNatClampNeg) := inb_of Sa258 ⟨by decide, by decide⟩
                  have tgi258_5 : cl258.slots[(((14 : Int32) + (5 : Int32))).toNatClampNeg]? = some (.long z87_5) := Has.at Ha258 gi258_5 rfl
                  have gi258_6 : ¬ (((14 : Int32) + (6 : Int32)) < 0 ∨ cl258.slots.size ≤ (((14 : Int32) + (6 : Int32))).toNatClampNeg) := inb_of Sa258 ⟨by decide, by decide⟩
                  have tgi258_6 : cl258.slots[(((14 : Int32) + (6 : Int32))).toNatClampNeg]? = some (.long z87_6) := Has.at Ha258 gi258_6 rfl
                  have Zj_v259 := Nat.le_trans Zj_v81 K87.1
                  have Sj0_v260 := own_sta_keep Sj0 K69 all0
                  have Sj0_v261 := Sj0_v260.ext E70
                  have Sj0_v262 := own_sta_keep Sj0_v261 K79 (allS (own_plain_V V70) all0)
                  have Sj0_v263 := own_sta_keep Sj0_v262 K87 (allS (own_plain_V V79b) all0)
                  have Sj1_v264 := own_sta_keep Sj1 K69 all0
                  have Sj1_v265 := Sj1_v264.ext E70
                  have Sj1_v266 := own_sta_keep Sj1_v265 K79 (allS (own_plain_V V70) all0)
                  have Sj1_v267 := own_sta_keep Sj1_v266 K87 (allS (own_plain_V V79b) all0)
                  have Sj2_v268 := own_sta_keep Sj2 K69 all0
                  have Sj2_v269 := Sj2_v268.ext E70
                  have Sj2_v270 := own_sta_keep Sj2_v269 K79 (allS (own_plain_V V70) all0)
                  have Sj2_v271 := own_sta_keep Sj2_v270 K87 (allS (own_plain_V V79b) all0)
                  have Sj3_v272 := own_sta_keep Sj3 K69 all0
                  have Sj3_v273 := Sj3_v272.ext E70
                  have Sj3_v274 := own_sta_keep Sj3_v273 K79 (allS (own_plain_V V70) all0)
                  have Sj3_v275 := own_sta_keep Sj3_v274 K87 (allS (own_plain_V V79b) all0)
                  have Sj4_v276 := own_sta_keep Sj4 K69 all0
                  have Sj4_v277 := Sj4_v276.ext E70
                  have Sj4_v278 := own_sta_keep Sj4_v277 K79 (allS (own_plain_V V70) all0)
                  have Sj4_v279 := own_sta_keep Sj4_v278 K87 (allS (own_plain_V V79b) all0)
                  have Sj5_v280 := own_sta_keep Sj5 K69 all0
                  have Sj5_v281 := Sj5_v280.ext E70
                  have Sj5_v282 := own_sta_keep Sj5_v281 K79 (allS (own_plain_V V70) all0)
                  have Sj5_v283 := own_sta_keep Sj5_v282 K87 (allS (own_plain_V V79b) all0)
                  have Sj6_v284 := own_sta_keep Sj6 K69 all0
                  have Sj6_v285 := Sj6_v284.ext E70
                  have Sj6_v286 := own_sta_keep Sj6_v285 K79 (allS (own_plain_V V70) all0)
                  have Sj6_v287 := own_sta_keep Sj6_v286 K87 (allS (own_plain_V V79b) all0)
                  obtain ⟨_, _, ⟨T288, L288, k288, n288⟩, -, X288, ⟨Lc288, hQ288, l288, y288, z288⟩, st288⟩ := Jvm.LawKit.callS X87 hx (y := (⟨"com/example/barred_rows/barredrows/crypto/Fp", "equal", "([JI[JI)Z"⟩ : MethodName)) hown (mvT hZ (hw _ (List.mem_of_getElem? (i := 20) rfl))) (mvT hZ (hw _ (List.mem_of_getElem? (i := 21) rfl))) (mvT hZ (hw _ (List.mem_of_getElem? (i := 22) rfl))) (mvT hZ (hw _ (List.mem_of_getElem? (i := 23) rfl))) (by decide) (backOf (W := 0) (rm4 l Z a0 hw [] b70 (7 : Int32) (14 : Int32) cl258 z79_0 z79_1 z79_2 z79_3 z79_4 z79_5 z79_6 z87_0 z87_1 z87_2 z87_3 z87_4 z87_5 z87_6 T87.heap n0 Zj_v259 Ar258 hi258_0 hi258_1 hi258_2 hi258_3 hi258_4 hi258_5 hi258_6 thi258_0 thi258_1 thi258_2 thi258_3 thi258_4 thi258_5 thi258_6 gi258_0 gi258_1 gi258_2 gi258_3 gi258_4 gi258_5 gi258_6 tgi258_0 tgi258_1 tgi258_2 tgi258_3 tgi258_4 tgi258_5 tgi258_6 Sj0_v263 Sj1_v267 Sj2_v271 Sj3_v275 Sj4_v279 Sj5_v283 Sj6_v287) hZ (hw _ (List.mem_of_getElem? (i := 23) rfl)) (hw _ (List.mem_of_getElem? (i := 22) rfl)) (by decide) (by decide)) (g := (mkF m 360 (LS_JsJsJsJsJsJsJsRIIIIIRRRI q0 q1 q2 q3 q4 q5 (36028797018963967 : Int64) b1 (((q5.toUInt64 >>> ((61 : Int32) &&& 0x3f).toInt64.toUInt64).toInt64).toInt32) fA fB (1 : Int32) (2 : Int32) b22 o69 b70 (1 : Int32)) [(.int (14 : Int32)), (.ref b70), (.int (7 : Int32)), (.ref b70)])) rfl (by rw [hml]; rfl) (argsL := [(.ref b70), (.int (7 : Int32)), (.ref b70), (.int (14 : Int32))]) (rest := []) (lenOf pd___JI_JI_Z rfl) rfl (by show 2 * 0 + _ ≤ _; exact Nat.le_of_eq rfl) (hb hby at_360) (fun _ _ => ⟨rfl, rfl, (by decide : 4 + 2 ≤ _), (by decide : 42 + 14 ≤ _)⟩)
                  dsimp only [Pt.U, Pt.locs, Pt.cells, Pt.slots] at X288 l288 y288 z288 st288 hQ288
                  subst l288 y288 z288
                  obtain ⟨rfl, N288q⟩ := hQ288
                  have N288 := Fr.app N87 N288q
                  refine own_go (B := T288.setTop (mkF m 363 (LS_JsJsJsJsJsJsJsRIIIIIRRRI q0 q1 q2 q3 q4 q5 (36028797018963967 : Int64) b1 (((q5.toUInt64 >>> ((61 : Int32) &&& 0x3f).toInt64.toUInt64).toInt64).toInt32) fA fB (1 : Int32) (2 : Int32) b22 o69 b70 (1 : Int32)) [(.int (if ((((((((own_c0 z79_0 z79_1 z79_2 z79_3 z79_4 z79_5 z79_6) ^^^ (own_c0 z87_0 z87_1 z87_2 z87_3 z87_4 z87_5 z87_6)) ||| ((own_c1 z79_0 z79_1 z79_2 z79_3 z79_4 z79_5 z79_6) ^^^ (own_c1 z87_0 z87_1 z87_2 z87_3 z87_4 z87_5 z87_6))) ||| ((own_c2 z79_0 z79_1 z79_2 z79_3 z79_4 z79_5 z79_6) ^^^ (own_c2 z87_0 z87_1 z87_2 z87_3 z87_4 z87_5 z87_6))) ||| ((own_c3 z79_0 z79_1 z79_2 z79_3 z79_4 z79_5 z79_6) ^^^ (own_c3 z87_0 z87_1 z87_2 z87_3 z87_4 z87_5 z87_6))) ||| ((own_c4 z79_0 z79_1 z79_2 z79_3 z79_4 z79_5 z79_6) ^^^ (own_c4 z87_0 z87_1 z87_2 z87_3 z87_4 z87_5 z87_6))) ||| ((own_c5 z79_0 z79_1 z79_2 z79_3 z79_4 z79_5 z79_6) ^^^ (own_c5 z87_0 z87_1 z87_2 z87_3 z87_4 z87_5 z87_6))) ||| ((own_c6 z79_0 z79_1 z79_2 z79_3 z79_4 z79_5 z79_6) ^^^ (own_c6 z87_0 z87_1 z87_2 z87_3 z87_4 z87_5 z87_6))) = (0 : Int64) then (1 : Int32) else (0 : Int32)))])) (fun t k => st288 _ k) ?_
                  rw [c79_0, c79_1, c79_2, c79_3, c79_4, c79_5, c79_6, c87_0, c87_1, c87_2, c87_3, c87_4, c87_5, c87_6]
                  refine own_go (B := T288.setTop (mkF m 373 (LS_JsJsJsJsJsJsJsRIIIIIRRRI q0 q1 q2 q3 q4 q5 (36028797018963967 : Int64) b1 (((q5.toUInt64 >>> ((61 : Int32) &&& 0x3f).toInt64.toUInt64).toInt64).toInt32) fA fB (1 : Int32) (2 : Int32) b22 o69 b70 (1 : Int32)) [(.int (1 : Int32))])) (fun t k => ?_) ?_
                  · refine XS.iload X288.here hx rfl (hb hby at_363) rfl ?_
                    refine XS.icmpNo X288.here hx rfl (hb hby at_365) rfl (teq (if_pos ((own_eq2 bx0 bx1 bx2 bx3 bx4 bx5 bx6).mpr hc342_257))).2 ?_
                    show Steps p.tables e below (T288.setTop (mkF m 368 (LS_JsJsJsJsJsJsJsRIIIIIRRRI q0 q1 q2 q3 q4 q5 (36028797018963967 : Int64) b1 (((q5.toUInt64 >>> ((61 : Int32) &&& 0x3f).toInt64.toUInt64).toInt64).toInt32) fA fB (1 : Int32) (2 : Int32) b22 o69 b70 (1 : Int32)) [])) _
                    refine XS.iconst X288.here hx rfl (hb hby at_368) ?_
                    refine XS.goto X288.here hx rfl (pc0 := 369) (pc' := 373) rfl (hb hby at_369) (by decide) (by decide) ?_
                    exact k
                  obtain ⟨fs, hr, hrun, hended, hW, hsame⟩ := X288.leave (v := some (.int (1 : Int32))) (fun h => by rw [Bd.returns] at h; cases h)
                  refine ⟨_, _, ?_, hrun, hended, _, _, rfl, ?_, ⟨_, rfl⟩, hW, hsame.mono (by decide) (by decide)⟩
                  · show Steps p.tables e below (T288.setTop (mkF m 373 (LS_JsJsJsJsJsJsJsRIIIIIRRRI q0 q1 q2 q3 q4 q5 (36028797018963967 : Int64) b1 (((q5.toUInt64 >>> ((61 : Int32) &&& 0x3f).toInt64.toUInt64).toInt64).toInt32) fA fB (1 : Int32) (2 : Int32) b22 o69 b70 (1 : Int32)) [(.int (1 : Int32))])) _
                    exact retN X288 hx (t := .boolean) Bd.returns (by simp) (hb hby at_373) hr
                  · show Q0 Z q0 q1 q2 q3 q4 q5 h0 n0 _ T288.heap _
                    exact ⟨rfl, N288⟩
                · refine own_go (B := T87.setTop (mkF m 360 (LS_JsJsJsJsJsJsJsRIIIIIRRRI q0 q1 q2 q3 q4 q5 (36028797018963967 : Int64) b1 (((q5.toUInt64 >>> ((61 : Int32) &&& 0x3f).toInt64.toUInt64).toInt64).toInt32) fA fB (1 : Int32) (2 : Int32) b22 o69 b70 (0 : Int32)) [(.int (14 : Int32)), (.ref b70), (.int (7 : Int32)), (.ref b70)])) (fun t k => ?_) ?_
                  · refine XS.ifYes X87.here hx rfl (pc0 := 342) (pc' := 349) rfl (hb hby at_342) rfl ((if0 _ _).trans (feq (fun q => hc342_257 ((lw_eq x2 (0 : Int64)).mp q))).2) (by decide) (by decide) ?_
                    refine XS.iconst X87.here hx rfl (hb hby at_349) ?_
                    show Steps p.tables e below (T87.setTop (mkF m 350 (LS_JsJsJsJsJsJsJsRIIIIIRRRu q0 q1 q2 q3 q4 q5 (36028797018963967 : Int64) b1 (((q5.toUInt64 >>> ((61 : Int32) &&& 0x3f).toInt64.toUInt64).toInt64).toInt32) fA fB (1 : Int32) (2 : Int32) b22 o69 b70) [(.int (0 : Int32))])) _
                    refine XS.istore X87.here hx rfl (hb hby at_350) rfl (l' := (LS_JsJsJsJsJsJsJsRIIIIIRRRI q0 q1 q2 q3 q4 q5 (36028797018963967 : Int64) b1 (((q5.toUInt64 >>> ((61 : Int32) &&& 0x3f).toInt64.toUInt64).toInt64).toInt32) fA fB (1 : Int32) (2 : Int32) b22 o69 b70 (0 : Int32))) rfl ?_
                    refine XS.aload X87.here hx rfl (hb hby at_352) rfl rfl ?_
                    refine XS.bipush X87.here hx rfl (hb hby at_354) ?_
                    show Steps p.tables e below (T87.setTop (mkF m 356 (LS_JsJsJsJsJsJsJsRIIIIIRRRI q0 q1 q2 q3 q4 q5 (36028797018963967 : Int64) b1 (((q5.toUInt64 >>> ((61 : Int32) &&& 0x3f).toInt64.toUInt64).toInt64).toInt32) fA fB (1 : Int32) (2 : Int32) b22 o69 b70 (0 : Int32)) [(.int (7 : Int32)), (.ref b70)])) _
                    refine XS.aload X87.here hx rfl (hb hby at_356) rfl rfl ?_
                    refine XS.bipush X87.here hx rfl (hb hby at_358) ?_
                    exact k
                  obtain ⟨cl289, Ar289, qa289, Sa289, Na289, Ha289, Ga289⟩ := id V87b
                  have hi289_0 : ¬ ((7 : Int32) < 0 ∨ cl289.slots.size ≤ ((7 : Int32)).toNatClampNeg) := inb_of Sa289 ⟨by decide, by decide⟩
                  have thi289_0 : cl289.slots[((7 : Int32)).toNatClampNeg]? = some (.long z79_0) := Has.at Ha289 hi289_0 rfl
                  have hi289_1 : ¬ (((7 : Int32) + (1 : Int32)) < 0 ∨ cl289.slots.size ≤ (((7 : Int32) + (1 : Int32))).toNatClampNeg) := inb_of Sa289 ⟨by decide, by decide⟩
                  have thi289_1 : cl289.slots[(((7 : Int32) + (1 : Int32))).toNatClampNeg]? = some (.long z79_1) := Has.at Ha289 hi289_1 rfl
                  have hi289_2 : ¬ (((7 : Int32) + (2 : Int32)) < 0 ∨ cl289.slots.size ≤ (((7 : Int32) + (2 : Int32))).toNatClampNeg) := inb_of Sa289 ⟨by decide, by decide⟩
                  have thi289_2 : cl289.slots[(((7 : Int32) + (2 : Int32))).toNatClampNeg]? = some (.long z79_2) := Has.at Ha289 hi289_2 rfl
                  have hi289_3 : ¬ (((7 : Int32) + (3 : Int32)) < 0 ∨ cl289.slots.size ≤ (((7 : Int32) + (3 : Int32))).toNatClampNeg) := inb_of Sa289 ⟨by decide, by decide⟩
                  have thi289_3 : cl289.slots[(((7 : Int32) + (3 : Int32))).toNatClampNeg]? = some (.long z79_3) := Has.at Ha289 hi289_3 rfl
                  have hi289_4 : ¬ (((7 : Int32) + (4 : Int32)) < 0 ∨ cl289.slots.size ≤ (((7 : Int32) + (4 : Int32))).toNatClampNeg) := inb_of Sa289 ⟨by decide, by decide⟩
                  have thi289_4 : cl289.slots[(((7 : Int32) + (4 : Int32))).toNatClampNeg]? = some (.long z79_4) := Has.at Ha289 hi289_4 rfl
                  have hi289_5 : ¬ (((7 : Int32) + (5 : Int32)) < 0 ∨ cl289.slots.size ≤ (((7 : Int32) + (5 : Int32))).toNatClampNeg) := inb_of Sa289 ⟨by decide, by decide⟩
                  have thi289_5 : cl289.slots[(((7 : Int32) + (5 : Int32))).toNatClampNeg]? = some (.long z79_5) := Has.at Ha289 hi289_5 rfl
                  have hi289_6 : ¬ (((7 : Int32) + (6 : Int32)) < 0 ∨ cl289.slots.size ≤ (((7 : Int32) + (6 : Int32))).toNatClampNeg) := inb_of Sa289 ⟨by decide, by decide⟩
                  have thi289_6 : cl289.slots[(((7 : Int32) + (6 : Int32))).toNatClampNeg]? = some (.long z79_6) := Has.at Ha289 hi289_6 rfl
                  have gi289_0 : ¬ ((14 : Int32) < 0 ∨ cl289.slots.size ≤ ((14 : Int32)).toNatClampNeg) := inb_of Sa289 ⟨by decide, by decide⟩
                  have tgi289_0 : cl289.slots[((14 : Int32)).toNatClampNeg]? = some (.long z87_0) := Has.at Ha289 gi289_0 rfl
                  have gi289_1 : ¬ (((14 : Int32) + (1 : Int32)) < 0 ∨ cl289.slots.size ≤ (((14 : Int32) + (1 : Int32))).toNatClampNeg) := inb_of Sa289 ⟨by decide, by decide⟩
                  have tgi289_1 : cl289.slots[(((14 : Int32) + (1 : Int32))).toNatClampNeg]? = some (.long z87_1) := Has.at Ha289 gi289_1 rfl
                  have gi289_2 : ¬ (((14 : Int32) + (2 : Int32)) < 0 ∨ cl289.slots.size ≤ (((14 : Int32) + (2 : Int32))).toNatClampNeg) := inb_of Sa289 ⟨by decide, by decide⟩
                  have tgi289_2 : cl289.slots[(((14 : Int32) + (2 : Int32))).toNatClampNeg]? = some (.long z87_2) := Has.at Ha289 gi289_2 rfl
                  have gi289_3 : ¬ (((14 : Int32) + (3 : Int32)) < 0 ∨ cl289.slots.size ≤ (((14 : Int32) + (3 : Int32))).toNatClampNeg) := inb_of Sa289 ⟨by decide, by decide⟩
                  have tgi289_3 : cl289.slots[(((14 : Int32) + (3 : Int32))).toNatClampNeg]? = some (.long z87_3) := Has.at Ha289 gi289_3 rfl
                  have gi289_4 : ¬ (((14 : Int32) + (4 : Int32)) < 0 ∨ cl289.slots.size ≤ (((14 : Int32) + (4 : Int32))).toNatClampNeg) := inb_of Sa289 ⟨by decide, by decide⟩
                  have tgi289_4 : cl289.slots[(((14 : Int32) + (4 : Int32))).toNatClampNeg]? = some (.long z87_4) := Has.at Ha289 gi289_4 rfl
                  have gi289_5 : ¬ (((14 : Int32) + (5 : Int32)) < 0 ∨ cl289.slots.size ≤ (((14 : Int32) + (5 : Int32))).toNatClampNeg) := inb_of Sa289 ⟨by decide, by decide⟩
                  have tgi289_5 : cl289.slots[(((14 : Int32) + (5 : Int32))).toNatClampNeg]? = some (.long z87_5) := Has.at Ha289 gi289_5 rfl
                  have gi289_6 : ¬ (((14 : Int32) + (6 : Int32)) < 0 ∨ cl289.slots.size ≤ (((14 : Int32) + (6 : Int32))).toNatClampNeg) := inb_of Sa289 ⟨by decide, by decide⟩
                  have tgi289_6 : cl289.slots[(((14 : Int32) + (6 : Int32))).toNatClampNeg]? = some (.long z87_6) := Has.at Ha289 gi289_6 rfl
                  have Zj_v290 := Nat.le_trans Zj_v81 K87.1
                  have Sj0_v291 := own_sta_keep Sj0 K69 all0
                  have Sj0_v292 := Sj0_v291.ext E70
                  have Sj0_v293 := own_sta_keep Sj0_v292 K79 (allS (own_plain_V V70) all0)
                  have Sj0_v294 := own_sta_keep Sj0_v293 K87 (allS (own_plain_V V79b) all0)
                  have Sj1_v295 := own_sta_keep Sj1 K69 all0
                  have Sj1_v296 := Sj1_v295.ext E70
                  have Sj1_v297 := own_sta_keep Sj1_v296 K79 (allS (own_plain_V V70) all0)
                  have Sj1_v298 := own_sta_keep Sj1_v297 K87 (allS (own_plain_V V79b) all0)
                  have Sj2_v299 := own_sta_keep Sj2 K69 all0
                  have Sj2_v300 := Sj2_v299.ext E70
                  have Sj2_v301 := own_sta_keep Sj2_v300 K79 (allS (own_plain_V V70) all0)
                  have Sj2_v302 := own_sta_keep Sj2_v301 K87 (allS (own_plain_V V79b) all0)
                  have Sj3_v303 := own_sta_keep Sj3 K69 all0
                  have Sj3_v304 := Sj3_v303.ext E70
                  have Sj3_v305 := own_sta_keep Sj3_v304 K79 (allS (own_plain_V V70) all0)
                  have Sj3_v306 := own_sta_keep Sj3_v305 K87 (allS (own_plain_V V79b) all0)
                  have Sj4_v307 := own_sta_keep Sj4 K69 all0
                  have Sj4_v308 := Sj4_v307.ext E70
                  have Sj4_v309 := own_sta_keep Sj4_v308 K79 (allS (own_plain_V V70) all0)
                  have Sj4_v310 := own_sta_keep Sj4_v309 K87 (allS (own_plain_V V79b) all0)
                  have Sj5_v311 := own_sta_keep Sj5 K69 all0
                  have Sj5_v312 := Sj5_v311.ext E70
                  have Sj5_v313 := own_sta_keep Sj5_v312 K79 (allS (own_plain_V V70) all0)
                  have Sj5_v314 := own_sta_keep Sj5_v313 K87 (allS (own_plain_V V79b) all0)
                  have Sj6_v315 := own_sta_keep Sj6 K69 all0
                  have Sj6_v316 := Sj6_v315.ext E70
                  have Sj6_v317 := own_sta_keep Sj6_v316 K79 (allS (own_plain_V V70) all0)
                  have Sj6_v318 := own_sta_keep Sj6_v317 K87 (allS (own_plain_V V79b) all0)
                  obtain ⟨_, _, ⟨T319, L319, k319, n319⟩, -, X319, ⟨Lc319, hQ319, l319, y319, z319⟩, st319⟩ := Jvm.LawKit.callS X87 hx (y := (⟨"com/example/barred_rows/barredrows/crypto/Fp", "equal", "([JI[JI)Z"⟩ : MethodName)) hown (mvT hZ (hw _ (List.mem_of_getElem? (i := 20) rfl))) (mvT hZ (hw _ (List.mem_of_getElem? (i := 21) rfl))) (mvT hZ (hw _ (List.mem_of_getElem? (i := 22) rfl))) (mvT hZ (hw _ (List.mem_of_getElem? (i := 23) rfl))) (by decide) (backOf (W := 0) (rm4 l Z a0 hw [] b70 (7 : Int32) (14 : Int32) cl289 z79_0 z79_1 z79_2 z79_3 z79_4 z79_5 z79_6 z87_0 z87_1 z87_2 z87_3 z87_4 z87_5 z87_6 T87.heap n0 Zj_v290 Ar289 hi289_0 hi289_1 hi289_2 hi289_3 hi289_4 hi289_5 hi289_6 thi289_0 thi289_1 thi289_2 thi289_3 thi289_4 thi289_5 thi289_6 gi289_0 gi289_1 gi289_2 gi289_3 gi289_4 gi289_5 gi289_6 tgi289_0 tgi289_1 tgi289_2 tgi289_3 tgi289_4 tgi289_5 tgi289_6 Sj0_v294 Sj1_v298 Sj2_v302 Sj3_v306 Sj4_v310 Sj5_v314 Sj6_v318) hZ (hw _ (List.mem_of_getElem? (i := 23) rfl)) (hw _ (List.mem_of_getElem? (i := 22) rfl)) (by decide) (by decide)) (g := (mkF m 360 (LS_JsJsJsJsJsJsJsRIIIIIRRRI q0 q1 q2 q3 q4 q5 (36028797018963967 : Int64) b1 (((q5.toUInt64 >>> ((61 : Int32) &&& 0x3f).toInt64.toUInt64).toInt64).toInt32) fA fB (1 : Int32) (2 : Int32) b22 o69 b70 (0 : Int32)) [(.int (14 : Int32)), (.ref b70), (.int (7 : Int32)), (.ref b70)])) rfl (by rw [hml]; rfl) (argsL := [(.ref b70), (.int (7 : Int32)), (.ref b70), (.int (14 : Int32))]) (rest := []) (lenOf pd___JI_JI_Z rfl) rfl (by show 2 * 0 + _ ≤ _; exact Nat.le_of_eq rfl) (hb hby at_360) (fun _ _ => ⟨rfl, rfl, (by decide : 4 + 2 ≤ _), (by decide : 42 + 14 ≤ _)⟩)
                  dsimp only [Pt.U, Pt.locs, Pt.cells, Pt.slots] at X319 l319 y319 z319 st319 hQ319
                  subst l319 y319 z319
                  obtain ⟨rfl, N319q⟩ := hQ319
                  have N319 := Fr.app N87 N319q
                  refine own_go (B := T319.setTop (mkF m 363 (LS_JsJsJsJsJsJsJsRIIIIIRRRI q0 q1 q2 q3 q4 q5 (36028797018963967 : Int64) b1 (((q5.toUInt64 >>> ((61 : Int32) &&& 0x3f).toInt64.toUInt64).toInt64).toInt32) fA fB (1 : Int32) (2 : Int32) b22 o69 b70 (0 : Int32)) [(.int (if ((((((((own_c0 z79_0 z79_1 z79_2 z79_3 z79_4 z79_5 z79_6) ^^^ (own_c0 z87_0 z87_1 z87_2 z87_3 z87_4 z87_5 z87_6)) ||| ((own_c1 z79_0 z79_1 z79_2 z79_3 z79_4 z79_5 z79_6) ^^^ (own_c1 z87_0 z87_1 z87_2 z87_3 z87_4 z87_5 z87_6))) ||| ((own_c2 z79_0 z79_1 z79_2 z79_3 z79_4 z79_5 z79_6) ^^^ (own_c2 z87_0 z87_1 z87_2 z87_3 z87_4 z87_5 z87_6))) ||| ((own_c3 z79_0 z79_1 z79_2 z79_3 z79_4 z79_5 z79_6) ^^^ (own_c3 z87_0 z87_1 z87_2 z87_3 z87_4 z87_5 z87_6))) ||| ((own_c4 z79_0 z79_1 z79_2 z79_3 z79_4 z79_5 z79_6) ^^^ (own_c4 z87_0 z87_1 z87_2 z87_3 z87_4 z87_5 z87_6))) ||| ((own_c5 z79_0 z79_1 z79_2 z79_3 z79_4 z79_5 z79_6) ^^^ (own_c5 z87_0 z87_1 z87_2 z87_3 z87_4 z87_5 z87_6))) ||| ((own_c6 z79_0 z79_1 z79_2 z79_3 z79_4 z79_5 z79_6) ^^^ (own_c6 z87_0 z87_1 z87_2 z87_3 z87_4 z87_5 z87_6))) = (0 : Int64) then (1 : Int32) else (0 : Int32)))])) (fun t k => st319 _ k) ?_
                  rw [c79_0, c79_1, c79_2, c79_3, c79_4, c79_5, c79_6, c87_0, c87_1, c87_2, c87_3, c87_4, c87_5, c87_6]
                  refine own_go (B := T319.setTop (mkF m 373 (LS_JsJsJsJsJsJsJsRIIIIIRRRI q0 q1 q2 q3 q4 q5 (36028797018963967 : Int64) b1 (((q5.toUInt64 >>> ((61 : Int32) &&& 0x3f).toInt64.toUInt64).toInt64).toInt32) fA fB (1 : Int32) (2 : Int32) b22 o69 b70 (0 : Int32)) [(.int (1 : Int32))])) (fun t k => ?_) ?_
                  · refine XS.iload X319.here hx rfl (hb hby at_363) rfl ?_
                    refine XS.icmpNo X319.here hx rfl (hb hby at_365) rfl (teq (if_neg fun q => hc342_257 ((own_eq2 bx0 bx1 bx2 bx3 bx4 bx5 bx6).mp q))).2 ?_
                    show Steps p.tables e below (T319.setTop (mkF m 368 (LS_JsJsJsJsJsJsJsRIIIIIRRRI q0 q1 q2 q3 q4 q5 (36028797018963967 : Int64) b1 (((q5.toUInt64 >>> ((61 : Int32) &&& 0x3f).toInt64.toUInt64).toInt64).toInt32) fA fB (1 : Int32) (2 : Int32) b22 o69 b70 (0 : Int32)) [])) _
                    refine XS.iconst X319.here hx rfl (hb hby at_368) ?_
                    refine XS.goto X319.here hx rfl (pc0 := 369) (pc' := 373) rfl (hb hby at_369) (by decide) (by decide) ?_
                    exact k
                  obtain ⟨fs, hr, hrun, hended, hW, hsame⟩ := X319.leave (v := some (.int (1 : Int32))) (fun h => by rw [Bd.returns] at h; cases h)
                  refine ⟨_, _, ?_, hrun, hended, _, _, rfl, ?_, ⟨_, rfl⟩, hW, hsame.mono (by decide) (by decide)⟩
                  · show Steps p.tables e below (T319.setTop (mkF m 373 (LS_JsJsJsJsJsJsJsRIIIIIRRRI q0 q1 q2 q3 q4 q5 (36028797018963967 : Int64) b1 (((q5.toUInt64 >>> ((61 : Int32) &&& 0x3f).toInt64.toUInt64).toInt64).toInt32) fA fB (1 : Int32) (2 : Int32) b22 o69 b70 (0 : Int32)) [(.int (1 : Int32))])) _
                    exact retN X319 hx (t := .boolean) Bd.returns (by simp) (hb hby at_373) hr
                  · show Q0 Z q0 q1 q2 q3 q4 q5 h0 n0 _ T319.heap _
                    exact ⟨rfl, N319⟩
              · refine own_go (B := T87.setTop (mkF m 330 (LS_JsJsJsJsJsJsJsRIIIIIRRRu q0 q1 q2 q3 q4 q5 (36028797018963967 : Int64) b1 (((q5.toUInt64 >>> ((61 : Int32) &&& 0x3f).toInt64.toUInt64).toInt64).toInt32) fA fB (1 : Int32) (3 : Int32) b22 o69 b70) [])) (fun t k => by rw [hkf]; exact k) ?_
                have Vxj_v321 := Vxj_v75.keep K79 (ninS ne77 nin0)
                have Vxj_v322 := Vxj_v321.keep K87 (ninS ne77 nin0)
                obtain ⟨cl320, Ar320, qa320, Sa320, Na320, Ha320, Ga320⟩ := id Vxj_v322
                have hin323 : ¬ ((3 : Int32) < 0 ∨ cl320.slots.size ≤ ((3 : Int32)).toNatClampNeg) := inb_of Sa320 ⟨by decide, by decide⟩
                have hat323 : cl320.slots[((3 : Int32)).toNatClampNeg]? = some (.long x3) := Has.at Ha320 hin323 rfl
                refine own_go (B := T87.setTop (mkF m 342 (LS_JsJsJsJsJsJsJsRIIIIIRRRu q0 q1 q2 q3 q4 q5 (36028797018963967 : Int64) b1 (((q5.toUInt64 >>> ((61 : Int32) &&& 0x3f).toInt64.toUInt64).toInt64).toInt32) fA fB (1 : Int32) (3 : Int32) b22 o69 b70) [(.int (lcmpW x3 (0 : Int64)))])) (fun t k => ?_) ?_
                · refine XS.iload X87.here hx rfl (hb hby at_330) rfl ?_
                  refine XS.ifNo X87.here hx rfl (hb hby at_332) rfl ((if0 _ _).trans (feq (by decide : ¬ ((1 : Int32) = (0 : Int32)))).1) ?_
                  show Steps p.tables e below (T87.setTop (mkF m 335 (LS_JsJsJsJsJsJsJsRIIIIIRRRu q0 q1 q2 q3 q4 q5 (36028797018963967 : Int64) b1 (((q5.toUInt64 >>> ((61 : Int32) &&& 0x3f).toInt64.toUInt64).toInt64).toInt32) fA fB (1 : Int32) (3 : Int32) b22 o69 b70) [])) _
                  refine XS.aload X87.here hx rfl (hb hby at_335) rfl rfl ?_
                  refine XS.iload X87.here hx rfl (hb hby at_337) rfl ?_
                  refine X87.laload hx (j := (3 : Int32)) (v := (.long x3)) Ar320.1 (State.isArrayOf_alike hZ.alike Ar320.2.1) Ar320.2.2 hin323 hat323 (g := (mkF m 339 (LS_JsJsJsJsJsJsJsRIIIIIRRRu q0 q1 q2 q3 q4 q5 (36028797018963967 : Int64) b1 (((q5.toUInt64 >>> ((61 : Int32) &&& 0x3f).toInt64.toUInt64).toInt64).toInt32) fA fB (1 : Int32) (3 : Int32) b22 o69 b70) [(.int (3 : Int32)), (.ref b1)])) rfl rfl (hb hby at_339) _ ?_
                  show Steps p.tables e below (T87.setTop (mkF m 340 (LS_JsJsJsJsJsJsJsRIIIIIRRRu q0 q1 q2 q3 q4 q5 (36028797018963967 : Int64) b1 (((q5.toUInt64 >>> ((61 : Int32) &&& 0x3f).toInt64.toUInt64).toInt64).toInt32) fA fB (1 : Int32) (3 : Int32) b22 o69 b70) [(.long x3)])) _
                  refine XS.lconst X87.here hx rfl (hb hby at_340) ?_
                  refine XS.lcmp X87.here hx rfl (hb hby at_341) rfl ?_
                  exact k
                by_cases hc342_324 : x3 = (0 : Int64)
                · refine own_go (B := T87.setTop (mkF m 360 (LS_JsJsJsJsJsJsJsRIIIIIRRRI q0 q1 q2 q3 q4 q5 (36028797018963967 : Int64) b1 (((q5.toUInt64 >>> ((61 : Int32) &&& 0x3f).toInt64.toUInt64).toInt64).toInt32) fA fB (1 : Int32) (3 : Int32) b22 o69 b70 (1 : Int32)) [(.int (14 : Int32)), (.ref b70), (.int (7 : Int32)), (.ref b70)])) (fun t k => ?_) ?_
                  · refine XS.ifNo X87.here hx rfl (hb hby at_342) rfl ((if0 _ _).trans (teq ((lw_eq x3 (0 : Int64)).mpr hc342_324)).2) ?_
                    refine XS.iconst X87.here hx rfl (hb hby at_345) ?_
                    show Steps p.tables e below (T87.setTop (mkF m 346 (LS_JsJsJsJsJsJsJsRIIIIIRRRu q0 q1 q2 q3 q4 q5 (36028797018963967 : Int64) b1 (((q5.toUInt64 >>> ((61 : Int32) &&& 0x3f).toInt64.toUInt64).toInt64).toInt32) fA fB (1 : Int32) (3 : Int32) b22 o69 b70) [(.int (1 : Int32))])) _
                    refine XS.goto X87.here hx rfl (pc0 := 346) (pc' := 350) rfl (hb hby at_346) (by decide) (by decide) ?_
                    refine XS.istore X87.here hx rfl (hb hby at_350) rfl (l' := (LS_JsJsJsJsJsJsJsRIIIIIRRRI q0 q1 q2 q3 q4 q5 (36028797018963967 : Int64) b1 (((q5.toUInt64 >>> ((61 : Int32) &&& 0x3f).toInt64.toUInt64).toInt64).toInt32) fA fB (1 : Int32) (3 : Int32) b22 o69 b70 (1 : Int32))) rfl ?_
                    refine XS.aload X87.here hx rfl (hb hby at_352) rfl rfl ?_
                    show Steps p.tables e below (T87.setTop (mkF m 354 (LS_JsJsJsJsJsJsJsRIIIIIRRRI q0 q1 q2 q3 q4 q5 (36028797018963967 : Int64) b1 (((q5.toUInt64 >>> ((61 : Int32) &&& 0x3f).toInt64.toUInt64).toInt64).toInt32) fA fB (1 : Int32) (3 : Int32) b22 o69 b70 (1 : Int32)) [(.ref b70)])) _
                    refine XS.bipush X87.here hx rfl (hb hby at_354) ?_
                    refine XS.aload X87.here hx rfl (hb hby at_356) rfl rfl ?_
                    refine XS.bipush X87.here hx rfl (hb hby at_358) ?_
                    exact k
                  obtain ⟨cl325, Ar325, qa325, Sa325, Na325, Ha325, Ga325⟩ := id V87b
                  have hi325_0 : ¬ ((7 : Int32) < 0 ∨ cl325.slots.size ≤ ((7 : Int32)).toNatClampNeg) := inb_of Sa325 ⟨by decide, by decide⟩
                  have thi325_0 : cl325.slots[((7 : Int32)).toNatClampNeg]? = some (.long z79_0) := Has.at Ha325 hi325_0 rfl
                  have hi325_1 : ¬ (((7 : Int32) + (1 : Int32)) < 0 ∨ cl325.slots.size ≤ (((7 : Int32) + (1 : Int32))).toNatClampNeg) := inb_of Sa325 ⟨by decide, by decide⟩
                  have thi325_1 : cl325.slots[(((7 : Int32) + (1 : Int32))).toNatClampNeg]? = some (.long z79_1) := Has.at Ha325 hi325_1 rfl
                  have hi325_2 : ¬ (((7 : Int32) + (2 : Int32)) < 0 ∨ cl325.slots.size ≤ (((7 : Int32) + (2 : Int32))).toNatClampNeg) := inb_of Sa325 ⟨by decide, by decide⟩
                  have thi325_2 : cl325.slots[(((7 : Int32) + (2 : Int32))).toNatClampNeg]? = some (.long z79_2) := Has.at Ha325 hi325_2 rfl
                  have hi325_3 : ¬ (((7 : Int32) + (3 : Int32)) < 0 ∨ cl325.slots.size ≤ (((7 : Int32) + (3 : Int32))).toNatClampNeg) := inb_of Sa325 ⟨by decide, by decide⟩
                  have thi325_3 : cl325.slots[(((7 : Int32) + (3 : Int32))).toNatClampNeg]? = some (.long z79_3) := Has.at Ha325 hi325_3 rfl
                  have hi325_4 : ¬ (((7 : Int32) + (4 : Int32)) < 0 ∨ cl325.slots.size ≤ (((7 : Int32) + (4 : Int32))).toNatClampNeg) := inb_of Sa325 ⟨by decide, by decide⟩
                  have thi325_4 : cl325.slots[(((7 : Int32) + (4 : Int32))).toNatClampNeg]? = some (.long z79_4) := Has.at Ha325 hi325_4 rfl
                  have hi325_5 : ¬ (((7 : Int32) + (5 : Int32)) < 0 ∨ cl325.slots.size ≤ (((7 : Int32) + (5 : Int32))).toNatClampNeg) := inb_of Sa325 ⟨by decide, by decide⟩
                  have thi325_5 : cl325.slots[(((7 : Int32) + (5 : Int32))).toNatClampNeg]? = some (.long z79_5) := Has.at Ha325 hi325_5 rfl
                  have hi325_6 : ¬ (((7 : Int32) + (6 : Int32)) < 0 ∨ cl325.slots.size ≤ (((7 : Int32) + (6 : Int32))).toNatClampNeg) := inb_of Sa325 ⟨by decide, by decide⟩
                  have thi325_6 : cl325.slots[(((7 : Int32) + (6 : Int32))).toNatClampNeg]? = some (.long z79_6) := Has.at Ha325 hi325_6 rfl
                  have gi325_0 : ¬ ((14 : Int32) < 0 ∨ cl325.slots.size ≤ ((14 : Int32)).toNatClampNeg) := inb_of Sa325 ⟨by decide, by decide⟩
                  have tgi325_0 : cl325.slots[((14 : Int32)).toNatClampNeg]? = some (.long z87_0) := Has.at Ha325 gi325_0 rfl
                  have gi325_1 : ¬ (((14 : Int32) + (1 : Int32)) < 0 ∨ cl325.slots.size ≤ (((14 : Int32) + (1 : Int32))).toNatClampNeg) := inb_of Sa325 ⟨by decide, by decide⟩
                  have tgi325_1 : cl325.slots[(((14 : Int32) + (1 : Int32))).toNatClampNeg]? = some (.long z87_1) := Has.at Ha325 gi325_1 rfl
                  have gi325_2 : ¬ (((14 : Int32) + (2 : Int32)) < 0 ∨ cl325.slots.size ≤ (((14 : Int32) + (2 : Int32))).toNatClampNeg) := inb_of Sa325 ⟨by decide, by decide⟩
                  have tgi325_2 : cl325.slots[(((14 : Int32) + (2 : Int32))).toNatClampNeg]? = some (.long z87_2) := Has.at Ha325 gi325_2 rfl
                  have gi325_3 : ¬ (((14 : Int32) + (3 : Int32)) < 0 ∨ cl325.slots.size ≤ (((14 : Int32) + (3 : Int32))).toNatClampNeg) := inb_of Sa325 ⟨by decide, by decide⟩
                  have tgi325_3 : cl325.slots[(((14 : Int32) + (3 : Int32))).toNatClampNeg]? = some (.long z87_3) := Has.at Ha325 gi325_3 rfl
                  have gi325_4 : ¬ (((14 : Int32) + (4 : Int32)) < 0 ∨ cl325.slots.size ≤ (((14 : Int32) + (4 : Int32))).toNatClampNeg) := inb_of Sa325 ⟨by decide, by decide⟩
                  have tgi325_4 : cl325.slots[(((14 : Int32) + (4 : Int32))).toNatClampNeg]? = some (.long z87_4) := Has.at Ha325 gi325_4 rfl
                  have gi325_5 : ¬ (((14 : Int32) + (5 : Int32)) < 0 ∨ cl325.slots.size ≤ (((14 : Int32) + (5 : Int32))).toNatClampNeg) := inb_of Sa325 ⟨by decide, by decide⟩
                  have tgi325_5 : cl325.slots[(((14 : Int32) + (5 : Int32))).toNatClampNeg]? = some (.long z87_5) := Has.at Ha325 gi325_5 rfl
                  have gi325_6 : ¬ (((14 : Int32) + (6 : Int32)) < 0 ∨ cl325.slots.size ≤ (((14 : Int32) + (6 : Int32))).toNatClampNeg) := inb_of Sa325 ⟨by decide, by decide⟩
                  have tgi325_6 : cl325.slots[(((14 : Int32) + (6 : Int32))).toNatClampNeg]? = some (.long z87_6) := Has.at Ha325 gi325_6 rfl
                  have Zj_v326 := Nat.le_trans Zj_v81 K87.1
                  have Sj0_v327 := own_sta_keep Sj0 K69 all0
                  have Sj0_v328 := Sj0_v327.ext E70
                  have Sj0_v329 := own_sta_keep Sj0_v328 K79 (allS (own_plain_V V70) all0)
                  have Sj0_v330 := own_sta_keep Sj0_v329 K87 (allS (own_plain_V V79b) all0)
                  have Sj1_v331 := own_sta_keep Sj1 K69 all0
                  have Sj1_v332 := Sj1_v331.ext E70
                  have Sj1_v333 := own_sta_keep Sj1_v332 K79 (allS (own_plain_V V70) all0)
                  have Sj1_v334 := own_sta_keep Sj1_v333 K87 (allS (own_plain_V V79b) all0)
                  have Sj2_v335 := own_sta_keep Sj2 K69 all0
                  have Sj2_v336 := Sj2_v335.ext E70
                  have Sj2_v337 := own_sta_keep Sj2_v336 K79 (allS (own_plain_V V70) all0)
                  have Sj2_v338 := own_sta_keep Sj2_v337 K87 (allS (own_plain_V V79b) all0)
                  have Sj3_v339 := own_sta_keep Sj3 K69 all0
                  have Sj3_v340 := Sj3_v339.ext E70
                  have Sj3_v341 := own_sta_keep Sj3_v340 K79 (allS (own_plain_V V70) all0)
                  have Sj3_v342 := own_sta_keep Sj3_v341 K87 (allS (own_plain_V V79b) all0)
                  have Sj4_v343 := own_sta_keep Sj4 K69 all0
                  have Sj4_v344 := Sj4_v343.ext E70
                  have Sj4_v345 := own_sta_keep Sj4_v344 K79 (allS (own_plain_V V70) all0)
                  have Sj4_v346 := own_sta_keep Sj4_v345 K87 (allS (own_plain_V V79b) all0)
                  have Sj5_v347 := own_sta_keep Sj5 K69 all0
                  have Sj5_v348 := Sj5_v347.ext E70
                  have Sj5_v349 := own_sta_keep Sj5_v348 K79 (allS (own_plain_V V70) all0)
                  have Sj5_v350 := own_sta_keep Sj5_v349 K87 (allS (own_plain_V V79b) all0)
                  have Sj6_v351 := own_sta_keep Sj6 K69 all0
                  have Sj6_v352 := Sj6_v351.ext E70
                  have Sj6_v353 := own_sta_keep Sj6_v352 K79 (allS (own_plain_V V70) all0)
                  have Sj6_v354 := own_sta_keep Sj6_v353 K87 (allS (own_plain_V V79b) all0)
                  obtain ⟨_, _, ⟨T355, L355, k355, n355⟩, -, X355, ⟨Lc355, hQ355, l355, y355, z355⟩, st355⟩ := Jvm.LawKit.callS X87 hx (y := (⟨"com/example/barred_rows/barredrows/crypto/Fp", "equal", "([JI[JI)Z"⟩ : MethodName)) hown (mvT hZ (hw _ (List.mem_of_getElem? (i := 20) rfl))) (mvT hZ (hw _ (List.mem_of_getElem? (i := 21) rfl))) (mvT hZ (hw _ (List.mem_of_getElem? (i := 22) rfl))) (mvT hZ (hw _ (List.mem_of_getElem? (i := 23) rfl))) (by decide) (backOf (W := 0) (rm4 l Z a0 hw [] b70 (7 : Int32) (14 : Int32) cl325 z79_0 z79_1 z79_2 z79_3 z79_4 z79_5 z79_6 z87_0 z87_1 z87_2 z87_3 z87_4 z87_5 z87_6 T87.heap n0 Zj_v326 Ar325 hi325_0 hi325_1 hi325_2 hi325_3 hi325_4 hi325_5 hi325_6 thi325_0 thi325_1 thi325_2 thi325_3 thi325_4 thi325_5 thi325_6 gi325_0 gi325_1 gi325_2 gi325_3 gi325_4 gi325_5 gi325_6 tgi325_0 tgi325_1 tgi325_2 tgi325_3 tgi325_4 tgi325_5 tgi325_6 Sj0_v330 Sj1_v334 Sj2_v338 Sj3_v342 Sj4_v346 Sj5_v350 Sj6_v354) hZ (hw _ (List.mem_of_getElem? (i := 23) rfl)) (hw _ (List.mem_of_getElem? (i := 22) rfl)) (by decide) (by decide)) (g := (mkF m 360 (LS_JsJsJsJsJsJsJsRIIIIIRRRI q0 q1 q2 q3 q4 q5 (36028797018963967 : Int64) b1 (((q5.toUInt64 >>> ((61 : Int32) &&& 0x3f).toInt64.toUInt64).toInt64).toInt32) fA fB (1 : Int32) (3 : Int32) b22 o69 b70 (1 : Int32)) [(.int (14 : Int32)), (.ref b70), (.int (7 : Int32)), (.ref b70)])) rfl (by rw [hml]; rfl) (argsL := [(.ref b70), (.int (7 : Int32)), (.ref b70), (.int (14 : Int32))]) (rest := []) (lenOf pd___JI_JI_Z rfl) rfl (by show 2 * 0 + _ ≤ _; exact Nat.le_of_eq rfl) (hb hby at_360) (fun _ _ => ⟨rfl, rfl, (by decide : 4 + 2 ≤ _), (by decide : 42 + 14 ≤ _)⟩)
                  dsimp only [Pt.U, Pt.locs, Pt.cells, Pt.slots] at X355 l355 y355 z355 st355 hQ355
                  subst l355 y355 z355
                  obtain ⟨rfl, N355q⟩ := hQ355
                  have N355 := Fr.app N87 N355q
                  refine own_go (B := T355.setTop (mkF m 363 (LS_JsJsJsJsJsJsJsRIIIIIRRRI q0 q1 q2 q3 q4 q5 (36028797018963967 : Int64) b1 (((q5.toUInt64 >>> ((61 : Int32) &&& 0x3f).toInt64.toUInt64).toInt64).toInt32) fA fB (1 : Int32) (3 : Int32) b22 o69 b70 (1 : Int32)) [(.int (if ((((((((own_c0 z79_0 z79_1 z79_2 z79_3 z79_4 z79_5 z79_6) ^^^ (own_c0 z87_0 z87_1 z87_2 z87_3 z87_4 z87_5 z87_6)) ||| ((own_c1 z79_0 z79_1 z79_2 z79_3 z79_4 z79_5 z79_6) ^^^ (own_c1 z87_0 z87_1 z87_2 z87_3 z87_4 z87_5 z87_6))) ||| ((own_c2 z79_0 z79_1 z79_2 z79_3 z79_4 z79_5 z79_6) ^^^ (own_c2 z87_0 z87_1 z87_2 z87_3 z87_4 z87_5 z87_6))) ||| ((own_c3 z79_0 z79_1 z79_2 z79_3 z79_4 z79_5 z79_6) ^^^ (own_c3 z87_0 z87_1 z87_2 z87_3 z87_4 z87_5 z87_6))) ||| ((own_c4 z79_0 z79_1 z79_2 z79_3 z79_4 z79_5 z79_6) ^^^ (own_c4 z87_0 z87_1 z87_2 z87_3 z87_4 z87_5 z87_6))) ||| ((own_c5 z79_0 z79_1 z79_2 z79_3 z79_4 z79_5 z79_6) ^^^ (own_c5 z87_0 z87_1 z87_2 z87_3 z87_4 z87_5 z87_6))) ||| ((own_c6 z79_0 z79_1 z79_2 z79_3 z79_4 z79_5 z79_6) ^^^ (own_c6 z87_0 z87_1 z87_2 z87_3 z87_4 z87_5 z87_6))) = (0 : Int64) then (1 : Int32) else (0 : Int32)))])) (fun t k => st355 _ k) ?_
                  rw [c79_0, c79_1, c79_2, c79_3, c79_4, c79_5, c79_6, c87_0, c87_1, c87_2, c87_3, c87_4, c87_5, c87_6]
                  refine own_go (B := T355.setTop (mkF m 373 (LS_JsJsJsJsJsJsJsRIIIIIRRRI q0 q1 q2 q3 q4 q5 (36028797018963967 : Int64) b1 (((q5.toUInt64 >>> ((61 : Int32) &&& 0x3f).toInt64.toUInt64).toInt64).toInt32) fA fB (1 : Int32) (3 : Int32) b22 o69 b70 (1 : Int32)) [(.int (1 : Int32))])) (fun t k => ?_) ?_
                  · refine XS.iload X355.here hx rfl (hb hby at_363) rfl ?_
                    refine XS.icmpNo X355.here hx rfl (hb hby at_365) rfl (teq (if_pos ((own_eq3 bx0 bx1 bx2 bx3 bx4 bx5 bx6).mpr hc342_324))).2 ?_
                    show Steps p.tables e below (T355.setTop (mkF m 368 (LS_JsJsJsJsJsJsJsRIIIIIRRRI q0 q1 q2 q3 q4 q5 (36028797018963967 : Int64) b1 (((q5.toUInt64 >>> ((61 : Int32) &&& 0x3f).toInt64.toUInt64).toInt64).toInt32) fA fB (1 : Int32) (3 : Int32) b22 o69 b70 (1 : Int32)) [])) _
                    refine XS.iconst X355.here hx rfl (hb hby at_368) ?_
                    refine XS.goto X355.here hx rfl (pc0 := 369) (pc' := 373) rfl (hb hby at_369) (by decide) (by decide) ?_
                    exact k
                  obtain ⟨fs, hr, hrun, hended, hW, hsame⟩ := X355.leave (v := some (.int (1 : Int32))) (fun h => by rw [Bd.returns] at h; cases h)
                  refine ⟨_, _, ?_, hrun, hended, _, _, rfl, ?_, ⟨_, rfl⟩, hW, hsame.mono (by decide) (by decide)⟩
                  · show Steps p.tables e below (T355.setTop (mkF m 373 (LS_JsJsJsJsJsJsJsRIIIIIRRRI q0 q1 q2 q3 q4 q5 (36028797018963967 : Int64) b1 (((q5.toUInt64 >>> ((61 : Int32) &&& 0x3f).toInt64.toUInt64).toInt64).toInt32) fA fB (1 : Int32) (3 : Int32) b22 o69 b70 (1 : Int32)) [(.int (1 : Int32))])) _
                    exact retN X355 hx (t := .boolean) Bd.returns (by simp) (hb hby at_373) hr
                  · show Q0 Z q0 q1 q2 q3 q4 q5 h0 n0 _ T355.heap _
                    exact ⟨rfl, N355⟩
                · refine own_go (B := T87.setTop (mkF m 360 (LS_JsJsJsJsJsJsJsRIIIIIRRRI q0 q1 q2 q3 q4 q5 (36028797018963967 : Int64) b1 (((q5.toUInt64 >>> ((61 : Int32) &&& 0x3f).toInt64.toUInt64).toInt64).toInt32) fA fB (1 : Int32) (3 : Int32) b22 o69 b70 (0 : Int32)) [(.int (14 : Int32)), (.ref b70), (.int (7 : Int32)), (.ref b70)])) (fun t k => ?_) ?_
                  · refine XS.ifYes X87.here hx rfl (pc0 := 342) (pc' := 349) rfl (hb hby at_342) rfl ((if0 _ _).trans (feq (fun q => hc342_324 ((lw_eq x3 (0 : Int64)).mp q))).2) (by decide) (by decide) ?_
                    refine XS.iconst X87.here hx rfl (hb hby at_349) ?_
                    show Steps p.tables e below (T87.setTop (mkF m 350 (LS_JsJsJsJsJsJsJsRIIIIIRRRu q0 q1 q2 q3 q4 q5 (36028797018963967 : Int64) b1 (((q5.toUInt64 >>> ((61 : Int32) &&& 0x3f).toInt64.toUInt64).toInt64).toInt32) fA fB (1 : Int32) (3 : Int32) b22 o69 b70) [(.int (0 : Int32))])) _
                    refine XS.istore X87.here hx rfl (hb hby at_350) rfl (l' := (LS_JsJsJsJsJsJsJsRIIIIIRRRI q0 q1 q2 q3 q4 q5 (36028797018963967 : Int64) b1 (((q5.toUInt64 >>> ((61 : Int32) &&& 0x3f).toInt64.toUInt64).toInt64).toInt32) fA fB (1 : Int32) (3 : Int32) b22 o69 b70 (0 : Int32))) rfl ?_
                    refine XS.aload X87.here hx rfl (hb hby at_352) rfl rfl ?_
                    refine XS.bipush X87.here hx rfl (hb hby at_354) ?_
                    show Steps p.tables e below (T87.setTop (mkF m 356 (LS_JsJsJsJsJsJsJsRIIIIIRRRI q0 q1 q2 q3 q4 q5 (36028797018963967 : Int64) b1 (((q5.toUInt64 >>> ((61 : Int32) &&& 0x3f).toInt64.toUInt64).toInt64).toInt32) fA fB (1 : Int32) (3 : Int32) b22 o69 b70 (0 : Int32)) [(.int (7 : Int32)), (.ref b70)])) _
                    refine XS.aload X87.here hx rfl (hb hby at_356) rfl rfl ?_
                    refine XS.bipush X87.here hx rfl (hb hby at_358) ?_
                    exact k
                  obtain ⟨cl356, Ar356, qa356, Sa356, Na356, Ha356, Ga356⟩ := id V87b
                  have hi356_0 : ¬ ((7 : Int32) < 0 ∨ cl356.slots.size ≤ ((7 : Int32)).toNatClampNeg) := inb_of Sa356 ⟨by decide, by decide⟩
                  have thi356_0 : cl356.slots[((7 : Int32)).toNatClampNeg]? = some (.long z79_0) := Has.at Ha356 hi356_0 rfl
                  have hi356_1 : ¬ (((7 : Int32) + (1 : Int32)) < 0 ∨ cl356.slots.size ≤ (((7 : Int32) + (1 : Int32))).toNatClampNeg) := inb_of Sa356 ⟨by decide, by decide⟩
                  have thi356_1 : cl356.slots[(((7 : Int32) + (1 : Int32))).toNatClampNeg]? = some (.long z79_1) := Has.at Ha356 hi356_1 rfl
                  have hi356_2 : ¬ (((7 : Int32) + (2 : Int32)) < 0 ∨ cl356.slots.size ≤ (((7 : Int32) + (2 : Int32))).toNatClampNeg) := inb_of Sa356 ⟨by decide, by decide⟩
                  have thi356_2 : cl356.slots[(((7 : Int32) + (2 : Int32))).toNatClampNeg]? = some (.long z79_2) := Has.at Ha356 hi356_2 rfl
                  have hi356_3 : ¬ (((7 : Int32) + (3 : Int32)) < 0 ∨ cl356.slots.size ≤ (((7 : Int32) + (3 : Int32))).toNatClampNeg) := inb_of Sa356 ⟨by decide, by decide⟩
                  have thi356_3 : cl356.slots[(((7 : Int32) + (3 : Int32))).toNatClampNeg]? = some (.long z79_3) := Has.at Ha356 hi356_3 rfl
                  have hi356_4 : ¬ (((7 : Int32) + (4 : Int32)) < 0 ∨ cl356.slots.size ≤ (((7 : Int32) + (4 : Int32))).toNatClampNeg) := inb_of Sa356 ⟨by decide, by decide⟩
                  have thi356_4 : cl356.slots[(((7 : Int32) + (4 : Int32))).toNatClampNeg]? = some (.long z79_4) := Has.at Ha356 hi356_4 rfl
                  have hi356_5 : ¬ (((7 : Int32) + (5 : Int32)) < 0 ∨ cl356.slots.size ≤ (((7 : Int32) + (5 : Int32))).toNatClampNeg) := inb_of Sa356 ⟨by decide, by decide⟩
                  have thi356_5 : cl356.slots[(((7 : Int32) + (5 : Int32))).toNatClampNeg]? = some (.long z79_5) := Has.at Ha356 hi356_5 rfl
                  have hi356_6 : ¬ (((7 : Int32) + (6 : Int32)) < 0 ∨ cl356.slots.size ≤ (((7 : Int32) + (6 : Int32))).toNatClampNeg) := inb_of Sa356 ⟨by decide, by decide⟩
                  have thi356_6 : cl356.slots[(((7 : Int32) + (6 : Int32))).toNatClampNeg]? = some (.long z79_6) := Has.at Ha356 hi356_6 rfl
                  have gi356_0 : ¬ ((14 : Int32) < 0 ∨ cl356.slots.size ≤ ((14 : Int32)).toNatClampNeg) := inb_of Sa356 ⟨by decide, by decide⟩
                  have tgi356_0 : cl356.slots[((14 : Int32)).toNatClampNeg]? = some (.long z87_0) := Has.at Ha356 gi356_0 rfl
                  have gi356_1 : ¬ (((14 : Int32) + (1 : Int32)) < 0 ∨ cl356.slots.size ≤ (((14 : Int32) + (1 : Int32))).toNatClampNeg) := inb_of Sa356 ⟨by decide, by decide⟩
                  have tgi356_1 : cl356.slots[(((14 : Int32) + (1 : Int32))).toNatClampNeg]? = some (.long z87_1) := Has.at Ha356 gi356_1 rfl
                  have gi356_2 : ¬ (((14 : Int32) + (2 : Int32)) < 0 ∨ cl356.slots.size ≤ (((14 : Int32) + (2 : Int32))).toNatClampNeg) := inb_of Sa356 ⟨by decide, by decide⟩
                  have tgi356_2 : cl356.slots[(((14 : Int32) + (2 : Int32))).toNatClampNeg]? = some (.long z87_2) := Has.at Ha356 gi356_2 rfl
                  have gi356_3 : ¬ (((14 : Int32) + (3 : Int32)) < 0 ∨ cl356.slots.size ≤ (((14 : Int32) + (3 : Int32))).toNatClampNeg) := inb_of Sa356 ⟨by decide, by decide⟩
                  have tgi356_3 : cl356.slots[(((14 : Int32) + (3 : Int32))).toNatClampNeg]? = some (.long z87_3) := Has.at Ha356 gi356_3 rfl
                  have gi356_4 : ¬ (((14 : Int32) + (4 : Int32)) < 0 ∨ cl356.slots.size ≤ (((14 : Int32) + (4 : Int32))).toNatClampNeg) := inb_of Sa356 ⟨by decide, by decide⟩
                  have tgi356_4 : cl356.slots[(((14 : Int32) + (4 : Int32))).toNatClampNeg]? = some (.long z87_4) := Has.at Ha356 gi356_4 rfl
                  have gi356_5 : ¬ (((14 : Int32) + (5 : Int32)) < 0 ∨ cl356.slots.size ≤ (((14 : Int32) + (5 : Int32))).toNatClampNeg) := inb_of Sa356 ⟨by decide, by decide⟩
                  have tgi356_5 : cl356.slots[(((14 : Int32) + (5 : Int32))).toNatClampNeg]? = some (.long z87_5) := Has.at Ha356 gi356_5 rfl
                  have gi356_6 : ¬ (((14 : Int32) + (6 : Int32)) < 0 ∨ cl356.slots.size ≤ (((14 : Int32) + (6 : Int32))).toNatClampNeg) := inb_of Sa356 ⟨by decide, by decide⟩
                  have tgi356_6 : cl356.slots[(((14 : Int32) + (6 : Int32))).toNatClampNeg]? = some (.long z87_6) := Has.at Ha356 gi356_6 rfl
                  have Zj_v357 := Nat.le_trans Zj_v81 K87.1
                  have Sj0_v358 := own_sta_keep Sj0 K69 all0
                  have Sj0_v359 := Sj0_v358.ext E70
                  have Sj0_v360 := own_sta_keep Sj0_v359 K79 (allS (own_plain_V V70) all0)
                  have Sj0_v361 := own_sta_keep Sj0_v360 K87 (allS (own_plain_V V79b) all0)
                  have Sj1_v362 := own_sta_keep Sj1 K69 all0
                  have Sj1_v363 := Sj1_v362.ext E70
                  have Sj1_v364 := own_sta_keep Sj1_v363 K79 (allS (own_plain_V V70) all0)
                  have Sj1_v365 := own_sta_keep Sj1_v364 K87 (allS (own_plain_V V79b) all0)
                  have Sj2_v366 := own_sta_keep Sj2 K69 all0
                  have Sj2_v367 := Sj2_v366.ext E70
                  have Sj2_v368 := own_sta_keep Sj2_v367 K79 (allS (own_plain_V V70) all0)
                  have Sj2_v369 := own_sta_keep Sj2_v368 K87 (allS (own_plain_V V79b) all0)
                  have Sj3_v370 := own_sta_keep Sj3 K69 all0
                  have Sj3_v371 := Sj3_v370.ext E70
                  have Sj3_v372 := own_sta_keep Sj3_v371 K79 (allS (own_plain_V V70) all0)
                  have Sj3_v373 := own_sta_keep Sj3_v372 K87 (allS (own_plain_V V79b) all0)
                  have Sj4_v374 := own_sta_keep Sj4 K69 all0
                  have Sj4_v375 := Sj4_v374.ext E70
                  have Sj4_v376 := own_sta_keep Sj4_v375 K79 (allS (own_plain_V V70) all0)
                  have Sj4_v377 := own_sta_keep Sj4_v376 K87 (allS (own_plain_V V79b) all0)
                  have Sj5_v378 := own_sta_keep Sj5 K69 all0
                  have Sj5_v379 := Sj5_v378.ext E70
                  have Sj5_v380 := own_sta_keep Sj5_v379 K79 (allS (own_plain_V V70) all0)
                  have Sj5_v381 := own_sta_keep Sj5_v380 K87 (allS (own_plain_V V79b) all0)
                  have Sj6_v382 := own_sta_keep Sj6 K69 all0
                  have Sj6_v383 := Sj6_v382.ext E70
                  have Sj6_v384 := own_sta_keep Sj6_v383 K79 (allS (own_plain_V V70) all0)
                  have Sj6_v385 := own_sta_keep Sj6_v384 K87 (allS (own_plain_V V79b) all0)
                  obtain ⟨_, _, ⟨T386, L386, k386, n386⟩, -, X386, ⟨Lc386, hQ386, l386, y386, z386⟩, st386⟩ := Jvm.LawKit.callS X87 hx (y := (⟨"com/example/barred_rows/barredrows/crypto/Fp", "equal", "([JI[JI)Z"⟩ : MethodName)) hown (mvT hZ (hw _ (List.mem_of_getElem? (i := 20) rfl))) (mvT hZ (hw _ (List.mem_of_getElem? (i := 21) rfl))) (mvT hZ (hw _ (List.mem_of_getElem? (i := 22) rfl))) (mvT hZ (hw _ (List.mem_of_getElem? (i := 23) rfl))) (by decide) (backOf (W := 0) (rm4 l Z a0 hw [] b70 (7 : Int32) (14 : Int32) cl356 z79_0 z79_1 z79_2 z79_3 z79_4 z79_5 z79_6 z87_0 z87_1 z87_2 z87_3 z87_4 z87_5 z87_6 T87.heap n0 Zj_v357 Ar356 hi356_0 hi356_1 hi356_2 hi356_3 hi356_4 hi356_5 hi356_6 thi356_0 thi356_1 thi356_2 thi356_3 thi356_4 thi356_5 thi356_6 gi356_0 gi356_1 gi356_2 gi356_3 gi356_4 gi356_5 gi356_6 tgi356_0 tgi356_1 tgi356_2 tgi356_3 tgi356_4 tgi356_5 tgi356_6 Sj0_v361 Sj1_v365 Sj2_v369 Sj3_v373 Sj4_v377 Sj5_v381 Sj6_v385) hZ (hw _ (List.mem_of_getElem? (i := 23) rfl)) (hw _ (List.mem_of_getElem? (i := 22) rfl)) (by decide) (by decide)) (g := (mkF m 360 (LS_JsJsJsJsJsJsJsRIIIIIRRRI q0 q1 q2 q3 q4 q5 (36028797018963967 : Int64) b1 (((q5.toUInt64 >>> ((61 : Int32) &&& 0x3f).toInt64.toUInt64).toInt64).toInt32) fA fB (1 : Int32) (3 : Int32) b22 o69 b70 (0 : Int32)) [(.int (14 : Int32)), (.ref b70), (.int (7 : Int32)), (.ref b70)])) rfl (by rw [hml]; rfl) (argsL := [(.ref b70), (.int (7 : Int32)), (.ref b70), (.int (14 : Int32))]) (rest := []) (lenOf pd___JI_JI_Z rfl) rfl (by show 2 * 0 + _ ≤ _; exact Nat.le_of_eq rfl) (hb hby at_360) (fun _ _ => ⟨rfl, rfl, (by decide : 4 + 2 ≤ _), (by decide : 42 + 14 ≤ _)⟩)
                  dsimp only [Pt.U, Pt.locs, Pt.cells, Pt.slots] at X386 l386 y386 z386 st386 hQ386
                  subst l386 y386 z386
                  obtain ⟨rfl, N386q⟩ := hQ386
                  have N386 := Fr.app N87 N386q
                  refine own_go (B := T386.setTop (mkF m 363 (LS_JsJsJsJsJsJsJsRIIIIIRRRI q0 q1 q2 q3 q4 q5 (36028797018963967 : Int64) b1 (((q5.toUInt64 >>> ((61 : Int32) &&& 0x3f).toInt64.toUInt64).toInt64).toInt32) fA fB (1 : Int32) (3 : Int32) b22 o69 b70 (0 : Int32)) [(.int (if ((((((((own_c0 z79_0 z79_1 z79_2 z79_3 z79_4 z79_5 z79_6) ^^^ (own_c0 z87_0 z87_1 z87_2 z87_3 z87_4 z87_5 z87_6)) ||| ((own_c1 z79_0 z79_1 z79_2 z79_3 z79_4 z79_5 z79_6) ^^^ (own_c1 z87_0 z87_1 z87_2 z87_3 z87_4 z87_5 z87_6))) ||| ((own_c2 z79_0 z79_1 z79_2 z79_3 z79_4 z79_5 z79_6) ^^^ (own_c2 z87_0 z87_1 z87_2 z87_3 z87_4 z87_5 z87_6))) ||| ((own_c3 z79_0 z79_1 z79_2 z79_3 z79_4 z79_5 z79_6) ^^^ (own_c3 z87_0 z87_1 z87_2 z87_3 z87_4 z87_5 z87_6))) ||| ((own_c4 z79_0 z79_1 z79_2 z79_3 z79_4 z79_5 z79_6) ^^^ (own_c4 z87_0 z87_1 z87_2 z87_3 z87_4 z87_5 z87_6))) ||| ((own_c5 z79_0 z79_1 z79_2 z79_3 z79_4 z79_5 z79_6) ^^^ (own_c5 z87_0 z87_1 z87_2 z87_3 z87_4 z87_5 z87_6))) ||| ((own_c6 z79_0 z79_1 z79_2 z79_3 z79_4 z79_5 z79_6) ^^^ (own_c6 z87_0 z87_1 z87_2 z87_3 z87_4 z87_5 z87_6))) = (0 : Int64) then (1 : Int32) else (0 : Int32)))])) (fun t k => st386 _ k) ?_
                  rw [c79_0, c79_1, c79_2, c79_3, c79_4, c79_5, c79_6, c87_0, c87_1, c87_2, c87_3, c87_4, c87_5, c87_6]
                  refine own_go (B := T386.setTop (mkF m 373 (LS_JsJsJsJsJsJsJsRIIIIIRRRI q0 q1 q2 q3 q4 q5 (36028797018963967 : Int64) b1 (((q5.toUInt64 >>> ((61 : Int32) &&& 0x3f).toInt64.toUInt64).toInt64).toInt32) fA fB (1 : Int32) (3 : Int32) b22 o69 b70 (0 : Int32)) [(.int (1 : Int32))])) (fun t k => ?_) ?_
                  · refine XS.iload X386.here hx rfl (hb hby at_363) rfl ?_
                    refine XS.icmpNo X386.here hx rfl (hb hby at_365) rfl (teq (if_neg fun q => hc342_324 ((own_eq3 bx0 bx1 bx2 bx3 bx4 bx5 bx6).mp q))).2 ?_
                    show Steps p.tables e below (T386.setTop (mkF m 368 (LS_JsJsJsJsJsJsJsRIIIIIRRRI q0 q1 q2 q3 q4 q5 (36028797018963967 : Int64) b1 (((q5.toUInt64 >>> ((61 : Int32) &&& 0x3f).toInt64.toUInt64).toInt64).toInt32) fA fB (1 : Int32) (3 : Int32) b22 o69 b70 (0 : Int32)) [])) _
                    refine XS.iconst X386.here hx rfl (hb hby at_368) ?_
                    refine XS.goto X386.here hx rfl (pc0 := 369) (pc' := 373) rfl (hb hby at_369) (by decide) (by decide) ?_
                    exact k
                  obtain ⟨fs, hr, hrun, hended, hW, hsame⟩ := X386.leave (v := some (.int (1 : Int32))) (fun h => by rw [Bd.returns] at h; cases h)
                  refine ⟨_, _, ?_, hrun, hended, _, _, rfl, ?_, ⟨_, rfl⟩, hW, hsame.mono (by decide) (by decide)⟩
                  · show Steps p.tables e below (T386.setTop (mkF m 373 (LS_JsJsJsJsJsJsJsRIIIIIRRRI q0 q1 q2 q3 q4 q5 (36028797018963967 : Int64) b1 (((q5.toUInt64 >>> ((61 : Int32) &&& 0x3f).toInt64.toUInt64).toInt64).toInt32) fA fB (1 : Int32) (3 : Int32) b22 o69 b70 (0 : Int32)) [(.int (1 : Int32))])) _
                    exact retN X386 hx (t := .boolean) Bd.returns (by simp) (hb hby at_373) hr
                  · show Q0 Z q0 q1 q2 q3 q4 q5 h0 n0 _ T386.heap _
                    exact ⟨rfl, N386⟩
              · refine own_go (B := T87.setTop (mkF m 330 (LS_JsJsJsJsJsJsJsRIIIIIRRRu q0 q1 q2 q3 q4 q5 (36028797018963967 : Int64) b1 (((q5.toUInt64 >>> ((61 : Int32) &&& 0x3f).toInt64.toUInt64).toInt64).toInt32) fA fB (1 : Int32) (4 : Int32) b22 o69 b70) [])) (fun t k => by rw [hkf]; exact k) ?_
                have Vxj_v388 := Vxj_v75.keep K79 (ninS ne77 nin0)
                have Vxj_v389 := Vxj_v388.keep K87 (ninS ne77 nin0)
                obtain ⟨cl387, Ar387, qa387, Sa387, Na387, Ha387, Ga387⟩ := id Vxj_v389
                have hin390 : ¬ ((4 : Int32) < 0 ∨ cl387.slots.size ≤ ((4 : Int32)).toNatClampNeg) := inb_of Sa387 ⟨by decide, by decide⟩
                have hat390 : cl387.slots[((4 : Int32)).toNatClampNeg]? = some (.long x4) := Has.at Ha387 hin390 rfl
                refine own_go (B := T87.setTop (mkF m 342 (LS_JsJsJsJsJsJsJsRIIIIIRRRu q0 q1 q2 q3 q4 q5 (36028797018963967 : Int64) b1 (((q5.toUInt64 >>> ((61 : Int32) &&& 0x3f).toInt64.toUInt64).toInt64).toInt32) fA fB (1 : Int32) (4 : Int32) b22 o69 b70) [(.int (lcmpW x4 (0 : Int64)))])) (fun t k => ?_) ?_
                · refine XS.iload X87.here hx rfl (hb hby at_330) rfl ?_
                  refine XS.ifNo X87.here hx rfl (hb hby at_332) rfl ((if0 _ _).trans (feq (by decide : ¬ ((1 : Int32) = (0 : Int32)))).1) ?_
                  show Steps p.tables e below (T87.setTop (mkF m 335 (LS_JsJsJsJsJsJsJsRIIIIIRRRu q0 q1 q2 q3 q4 q5 (36028797018963967 : Int64) b1 (((q5.toUInt64 >>> ((61 : Int32) &&& 0x3f).toInt64.toUInt64).toInt64).toInt32) fA fB (1 : Int32) (4 : Int32) b22 o69 b70) [])) _
                  refine XS.aload X87.here hx rfl (hb hby at_335) rfl rfl ?_
                  refine XS.iload X87.here hx rfl (hb hby at_337) rfl ?_
                  refine X87.laload hx (j := (4 : Int32)) (v := (.long x4)) Ar387.1 (State.isArrayOf_alike hZ.alike Ar387.2.1) Ar387.2.2 hin390 hat390 (g := (mkF m 339 (LS_JsJsJsJsJsJsJsRIIIIIRRRu q0 q1 q2 q3 q4 q5 (36028797018963967 : Int64) b1 (((q5.toUInt64 >>> ((61 : Int32) &&& 0x3f).toInt64.toUInt64).toInt64).toInt32) fA fB (1 : Int32) (4 : Int32) b22 o69 b70) [(.int (4 : Int32)), (.ref b1)])) rfl rfl (hb hby at_339) _ ?_
                  show Steps p.tables e below (T87.setTop (mkF m 340 (LS_JsJsJsJsJsJsJsRIIIIIRRRu q0 q1 q2 q3 q4 q5 (36028797018963967 : Int64) b1 (((q5.toUInt64 >>> ((61 : Int32) &&& 0x3f).toInt64.toUInt64).toInt64).toInt32) fA fB (1 : Int32) (4 : Int32) b22 o69 b70) [(.long x4)])) _
                  refine XS.lconst X87.here hx rfl (hb hby at_340) ?_
                  refine XS.lcmp X87.here hx rfl (hb hby at_341) rfl ?_
                  exact k
                by_cases hc342_391 : x4 = (0 : Int64)
                · refine own_go (B := T87.setTop (mkF m 360 (LS_JsJsJsJsJsJsJsRIIIIIRRRI q0 q1 q2 q3 q4 q5 (36028797018963967 : Int64) b1 (((q5.toUInt64 >>> ((61 : Int32) &&& 0x3f).toInt64.toUInt64).toInt64).toInt32) fA fB (1 : Int32) (4 : Int32) b22 o69 b70 (1 : Int32)) [(.int (14 : Int32)), (.ref b70), (.int (7 : Int32)), (.ref b70)])) (fun t k => ?_) ?_
                  · refine XS.ifNo X87.here hx rfl (hb hby at_342) rfl ((if0 _ _).trans (teq ((lw_eq x4 (0 : Int64)).mpr hc342_391)).2) ?_
                    refine XS.iconst X87.here hx rfl (hb hby at_345) ?_
                    show Steps p.tables e below (T87.setTop (mkF m 346 (LS_JsJsJsJsJsJsJsRIIIIIRRRu q0 q1 q2 q3 q4 q5 (36028797018963967 : Int64) b1 (((q5.toUInt64 >>> ((61 : Int32) &&& 0x3f).toInt64.toUInt64).toInt64).toInt32) fA fB (1 : Int32) (4 : Int32) b22 o69 b70) [(.int (1 : Int32))])) _
                    refine XS.goto X87.here hx rfl (pc0 := 346) (pc' := 350) rfl (hb hby at_346) (by decide) (by decide) ?_
                    refine XS.istore X87.here hx rfl (hb hby at_350) rfl (l' := (LS_JsJsJsJsJsJsJsRIIIIIRRRI q0 q1 q2 q3 q4 q5 (36028797018963967 : Int64) b1 (((q5.toUInt64 >>> ((61 : Int32) &&& 0x3f).toInt64.toUInt64).toInt64).toInt32) fA fB (1 : Int32) (4 : Int32) b22 o69 b70 (1 : Int32))) rfl ?_
                    refine XS.aload X87.here hx rfl (hb hby at_352) rfl rfl ?_
                    show Steps p.tables e below (T87.setTop (mkF m 354 (LS_JsJsJsJsJsJsJsRIIIIIRRRI q0 q1 q2 q3 q4 q5 (36028797018963967 : Int64) b1 (((q5.toUInt64 >>> ((61 : Int32) &&& 0x3f).toInt64.toUInt64).toInt64).toInt32) fA fB (1 : Int32) (4 : Int32) b22 o69 b70 (1 : Int32)) [(.ref b70)])) _
                    refine XS.bipush X87.here hx rfl (hb hby at_354) ?_
                    refine XS.aload X87.here hx rfl (hb hby at_356) rfl rfl ?_
                    refine XS.bipush X87.here hx rfl (hb hby at_358) ?_
                    exact k
                  obtain ⟨cl392, Ar392, qa392, Sa392, Na392, Ha392, Ga392⟩ := id V87b
                  have hi392_0 : ¬ ((7 : Int32) < 0 ∨ cl392.slots.size ≤ ((7 : Int32)).toNatClampNeg) := inb_of Sa392 ⟨by decide, by decide⟩
                  have thi392_0 : cl392.slots[((7 : Int32)).toNatClampNeg]? = some (.long z79_0) := Has.at Ha392 hi392_0 rfl
                  have hi392_1 : ¬ (((7 : Int32) + (1 : Int32)) < 0 ∨ cl392.slots.size ≤ (((7 : Int32) + (1 : Int32))).toNatClampNeg) := inb_of Sa392 ⟨by decide, by decide⟩
                  have thi392_1 : cl392.slots[(((7 : Int32) + (1 : Int32))).toNatClampNeg]? = some (.long z79_1) := Has.at Ha392 hi392_1 rfl
                  have hi392_2 : ¬ (((7 : Int32) + (2 : Int32)) < 0 ∨ cl392.slots.size ≤ (((7 : Int32) + (2 : Int32))).toNatClampNeg) := inb_of Sa392 ⟨by decide, by decide⟩
                  have thi392_2 : cl392.slots[(((7 : Int32) + (2 : Int32))).toNatClampNeg]? = some (.long z79_2) := Has.at Ha392 hi392_2 rfl
                  have hi392_3 : ¬ (((7 : Int32) + (3 : Int32)) < 0 ∨ cl392.slots.size ≤ (((7 : Int32) + (3 : Int32))).toNatClampNeg) := inb_of Sa392 ⟨by decide, by decide⟩
                  have thi392_3 : cl392.slots[(((7 : Int32) + (3 : Int32))).toNatClampNeg]? = some (.long z79_3) := Has.at Ha392 hi392_3 rfl
                  have hi392_4 : ¬ (((7 : Int32) + (4 : Int32)) < 0 ∨ cl392.slots.size ≤ (((7 : Int32) + (4 : Int32))).toNatClampNeg) := inb_of Sa392 ⟨by decide, by decide⟩
                  have thi392_4 : cl392.slots[(((7 : Int32) + (4 : Int32))).toNatClampNeg]? = some (.long z79_4) := Has.at Ha392 hi392_4 rfl
                  have hi392_5 : ¬ (((7 : Int32) + (5 : Int32)) < 0 ∨ cl392.slots.size ≤ (((7 : Int32) + (5 : Int32))).toNatClampNeg) := inb_of Sa392 ⟨by decide, by decide⟩
                  have thi392_5 : cl392.slots[(((7 : Int32) + (5 : Int32))).toNatClampNeg]? = some (.long z79_5) := Has.at Ha392 hi392_5 rfl
                  have hi392_6 : ¬ (((7 : Int32) + (6 : Int32)) < 0 ∨ cl392.slots.size ≤ (((7 : Int32) + (6 : Int32))).toNatClampNeg) := inb_of Sa392 ⟨by decide, by decide⟩
                  have thi392_6 : cl392.slots[(((7 : Int32) + (6 : Int32))).toNatClampNeg]? = some (.long z79_6) := Has.at Ha392 hi392_6 rfl
                  have gi392_0 : ¬ ((14 : Int32) < 0 ∨ cl392.slots.size ≤ ((14 : Int32)).toNatClampNeg) := inb_of Sa392 ⟨by decide, by decide⟩
                  have tgi392_0 : cl392.slots[((14 : Int32)).toNatClampNeg]? = some (.long z87_0) := Has.at Ha392 gi392_0 rfl
                  have gi392_1 : ¬ (((14 : Int32) + (1 : Int32)) < 0 ∨ cl392.slots.size ≤ (((14 : Int32) + (1 : Int32))).toNatClampNeg) := inb_of Sa392 ⟨by decide, by decide⟩
                  have tgi392_1 : cl392.slots[(((14 : Int32) + (1 : Int32))).toNatClampNeg]? = some (.long z87_1) := Has.at Ha392 gi392_1 rfl
                  have gi392_2 : ¬ (((14 : Int32) + (2 : Int32)) < 0 ∨ cl392.slots.size ≤ (((14 : Int32) + (2 : Int32))).toNatClampNeg) := inb_of Sa392 ⟨by decide, by decide⟩
                  have tgi392_2 : cl392.slots[(((14 : Int32) + (2 : Int32))).toNatClampNeg]? = some (.long z87_2) := Has.at Ha392 gi392_2 rfl
                  have gi392_3 : ¬ (((14 : Int32) + (3 : Int32)) < 0 ∨ cl392.slots.size ≤ (((14 : Int32) + (3 : Int32))).toNatClampNeg) := inb_of Sa392 ⟨by decide, by decide⟩
                  have tgi392_3 : cl392.slots[(((14 : Int32) + (3 : Int32))).toNatClampNeg]? = some (.long z87_3) := Has.at Ha392 gi392_3 rfl
                  have gi392_4 : ¬ (((14 : Int32) + (4 : Int32)) < 0 ∨ cl392.slots.size ≤ (((14 : Int32) + (4 : Int32))).toNatClampNeg) := inb_of Sa392 ⟨by decide, by decide⟩
                  have tgi392_4 : cl392.slots[(((14 : Int32) + (4 : Int32))).toNatClampNeg]? = some (.long z87_4) := Has.at Ha392 gi392_4 rfl
                  have gi392_5 : ¬ (((14 : Int32) + (5 : Int32)) < 0 ∨ cl392.slots.size ≤ (((14 : Int32) + (5 : Int32))).toNatClampNeg) := inb_of Sa392 ⟨by decide, by decide⟩
                  have tgi392_5 : cl392.slots[(((14 : Int32) + (5 : Int32))).toNatClampNeg]? = some (.long z87_5) := Has.at Ha392 gi392_5 rfl
                  have gi392_6 : ¬ (((14 : Int32) + (6 : Int32)) < 0 ∨ cl392.slots.size ≤ (((14 : Int32) + (6 : Int32))).toNatClampNeg) := inb_of Sa392 ⟨by decide, by decide⟩
                  have tgi392_6 : cl392.slots[(((14 : Int32) + (6 : Int32))).toNatClampNeg]? = some (.long z87_6) := Has.at Ha392 gi392_6 rfl
                  have Zj_v393 := Nat.le_trans Zj_v81 K87.1
                  have Sj0_v394 := own_sta_keep Sj0 K69 all0
                  have Sj0_v395 := Sj0_v394.ext E70
                  have Sj0_v396 := own_sta_keep Sj0_v395 K79 (allS (own_plain_V V70) all0)
                  have Sj0_v397 := own_sta_keep Sj0_v396 K87 (allS (own_plain_V V79b) all0)
                  have Sj1_v398 := own_sta_keep Sj1 K69 all0
                  have Sj1_v399 := Sj1_v398.ext E70
                  have Sj1_v400 := own_sta_keep Sj1_v399 K79 (allS (own_plain_V V70) all0)
                  have Sj1_v401 := own_sta_keep Sj1_v400 K87 (allS (own_plain_V V79b) all0)
                  have Sj2_v402 := own_sta_keep Sj2 K69 all0
                  have Sj2_v403 := Sj2_v402.ext E70
                  have Sj2_v404 := own_sta_keep Sj2_v403 K79 (allS (own_plain_V V70) all0)
                  have Sj2_v405 := own_sta_keep Sj2_v404 K87 (allS (own_plain_V V79b) all0)
                  have Sj3_v406 := own_sta_keep Sj3 K69 all0
                  have Sj3_v407 := Sj3_v406.ext E70
                  have Sj3_v408 := own_sta_keep Sj3_v407 K79 (allS (own_plain_V V70) all0)
                  have Sj3_v409 := own_sta_keep Sj3_v408 K87 (allS (own_plain_V V79b) all0)
                  have Sj4_v410 := own_sta_keep Sj4 K69 all0
                  have Sj4_v411 := Sj4_v410.ext E70
                  have Sj4_v412 := own_sta_keep Sj4_v411 K79 (allS (own_plain_V V70) all0)
                  have Sj4_v413 := own_sta_keep Sj4_v412 K87 (allS (own_plain_V V79b) all0)
                  have Sj5_v414 := own_sta_keep Sj5 K69 all0
                  have Sj5_v415 := Sj5_v414.ext E70
                  have Sj5_v416 := own_sta_keep Sj5_v415 K79 (allS (own_plain_V V70) all0)
                  have Sj5_v417 := own_sta_keep Sj5_v416 K87 (allS (own_plain_V V79b) all0)
                  have Sj6_v418 := own_sta_keep Sj6 K69 all0
                  have Sj6_v419 := Sj6_v418.ext E70
                  have Sj6_v420 := own_sta_keep Sj6_v419 K79 (allS (own_plain_V V70) all0)
                  have Sj6_v421 := own_sta_keep Sj6_v420 K87 (allS (own_plain_V V79b) all0)
                  obtain ⟨_, _, ⟨T422, L422, k422, n422⟩, -, X422, ⟨Lc422, hQ422, l422, y422, z422⟩, st422⟩ := Jvm.LawKit.callS X87 hx (y := (⟨"com/example/barred_rows/barredrows/crypto/Fp", "equal", "([JI[JI)Z"⟩ : MethodName)) hown (mvT hZ (hw _ (List.mem_of_getElem? (i := 20) rfl))) (mvT hZ (hw _ (List.mem_of_getElem? (i := 21) rfl))) (mvT hZ (hw _ (List.mem_of_getElem? (i := 22) rfl))) (mvT hZ (hw _ (List.mem_of_getElem? (i := 23) rfl))) (by decide) (backOf (W := 0) (rm4 l Z a0 hw [] b70 (7 : Int32) (14 : Int32) cl392 z79_0 z79_1 z79_2 z79_3 z79_4 z79_5 z79_6 z87_0 z87_1 z87_2 z87_3 z87_4 z87_5 z87_6 T87.heap n0 Zj_v393 Ar392 hi392_0 hi392_1 hi392_2 hi392_3 hi392_4 hi392_5 hi392_6 thi392_0 thi392_1 thi392_2 thi392_3 thi392_4 thi392_5 thi392_6 gi392_0 gi392_1 gi392_2 gi392_3 gi392_4 gi392_5 gi392_6 tgi392_0 tgi392_1 tgi392_2 tgi392_3 tgi392_4 tgi392_5 tgi392_6 Sj0_v397 Sj1_v401 Sj2_v405 Sj3_v409 Sj4_v413 Sj5_v417 Sj6_v421) hZ (hw _ (List.mem_of_getElem? (i := 23) rfl)) (hw _ (List.mem_of_getElem? (i := 22) rfl)) (by decide) (by decide)) (g := (mkF m 360 (LS_JsJsJsJsJsJsJsRIIIIIRRRI q0 q1 q2 q3 q4 q5 (36028797018963967 : Int64) b1 (((q5.toUInt64 >>> ((61 : Int32) &&& 0x3f).toInt64.toUInt64).toInt64).toInt32) fA fB (1 : Int32) (4 : Int32) b22 o69 b70 (1 : Int32)) [(.int (14 : Int32)), (.ref b70), (.int (7 : Int32)), (.ref b70)])) rfl (by rw [hml]; rfl) (argsL := [(.ref b70), (.int (7 : Int32)), (.ref b70), (.int (14 : Int32))]) (rest := []) (lenOf pd___JI_JI_Z rfl) rfl (by show 2 * 0 + _ ≤ _; exact Nat.le_of_eq rfl) (hb hby at_360) (fun _ _ => ⟨rfl, rfl, (by decide : 4 + 2 ≤ _), (by decide : 42 + 14 ≤ _)⟩)
                  dsimp only [Pt.U, Pt.locs, Pt.cells, Pt.slots] at X422 l422 y422 z422 st422 hQ422
                  subst l422 y422 z422
                  obtain ⟨rfl, N422q⟩ := hQ422
                  have N422 := Fr.app N87 N422q
                  refine own_go (B := T422.setTop (mkF m 363 (LS_JsJsJsJsJsJsJsRIIIIIRRRI q0 q1 q2 q3 q4 q5 (36028797018963967 : Int64) b1 (((q5.toUInt64 >>> ((61 : Int32) &&& 0x3f).toInt64.toUInt64).toInt64).toInt32) fA fB (1 : Int32) (4 : Int32) b22 o69 b70 (1 : Int32)) [(.int (if ((((((((own_c0 z79_0 z79_1 z79_2 z79_3 z79_4 z79_5 z79_6) ^^^ (own_c0 z87_0 z87_1 z87_2 z87_3 z87_4 z87_5 z87_6)) ||| ((own_c1 z79_0 z79_1 z79_2 z79_3 z79_4 z79_5 z79_6) ^^^ (own_c1 z87_0 z87_1 z87_2 z87_3 z87_4 z87_5 z87_6))) ||| ((own_c2 z79_0 z79_1 z79_2 z79_3 z79_4 z79_5 z79_6) ^^^ (own_c2 z87_0 z87_1 z87_2 z87_3 z87_4 z87_5 z87_6))) ||| ((own_c3 z79_0 z79_1 z79_2 z79_3 z79_4 z79_5 z79_6) ^^^ (own_c3 z87_0 z87_1 z87_2 z87_3 z87_4 z87_5 z87_6))) ||| ((own_c4 z79_0 z79_1 z79_2 z79_3 z79_4 z79_5 z79_6) ^^^ (own_c4 z87_0 z87_1 z87_2 z87_3 z87_4 z87_5 z87_6))) ||| ((own_c5 z79_0 z79_1 z79_2 z79_3 z79_4 z79_5 z79_6) ^^^ (own_c5 z87_0 z87_1 z87_2 z87_3 z87_4 z87_5 z87_6))) ||| ((own_c6 z79_0 z79_1 z79_2 z79_3 z79_4 z79_5 z79_6) ^^^ (own_c6 z87_0 z87_1 z87_2 z87_3 z87_4 z87_5 z87_6))) = (0 : Int64) then (1 : Int32) else (0 : Int32)))])) (fun t k => st422 _ k) ?_
                  rw [c79_0, c79_1, c79_2, c79_3, c79_4, c79_5, c79_6, c87_0, c87_1, c87_2, c87_3, c87_4, c87_5, c87_6]
                  refine own_go (B := T422.setTop (mkF m 373 (LS_JsJsJsJsJsJsJsRIIIIIRRRI q0 q1 q2 q3 q4 q5 (36028797018963967 : Int64) b1 (((q5.toUInt64 >>> ((61 : Int32) &&& 0x3f).toInt64.toUInt64).toInt64).toInt32) fA fB (1 : Int32) (4 : Int32) b22 o69 b70 (1 : Int32)) [(.int (1 : Int32))])) (fun t k => ?_) ?_
                  · refine XS.iload X422.here hx rfl (hb hby at_363) rfl ?_
                    refine XS.icmpNo X422.here hx rfl (hb hby at_365) rfl (teq (if_pos ((own_eq4 bx0 bx1 bx2 bx3 bx4 bx5 bx6).mpr hc342_391))).2 ?_
                    show Steps p.tables e below (T422.setTop (mkF m 368 (LS_JsJsJsJsJsJsJsRIIIIIRRRI q0 q1 q2 q3 q4 q5 (36028797018963967 : Int64) b1 (((q5.toUInt64 >>> ((61 : Int32) &&& 0x3f).toInt64.toUInt64).toInt64).toInt32) fA fB (1 : Int32) (4 : Int32) b22 o69 b70 (1 : Int32)) [])) _
                    refine XS.iconst X422.here hx rfl (hb hby at_368) ?_
                    refine XS.goto X422.here hx rfl (pc0 := 369) (pc' := 373) rfl (hb hby at_369) (by decide) (by decide) ?_
                    exact k
                  obtain ⟨fs, hr, hrun, hended, hW, hsame⟩ := X422.leave (v := some (.int (1 : Int32))) (fun h => by rw [Bd.returns] at h; cases h)
                  refine ⟨_, _, ?_, hrun, hended, _, _, rfl, ?_, ⟨_, rfl⟩, hW, hsame.mono (by decide) (by decide)⟩
                  · show Steps p.tables e below (T422.setTop (mkF m 373 (LS_JsJsJsJsJsJsJsRIIIIIRRRI q0 q1 q2 q3 q4 q5 (36028797018963967 : Int64) b1 (((q5.toUInt64 >>> ((61 : Int32) &&& 0x3f).toInt64.toUInt64).toInt64).toInt32) fA fB (1 : Int32) (4 : Int32) b22 o69 b70 (1 : Int32)) [(.int (1 : Int32))])) _
                    exact retN X422 hx (t := .boolean) Bd.returns (by simp) (hb hby at_373) hr
                  · show Q0 Z q0 q1 q2 q3 q4 q5 h0 n0 _ T422.heap _
                    exact ⟨rfl, N422⟩
                · refine own_go (B := T87.setTop (mkF m 360 (LS_JsJsJsJsJsJsJsRIIIIIRRRI q0 q1 q2 q3 q4 q5 (36028797018963967 : Int64) b1 (((q5.toUInt64 >>> ((61 : Int32) &&& 0x3f).toInt64.toUInt64).toInt64).toInt32) fA fB (1 : Int32) (4 : Int32) b22 o69 b70 (0 : Int32)) [(.int (14 : Int32)), (.ref b70), (.int (7 : Int32)), (.ref b70)])) (fun t k => ?_) ?_
                  · refine XS.ifYes X87.here hx rfl (pc0 := 342) (pc' := 349) rfl (hb hby at_342) rfl ((if0 _ _).trans (feq (fun q => hc342_391 ((lw_eq x4 (0 : Int64)).mp q))).2) (by decide) (by decide) ?_
                    refine XS.iconst X87.here hx rfl (hb hby at_349) ?_
                    show Steps p.tables e below (T87.setTop (mkF m 350 (LS_JsJsJsJsJsJsJsRIIIIIRRRu q0 q1 q2 q3 q4 q5 (36028797018963967 : Int64) b1 (((q5.toUInt64 >>> ((61 : Int32) &&& 0x3f).toInt64.toUInt64).toInt64).toInt32) fA fB (1 : Int32) (4 : Int32) b22 o69 b70) [(.int (0 : Int32))])) _
                    refine XS.istore X87.here hx rfl (hb hby at_350) rfl (l' := (LS_JsJsJsJsJsJsJsRIIIIIRRRI q0 q1 q2 q3 q4 q5 (36028797018963967 : Int64) b1 (((q5.toUInt64 >>> ((61 : Int32) &&& 0x3f).toInt64.toUInt64).toInt64).toInt32) fA fB (1 : Int32) (4 : Int32) b22 o69 b70 (0 : Int32))) rfl ?_
                    refine XS.aload X87.here hx rfl (hb hby at_352) rfl rfl ?_
                    refine XS.bipush X87.here hx rfl (hb hby at_354) ?_
                    show Steps p.tables e below (T87.setTop (mkF m 356 (LS_JsJsJsJsJsJsJsRIIIIIRRRI q0 q1 q2 q3 q4 q5 (36028797018963967 : Int64) b1 (((q5.toUInt64 >>> ((61 : Int32) &&& 0x3f).toInt64.toUInt64).toInt64).toInt32) fA fB (1 : Int32) (4 : Int32) b22 o69 b70 (0 : Int32)) [(.int (7 : Int32)), (.ref b70)])) _
                    refine XS.aload X87.here hx rfl (hb hby at_356) rfl rfl ?_
                    refine XS.bipush X87.here hx rfl (hb hby at_358) ?_
                    exact k
                  obtain ⟨cl423, Ar423, qa423, Sa423, Na423, Ha423, Ga423⟩ := id V87b
                  have hi423_0 : ¬ ((7 : Int32) < 0 ∨ cl423.slots.size ≤ ((7 : Int32)).toNatClampNeg) := inb_of Sa423 ⟨by decide, by decide⟩
                  have thi423_0 : cl423.slots[((7 : Int32)).toNatClampNeg]? = some (.long z79_0) := Has.at Ha423 hi423_0 rfl
                  have hi423_1 : ¬ (((7 : Int32) + (1 : Int32)) < 0 ∨ cl423.slots.size ≤ (((7 : Int32) + (1 : Int32))).toNatClampNeg) := inb_of Sa423 ⟨by decide, by decide⟩
                  have thi423_1 : cl423.slots[(((7 : Int32) + (1 : Int32))).toNatClampNeg]? = some (.long z79_1) := Has.at Ha423 hi423_1 rfl
                  have hi423_2 : ¬ (((7 : Int32) + (2 : Int32)) < 0 ∨ cl423.slots.size ≤ (((7 : Int32) + (2 : Int32))).toNatClampNeg) := inb_of Sa423 ⟨by decide, by decide⟩
                  have thi423_2 : cl423.slots[(((7 : Int32) + (2 : Int32))).toNatClampNeg]? = some (.long z79_2) := Has.at Ha423 hi423_2 rfl
                  have hi423_3 : ¬ (((7 : Int32) + (3 : Int32)) < 0 ∨ cl423.slots.size ≤ (((7 : Int32) + (3 : Int32))).toNatClampNeg) := inb_of Sa423 ⟨by decide, by decide⟩
                  have thi423_3 : cl423.slots[(((7 : Int32) + (3 : Int32))).toNatClampNeg]? = some (.long z79_3) := Has.at Ha423 hi423_3 rfl
                  have hi423_4 : ¬ (((7 : Int32) + (4 : Int32)) < 0 ∨ cl423.slots.size ≤ (((7 : Int32) + (4 : Int32))).toNatClampNeg) := inb_of Sa423 ⟨by decide, by decide⟩
                  have thi423_4 : cl423.slots[(((7 : Int32) + (4 : Int32))).toNatClampNeg]? = some (.long z79_4) := Has.at Ha423 hi423_4 rfl
                  have hi423_5 : ¬ (((7 : Int32) + (5 : Int32)) < 0 ∨ cl423.slots.size ≤ (((7 : Int32) + (5 : Int32))).toNatClampNeg) := inb_of Sa423 ⟨by decide, by decide⟩
                  have thi423_5 : cl423.slots[(((7 : Int32) + (5 : Int32))).toNatClampNeg]? = some (.long z79_5) := Has.at Ha423 hi423_5 rfl
                  have hi423_6 : ¬ (((7 : Int32) + (6 : Int32)) < 0 ∨ cl423.slots.size ≤ (((7 : Int32) + (6 : Int32))).toNatClampNeg) := inb_of Sa423 ⟨by decide, by decide⟩
                  have thi423_6 : cl423.slots[(((7 : Int32) + (6 : Int32))).toNatClampNeg]? = some (.long z79_6) := Has.at Ha423 hi423_6 rfl
                  have gi423_0 : ¬ ((14 : Int32) < 0 ∨ cl423.slots.size ≤ ((14 : Int32)).toNatClampNeg) := inb_of Sa423 ⟨by decide, by decide⟩
                  have tgi423_0 : cl423.slots[((14 : Int32)).toNatClampNeg]? = some (.long z87_0) := Has.at Ha423 gi423_0 rfl
                  have gi423_1 : ¬ (((14 : Int32) + (1 : Int32)) < 0 ∨ cl423.slots.size ≤ (((14 : Int32) + (1 : Int32))).toNatClampNeg) := inb_of Sa423 ⟨by decide, by decide⟩
                  have tgi423_1 : cl423.slots[(((14 : Int32) + (1 : Int32))).toNatClampNeg]? = some (.long z87_1) := Has.at Ha423 gi423_1 rfl
                  have gi423_2 : ¬ (((14 : Int32) + (2 : Int32)) < 0 ∨ cl423.slots.size ≤ (((14 : Int32) + (2 : Int32))).toNatClampNeg) := inb_of Sa423 ⟨by decide, by decide⟩
                  have tgi423_2 : cl423.slots[(((14 : Int32) + (2 : Int32))).toNatClampNeg]? = some (.long z87_2) := Has.at Ha423 gi423_2 rfl
                  have gi423_3 : ¬ (((14 : Int32) + (3 : Int32)) < 0 ∨ cl423.slots.size ≤ (((14 : Int32) + (3 : Int32))).toNatClampNeg) := inb_of Sa423 ⟨by decide, by decide⟩
                  have tgi423_3 : cl423.slots[(((14 : Int32) + (3 : Int32))).toNatClampNeg]? = some (.long z87_3) := Has.at Ha423 gi423_3 rfl
                  have gi423_4 : ¬ (((14 : Int32) + (4 : Int32)) < 0 ∨ cl423.slots.size ≤ (((14 : Int32) + (4 : Int32))).toNatClampNeg) := inb_of Sa423 ⟨by decide, by decide⟩
                  have tgi423_4 : cl423.slots[(((14 : Int32) + (4 : Int32))).toNatClampNeg]? = some (.long z87_4) := Has.at Ha423 gi423_4 rfl
                  have gi423_5 : ¬ (((14 : Int32) + (5 : Int32)) < 0 ∨ cl423.slots.size ≤ (((14 : Int32) + (5 : Int32))).toNatClampNeg) := inb_of Sa423 ⟨by decide, by decide⟩
                  have tgi423_5 : cl423.slots[(((14 : Int32) + (5 : Int32))).toNatClampNeg]? = some (.long z87_5) := Has.at Ha423 gi423_5 rfl
                  have gi423_6 : ¬ (((14 : Int32) + (6 : Int32)) < 0 ∨ cl423.slots.size ≤ (((14 : Int32) + (6 : Int32))).toNatClampNeg) := inb_of Sa423 ⟨by decide, by decide⟩
                  have tgi423_6 : cl423.slots[(((14 : Int32) + (6 : Int32))).toNatClampNeg]? = some (.long z87_6) := Has.at Ha423 gi423_6 rfl
                  have Zj_v424 := Nat.le_trans Zj_v81 K87.1
                  have Sj0_v425 := own_sta_keep Sj0 K69 all0
                  have Sj0_v426 := Sj0_v425.ext E70
                  have Sj0_v427 := own_sta_keep Sj0_v426 K79 (allS (own_plain_V V70) all0)
                  have Sj0_v428 := own_sta_keep Sj0_v427 K87 (allS (own_plain_V V79b) all0)
                  have Sj1_v429 := own_sta_keep Sj1 K69 all0
                  have Sj1_v430 := Sj1_v429.ext E70
                  have Sj1_v431 := own_sta_keep Sj1_v430 K79 (allS (own_plain_V V70) all0)
                  have Sj1_v432 := own_sta_keep Sj1_v431 K87 (allS (own_plain_V V79b) all0)
                  have Sj2_v433 := own_sta_keep Sj2 K69 all0
                  have Sj2_v434 := Sj2_v433.ext E70
                  have Sj2_v435 := own_sta_keep Sj2_v434 K79 (allS (own_plain_V V70) all0)
                  have Sj2_v436 := own_sta_keep Sj2_v435 K87 (allS (own_plain_V V79b) all0)
                  have Sj3_v437 := own_sta_keep Sj3 K69 all0
                  have Sj3_v438 := Sj3_v437.ext E70
                  have Sj3_v439 := own_sta_keep Sj3_v438 K79 (allS (own_plain_V V70) all0)
                  have Sj3_v440 := own_sta_keep Sj3_v439 K87 (allS (own_plain_V V79b) all0)
                  have Sj4_v441 := own_sta_keep Sj4 K69 all0
                  have Sj4_v442 := Sj4_v441.ext E70
                  have Sj4_v443 := own_sta_keep Sj4_v442 K79 (allS (own_plain_V V70) all0)
                  have Sj4_v444 := own_sta_keep Sj4_v443 K87 (allS (own_plain_V V79b) all0)
                  have Sj5_v445 := own_sta_keep Sj5 K69 all0
                  have Sj5_v446 := Sj5_v445.ext E70
                  have Sj5_v447 := own_sta_keep Sj5_v446 K79 (allS (own_plain_V V70) all0)
                  have Sj5_v448 := own_sta_keep Sj5_v447 K87 (allS (own_plain_V V79b) all0)
                  have Sj6_v449 := own_sta_keep Sj6 K69 all0
                  have Sj6_v450 := Sj6_v449.ext E70
                  have Sj6_v451 := own_sta_keep Sj6_v450 K79 (allS (own_plain_V V70) all0)
                  have Sj6_v452 := own_sta_keep Sj6_v451 K87 (allS (own_plain_V V79b) all0)
                  obtain ⟨_, _, ⟨T453, L453, k453, n453⟩, -, X453, ⟨Lc453, hQ453, l453, y453, z453⟩, st453⟩ := Jvm.LawKit.callS X87 hx (y := (⟨"com/example/barred_rows/barredrows/crypto/Fp", "equal", "([JI[JI)Z"⟩ : MethodName)) hown (mvT hZ (hw _ (List.mem_of_getElem? (i := 20) rfl))) (mvT hZ (hw _ (List.mem_of_getElem? (i := 21) rfl))) (mvT hZ (hw _ (List.mem_of_getElem? (i := 22) rfl))) (mvT hZ (hw _ (List.mem_of_getElem? (i := 23) rfl))) (by decide) (backOf (W := 0) (rm4 l Z a0 hw [] b70 (7 : Int32) (14 : Int32) cl423 z79_0 z79_1 z79_2 z79_3 z79_4 z79_5 z79_6 z87_0 z87_1 z87_2 z87_3 z87_4 z87_5 z87_6 T87.heap n0 Zj_v424 Ar423 hi423_0 hi423_1 hi423_2 hi423_3 hi423_4 hi423_5 hi423_6 thi423_0 thi423_1 thi423_2 thi423_3 thi423_4 thi423_5 thi423_6 gi423_0 gi423_1 gi423_2 gi423_3 gi423_4 gi423_5 gi423_6 tgi423_0 tgi423_1 tgi423_2 tgi423_3 tgi423_4 tgi423_5 tgi423_6 Sj0_v428 Sj1_v432 Sj2_v436 Sj3_v440 Sj4_v444 Sj5_v448 Sj6_v452) hZ (hw _ (List.mem_of_getElem? (i := 23) rfl)) (hw _ (List.mem_of_getElem? (i := 22) rfl)) (by decide) (by decide)) (g := (mkF m 360 (LS_JsJsJsJsJsJsJsRIIIIIRRRI q0 q1 q2 q3 q4 q5 (36028797018963967 : Int64) b1 (((q5.toUInt64 >>> ((61 : Int32) &&& 0x3f).toInt64.toUInt64).toInt64).toInt32) fA fB (1 : Int32) (4 : Int32) b22 o69 b70 (0 : Int32)) [(.int (14 : Int32)), (.ref b70), (.int (7 : Int32)), (.ref b70)])) rfl (by rw [hml]; rfl) (argsL := [(.ref b70), (.int (7 : Int32)), (.ref b70), (.int (14 : Int32))]) (rest := []) (lenOf pd___JI_JI_Z rfl) rfl (by show 2 * 0 + _ ≤ _; exact Nat.le_of_eq rfl) (hb hby at_360) (fun _ _ => ⟨rfl, rfl, (by decide : 4 + 2 ≤ _), (by decide : 42 + 14 ≤ _)⟩)
                  dsimp only [Pt.U, Pt.locs, Pt.cells, Pt.slots] at X453 l453 y453 z453 st453 hQ453
                  subst l453 y453 z453
                  obtain ⟨rfl, N453q⟩ := hQ453
                  have N453 := Fr.app N87 N453q
                  refine own_go (B := T453.setTop (mkF m 363 (LS_JsJsJsJsJsJsJsRIIIIIRRRI q0 q1 q2 q3 q4 q5 (36028797018963967 : Int64) b1 (((q5.toUInt64 >>> ((61 : Int32) &&& 0x3f).toInt64.toUInt64).toInt64).toInt32) fA fB (1 : Int32) (4 : Int32) b22 o69 b70 (0 : Int32)) [(.int (if ((((((((own_c0 z79_0 z79_1 z79_2 z79_3 z79_4 z79_5 z79_6) ^^^ (own_c0 z87_0 z87_1 z87_2 z87_3 z87_4 z87_5 z87_6)) ||| ((own_c1 z79_0 z79_1 z79_2 z79_3 z79_4 z79_5 z79_6) ^^^ (own_c1 z87_0 z87_1 z87_2 z87_3 z87_4 z87_5 z87_6))) ||| ((own_c2 z79_0 z79_1 z79_2 z79_3 z79_4 z79_5 z79_6) ^^^ (own_c2 z87_0 z87_1 z87_2 z87_3 z87_4 z87_5 z87_6))) ||| ((own_c3 z79_0 z79_1 z79_2 z79_3 z79_4 z79_5 z79_6) ^^^ (own_c3 z87_0 z87_1 z87_2 z87_3 z87_4 z87_5 z87_6))) ||| ((own_c4 z79_0 z79_1 z79_2 z79_3 z79_4 z79_5 z79_6) ^^^ (own_c4 z87_0 z87_1 z87_2 z87_3 z87_4 z87_5 z87_6))) ||| ((own_c5 z79_0 z79_1 z79_2 z79_3 z79_4 z79_5 z79_6) ^^^ (own_c5 z87_0 z87_1 z87_2 z87_3 z87_4 z87_5 z87_6))) ||| ((own_c6 z79_0 z79_1 z79_2 z79_3 z79_4 z79_5 z79_6) ^^^ (own_c6 z87_0 z87_1 z87_2 z87_3 z87_4 z87_5 z87_6))) = (0 : Int64) then (1 : Int32) else (0 : Int32)))])) (fun t k => st453 _ k) ?_
                  rw [c79_0, c79_1, c79_2, c79_3, c79_4, c79_5, c79_6, c87_0, c87_1, c87_2, c87_3, c87_4, c87_5, c87_6]
                  refine own_go (B := T453.setTop (mkF m 373 (LS_JsJsJsJsJsJsJsRIIIIIRRRI q0 q1 q2 q3 q4 q5 (36028797018963967 : Int64) b1 (((q5.toUInt64 >>> ((61 : Int32) &&& 0x3f).toInt64.toUInt64).toInt64).toInt32) fA fB (1 : Int32) (4 : Int32) b22 o69 b70 (0 : Int32)) [(.int (1 : Int32))])) (fun t k => ?_) ?_
                  · refine XS.iload X453.here hx rfl (hb hby at_363) rfl ?_
                    refine XS.icmpNo X453.here hx rfl (hb hby at_365) rfl (teq (if_neg fun q => hc342_391 ((own_eq4 bx0 bx1 bx2 bx3 bx4 bx5 bx6).mp q))).2 ?_
                    show Steps p.tables e below (T453.setTop (mkF m 368 (LS_JsJsJsJsJsJsJsRIIIIIRRRI q0 q1 q2 q3 q4 q5 (36028797018963967 : Int64) b1 (((q5.toUInt64 >>> ((61 : Int32) &&& 0x3f).toInt64.toUInt64).toInt64).toInt32) fA fB (1 : Int32) (4 : Int32) b22 o69 b70 (0 : Int32)) [])) _
                    refine XS.iconst X453.here hx rfl (hb hby at_368) ?_
                    refine XS.goto X453.here hx rfl (pc0 := 369) (pc' := 373) rfl (hb hby at_369) (by decide) (by decide) ?_
                    exact k
                  obtain ⟨fs, hr, hrun, hended, hW, hsame⟩ := X453.leave (v := some (.int (1 : Int32))) (fun h => by rw [Bd.returns] at h; cases h)
                  refine ⟨_, _, ?_, hrun, hended, _, _, rfl, ?_, ⟨_, rfl⟩, hW, hsame.mono (by decide) (by decide)⟩
                  · show Steps p.tables e below (T453.setTop (mkF m 373 (LS_JsJsJsJsJsJsJsRIIIIIRRRI q0 q1 q2 q3 q4 q5 (36028797018963967 : Int64) b1 (((q5.toUInt64 >>> ((61 : Int32) &&& 0x3f).toInt64.toUInt64).toInt64).toInt32) fA fB (1 : Int32) (4 : Int32) b22 o69 b70 (0 : Int32)) [(.int (1 : Int32))])) _
                    exact retN X453 hx (t := .boolean) Bd.returns (by simp) (hb hby at_373) hr
                  · show Q0 Z q0 q1 q2 q3 q4 q5 h0 n0 _ T453.heap _
                    exact ⟨rfl, N453⟩
              · refine own_go (B := T87.setTop (mkF m 330 (LS_JsJsJsJsJsJsJsRIIIIIRRRu q0 q1 q2 q3 q4 q5 (36028797018963967 : Int64) b1 (((q5.toUInt64 >>> ((61 : Int32) &&& 0x3f).toInt64.toUInt64).toInt64).toInt32) fA fB (1 : Int32) (5 : Int32) b22 o69 b70) [])) (fun t k => by rw [hkf]; exact k) ?_
                have Vxj_v455 := Vxj_v75.keep K79 (ninS ne77 nin0)
                have Vxj_v456 := Vxj_v455.keep K87 (ninS ne77 nin0)
                obtain ⟨cl454, Ar454, qa454, Sa454, Na454, Ha454, Ga454⟩ := id Vxj_v456
                have hin457 : ¬ ((5 : Int32) < 0 ∨ cl454.slots.size ≤ ((5 : Int32)).toNatClampNeg) := inb_of Sa454 ⟨by decide, by decide⟩
                have hat457 : cl454.slots[((5 : Int32)).toNatClampNeg]? = some (.long x5) := Has.at Ha454 hin457 rfl
                refine own_go (B := T87.setTop (mkF m 342 (LS_JsJsJsJsJsJsJsRIIIIIRRRu q0 q1 q2 q3 q4 q5 (36028797018963967 : Int64) b1 (((q5.toUInt64 >>> ((61 : Int32) &&& 0x3f).toInt64.toUInt64).toInt64).toInt32) fA fB (1 : Int32) (5 : Int32) b22 o69 b70) [(.int (lcmpW x5 (0 : Int64)))])) (fun t k => ?_) ?_
                · refine XS.iload X87.here hx rfl (hb hby at_330) rfl ?_
                  refine XS.ifNo X87.here hx rfl (hb hby at_332) rfl ((if0 _ _).trans (feq (by decide : ¬ ((1 : Int32) = (0 : Int32)))).1) ?_
                  show Steps p.tables e below (T87.setTop (mkF m 335 (LS_JsJsJsJsJsJsJsRIIIIIRRRu q0 q1 q2 q3 q4 q5 (36028797018963967 : Int64) b1 (((q5.toUInt64 >>> ((61 : Int32) &&& 0x3f).toInt64.toUInt64).toInt64).toInt32) fA fB (1 : Int32) (5 : Int32) b22 o69 b70) [])) _
                  refine XS.aload X87.here hx rfl (hb hby at_335) rfl rfl ?_
                  refine XS.iload X87.here hx rfl (hb hby at_337) rfl ?_
                  refine X87.laload hx (j := (5 : Int32)) (v := (.long x5)) Ar454.1 (State.isArrayOf_alike hZ.alike Ar454.2.1) Ar454.2.2 hin457 hat457 (g := (mkF m 339 (LS_JsJsJsJsJsJsJsRIIIIIRRRu q0 q1 q2 q3 q4 q5 (36028797018963967 : Int64) b1 (((q5.toUInt64 >>> ((61 : Int32) &&& 0x3f).toInt64.toUInt64).toInt64).toInt32) fA fB (1 : Int32) (5 : Int32) b22 o69 b70) [(.int (5 : Int32)), (.ref b1)])) rfl rfl (hb hby at_339) _ ?_
                  show Steps p.tables e below (T87.setTop (mkF m 340 (LS_JsJsJsJsJsJsJsRIIIIIRRRu q0 q1 q2 q3 q4 q5 (36028797018963967 : Int64) b1 (((q5.toUInt64 >>> ((61 : Int32) &&& 0x3f).toInt64.toUInt64).toInt64).toInt32) fA fB (1 : Int32) (5 : Int32) b22 o69 b70) [(.long x5)])) _
                  refine XS.lconst X87.here hx rfl (hb hby at_340) ?_
                  refine XS.lcmp X87.here hx rfl (hb hby at_341) rfl ?_
                  exact k
                by_cases hc342_458 : x5 = (0 : Int64)
                · refine own_go (B := T87.setTop (mkF m 360 (LS_JsJsJsJsJsJsJsRIIIIIRRRI q0 q1 q2 q3 q4 q5 (36028797018963967 : Int64) b1 (((q5.toUInt64 >>> ((61 : Int32) &&& 0x3f).toInt64.toUInt64).toInt64).toInt32) fA fB (1 : Int32) (5 : Int32) b22 o69 b70 (1 : Int32)) [(.int (14 : Int32)), (.ref b70), (.int (7 : Int32)), (.ref b70)])) (fun t k => ?_) ?_
                  · refine XS.ifNo X87.here hx rfl (hb hby at_342) rfl ((if0 _ _).trans (teq ((lw_eq x5 (0 : Int64)).mpr hc342_458)).2) ?_
                    refine XS.iconst X87.here hx rfl (hb hby at_345) ?_
                    show Steps p.tables e below (T87.setTop (mkF m 346 (LS_JsJsJsJsJsJsJsRIIIIIRRRu q0 q1 q2 q3 q4 q5 (36028797018963967 : Int64) b1 (((q5.toUInt64 >>> ((61 : Int32) &&& 0x3f).toInt64.toUInt64).toInt64).toInt32) fA fB (1 : Int32) (5 : Int32) b22 o69 b70) [(.int (1 : Int32))])) _
                    refine XS.goto X87.here hx rfl (pc0 := 346) (pc' := 350) rfl (hb hby at_346) (by decide) (by decide) ?_
                    refine XS.istore X87.here hx rfl (hb hby at_350) rfl (l' := (LS_JsJsJsJsJsJsJsRIIIIIRRRI q0 q1 q2 q3 q4 q5 (36028797018963967 : Int64) b1 (((q5.toUInt64 >>> ((61 : Int32) &&& 0x3f).toInt64.toUInt64).toInt64).toInt32) fA fB (1 : Int32) (5 : Int32) b22 o69 b70 (1 : Int32))) rfl ?_
                    refine XS.aload X87.here hx rfl (hb hby at_352) rfl rfl ?_
                    show Steps p.tables e below (T87.setTop (mkF m 354 (LS_JsJsJsJsJsJsJsRIIIIIRRRI q0 q1 q2 q3 q4 q5 (36028797018963967 : Int64) b1 (((q5.toUInt64 >>> ((61 : Int32) &&& 0x3f).toInt64.toUInt64).toInt64).toInt32) fA fB (1 : Int32) (5 : Int32) b22 o69 b70 (1 : Int32)) [(.ref b70)])) _
                    refine XS.bipush X87.here hx rfl (hb hby at_354) ?_
                    refine XS.aload X87.here hx rfl (hb hby at_356) rfl rfl ?_
                    refine XS.bipush X87.here hx rfl (hb hby at_358) ?_
                    exact k
                  obtain ⟨cl459, Ar459, qa459, Sa459, Na459, Ha459, Ga459⟩ := id V87b
                  have hi459_0 : ¬ ((7 : Int32) < 0 ∨ cl459.slots.size ≤ ((7 : Int32)).toNatClampNeg) := inb_of Sa459 ⟨by decide, by decide⟩
                  have thi459_0 : cl459.slots[((7 : Int32)).toNatClampNeg]? = some (.long z79_0) := Has.at Ha459 hi459_0 rfl
                  have hi459_1 : ¬ (((7 : Int32) + (1 : Int32)) < 0 ∨ cl459.slots.size ≤ (((7 : Int32) + (1 : Int32))).toNatClampNeg) := inb_of Sa459 ⟨by decide, by decide⟩
                  have thi459_1 : cl459.slots[(((7 : Int32) + (1 : Int32))).toNatClampNeg]? = some (.long z79_1) := Has.at Ha459 hi459_1 rfl
                  have hi459_2 : ¬ (((7 : Int32) + (2 : Int32)) < 0 ∨ cl459.slots.size ≤ (((7 : Int32) + (2 : Int32))).toNatClampNeg) := inb_of Sa459 ⟨by decide, by decide⟩
                  have thi459_2 : cl459.slots[(((7 : Int32) + (2 : Int32))).toNatClampNeg]? = some (.long z79_2) := Has.at Ha459 hi459_2 rfl
                  have hi459_3 : ¬ (((7 : Int32) + (3 : Int32)) < 0 ∨ cl459.slots.size ≤ (((7 : Int32) + (3 : Int32))).toNatClampNeg) := inb_of Sa459 ⟨by decide, by decide⟩
                  have thi459_3 : cl459.slots[(((7 : Int32) + (3 : Int32))).toNatClampNeg]? = some (.long z79_3) := Has.at Ha459 hi459_3 rfl
                  have hi459_4 : ¬ (((7 : Int32) + (4 : Int32)) < 0 ∨ cl459.slots.size ≤ (((7 : Int32) + (4 : Int32))).toNatClampNeg) := inb_of Sa459 ⟨by decide, by decide⟩
                  have thi459_4 : cl459.slots[(((7 : Int32) + (4 : Int32))).toNatClampNeg]? = some (.long z79_4) := Has.at Ha459 hi459_4 rfl
                  have hi459_5 : ¬ (((7 : Int32) + (5 : Int32)) < 0 ∨ cl459.slots.size ≤ (((7 : Int32) + (5 : Int32))).toNatClampNeg) := inb_of Sa459 ⟨by decide, by decide⟩
                  have thi459_5 : cl459.slots[(((7 : Int32) + (5 : Int32))).toNatClampNeg]? = some (.long z79_5) := Has.at Ha459 hi459_5 rfl
                  have hi459_6 : ¬ (((7 : Int32) + (6 : Int32)) < 0 ∨ cl459.slots.size ≤ (((7 : Int32) + (6 : Int32))).toNatClampNeg) := inb_of Sa459 ⟨by decide, by decide⟩
                  have thi459_6 : cl459.slots[(((7 : Int32) + (6 : Int32))).toNatClampNeg]? = some (.long z79_6) := Has.at Ha459 hi459_6 rfl
                  have gi459_0 : ¬ ((14 : Int32) < 0 ∨ cl459.slots.size ≤ ((14 : Int32)).toNatClampNeg) := inb_of Sa459 ⟨by decide, by decide⟩
                  have tgi459_0 : cl459.slots[((14 : Int32)).toNatClampNeg]? = some (.long z87_0) := Has.at Ha459 gi459_0 rfl
                  have gi459_1 : ¬ (((14 : Int32) + (1 : Int32)) < 0 ∨ cl459.slots.size ≤ (((14 : Int32) + (1 : Int32))).toNatClampNeg) := inb_of Sa459 ⟨by decide, by decide⟩
                  have tgi459_1 : cl459.slots[(((14 : Int32) + (1 : Int32))).toNatClampNeg]? = some (.long z87_1) := Has.at Ha459 gi459_1 rfl
                  have gi459_2 : ¬ (((14 : Int32) + (2 : Int32)) < 0 ∨ cl459.slots.size ≤ (((14 : Int32) + (2 : Int32))).toNatClampNeg) := inb_of Sa459 ⟨by decide, by decide⟩
                  have tgi459_2 : cl459.slots[(((14 : Int32) + (2 : Int32))).toNatClampNeg]? = some (.long z87_2) := Has.at Ha459 gi459_2 rfl
                  have gi459_3 : ¬ (((14 : Int32) + (3 : Int32)) < 0 ∨ cl459.slots.size ≤ (((14 : Int32) + (3 : Int32))).toNatClampNeg) := inb_of Sa459 ⟨by decide, by decide⟩
                  have tgi459_3 : cl459.slots[(((14 : Int32) + (3 : Int32))).toNatClampNeg]? = some (.long z87_3) := Has.at Ha459 gi459_3 rfl
                  have gi459_4 : ¬ (((14 : Int32) + (4 : Int32)) < 0 ∨ cl459.slots.size ≤ (((14 : Int32) + (4 : Int32))).toNatClampNeg) := inb_of Sa459 ⟨by decide, by decide⟩
                  have tgi459_4 : cl459.slots[(((14 : Int32) + (4 : Int32))).toNatClampNeg]? = some (.long z87_4) := Has.at Ha459 gi459_4 rfl
                  have gi459_5 : ¬ (((14 : Int32) + (5 : Int32)) < 0 ∨ cl459.slots.size ≤ (((14 : Int32) + (5 : Int32))).toNatClampNeg) := inb_of Sa459 ⟨by decide, by decide⟩
                  have tgi459_5 : cl459.slots[(((14 : Int32) + (5 : Int32))).toNatClampNeg]? = some (.long z87_5) := Has.at Ha459 gi459_5 rfl
                  have gi459_6 : ¬ (((14 : Int32) + (6 : Int32)) < 0 ∨ cl459.slots.size ≤ (((14 : Int32) + (6 : Int32))).toNatClampNeg) := inb_of Sa459 ⟨by decide, by decide⟩
                  have tgi459_6 : cl459.slots[(((14 : Int32) + (6 : Int32))).toNatClampNeg]? = some (.long z87_6) := Has.at Ha459 gi459_6 rfl
                  have Zj_v460 := Nat.le_trans Zj_v81 K87.1
                  have Sj0_v461 := own_sta_keep Sj0 K69 all0
                  have Sj0_v462 := Sj0_v461.ext E70
                  have Sj0_v463 := own_sta_keep Sj0_v462 K79 (allS (own_plain_V V70) all0)
                  have Sj0_v464 := own_sta_keep Sj0_v463 K87 (allS (own_plain_V V79b) all0)
                  have Sj1_v465 := own_sta_keep Sj1 K69 all0
                  have Sj1_v466 := Sj1_v465.ext E70
                  have Sj1_v467 := own_sta_keep Sj1_v466 K79 (allS (own_plain_V V70) all0)
                  have Sj1_v468 := own_sta_keep Sj1_v467 K87 (allS (own_plain_V V79b) all0)
                  have Sj2_v469 := own_sta_keep Sj2 K69 all0
                  have Sj2_v470 := Sj2_v469.ext E70
                  have Sj2_v471 := own_sta_keep Sj2_v470 K79 (allS (own_plain_V V70) all0)
                  have Sj2_v472 := own_sta_keep Sj2_v471 K87 (allS (own_plain_V V79b) all0)
                  have Sj3_v473 := own_sta_keep Sj3 K69 all0
                  have Sj3_v474 := Sj3_v473.ext E70
                  have Sj3_v475 := own_sta_keep Sj3_v474 K79 (allS (own_plain_V V70) all0)
                  have Sj3_v476 := own_sta_keep Sj3_v475 K87 (allS (own_plain_V V79b) all0)
                  have Sj4_v477 := own_sta_keep Sj4 K69 all0
                  have Sj4_v478 := Sj4_v477.ext E70
                  have Sj4_v479 := own_sta_keep Sj4_v478 K79 (allS (own_plain_V V70) all0)
                  have Sj4_v480 := own_sta_keep Sj4_v479 K87 (allS (own_plain_V V79b) all0)
                  have Sj5_v481 := own_sta_keep Sj5 K69 all0
                  have Sj5_v482 := Sj5_v481.ext E70
                  have Sj5_v483 := own_sta_keep Sj5_v482 K79 (allS (own_plain_V V70) all0)
                  have Sj5_v484 := own_sta_keep Sj5_v483 K87 (allS (own_plain_V V79b) all0)
                  have Sj6_v485 := own_sta_keep Sj6 K69 all0
                  have Sj6_v486 := Sj6_v485.ext E70
                  have Sj6_v487 := own_sta_keep Sj6_v486 K79 (allS (own_plain_V V70) all0)
                  have Sj6_v488 := own_sta_keep Sj6_v487 K87 (allS (own_plain_V V79b) all0)
                  obtain ⟨_, _, ⟨T489, L489, k489, n489⟩, -, X489, ⟨Lc489, hQ489, l489, y489, z489⟩, st489⟩ := Jvm.LawKit.callS X87 hx (y := (⟨"com/example/barred_rows/barredrows/crypto/Fp", "equal", "([JI[JI)Z"⟩ : MethodName)) hown (mvT hZ (hw _ (List.mem_of_getElem? (i := 20) rfl))) (mvT hZ (hw _ (List.mem_of_getElem? (i := 21) rfl))) (mvT hZ (hw _ (List.mem_of_getElem? (i := 22) rfl))) (mvT hZ (hw _ (List.mem_of_getElem? (i := 23) rfl))) (by decide) (backOf (W := 0) (rm4 l Z a0 hw [] b70 (7 : Int32) (14 : Int32) cl459 z79_0 z79_1 z79_2 z79_3 z79_4 z79_5 z79_6 z87_0 z87_1 z87_2 z87_3 z87_4 z87_5 z87_6 T87.heap n0 Zj_v460 Ar459 hi459_0 hi459_1 hi459_2 hi459_3 hi459_4 hi459_5 hi459_6 thi459_0 thi459_1 thi459_2 thi459_3 thi459_4 thi459_5 thi459_6 gi459_0 gi459_1 gi459_2 gi459_3 gi459_4 gi459_5 gi459_6 tgi459_0 tgi459_1 tgi459_2 tgi459_3 tgi459_4 tgi459_5 tgi459_6 Sj0_v464 Sj1_v468 Sj2_v472 Sj3_v476 Sj4_v480 Sj5_v484 Sj6_v488) hZ (hw _ (List.mem_of_getElem? (i := 23) rfl)) (hw _ (List.mem_of_getElem? (i := 22) rfl)) (by decide) (by decide)) (g := (mkF m 360 (LS_JsJsJsJsJsJsJsRIIIIIRRRI q0 q1 q2 q3 q4 q5 (36028797018963967 : Int64) b1 (((q5.toUInt64 >>> ((61 : Int32) &&& 0x3f).toInt64.toUInt64).toInt64).toInt32) fA fB (1 : Int32) (5 : Int32) b22 o69 b70 (1 : Int32)) [(.int (14 : Int32)), (.ref b70), (.int (7 : Int32)), (.ref b70)])) rfl (by rw [hml]; rfl) (argsL := [(.ref b70), (.int (7 : Int32)), (.ref b70), (.int (14 : Int32))]) (rest := []) (lenOf pd___JI_JI_Z rfl) rfl (by show 2 * 0 + _ ≤ _; exact Nat.le_of_eq rfl) (hb hby at_360) (fun _ _ => ⟨rfl, rfl, (by decide : 4 + 2 ≤ _), (by decide : 42 + 14 ≤ _)⟩)
                  dsimp only [Pt.U, Pt.locs, Pt.cells, Pt.slots] at X489 l489 y489 z489 st489 hQ489
                  subst l489 y489 z489
                  obtain ⟨rfl, N489q⟩ := hQ489
                  have N489 := Fr.app N87 N489q
                  refine own_go (B := T489.setTop (mkF m 363 (LS_JsJsJsJsJsJsJsRIIIIIRRRI q0 q1 q2 q3 q4 q5 (36028797018963967 : Int64) b1 (((q5.toUInt64 >>> ((61 : Int32) &&& 0x3f).toInt64.toUInt64).toInt64).toInt32) fA fB (1 : Int32) (5 : Int32) b22 o69 b70 (1 : Int32)) [(.int (if ((((((((own_c0 z79_0 z79_1 z79_2 z79_3 z79_4 z79_5 z79_6) ^^^ (own_c0 z87_0 z87_1 z87_2 z87_3 z87_4 z87_5 z87_6)) ||| ((own_c1 z79_0 z79_1 z79_2 z79_3 z79_4 z79_5 z79_6) ^^^ (own_c1 z87_0 z87_1 z87_2 z87_3 z87_4 z87_5 z87_6))) ||| ((own_c2 z79_0 z79_1 z79_2 z79_3 z79_4 z79_5 z79_6) ^^^ (own_c2 z87_0 z87_1 z87_2 z87_3 z87_4 z87_5 z87_6))) ||| ((own_c3 z79_0 z79_1 z79_2 z79_3 z79_4 z79_5 z79_6) ^^^ (own_c3 z87_0 z87_1 z87_2 z87_3 z87_4 z87_5 z87_6))) ||| ((own_c4 z79_0 z79_1 z79_2 z79_3 z79_4 z79_5 z79_6) ^^^ (own_c4 z87_0 z87_1 z87_2 z87_3 z87_4 z87_5 z87_6))) ||| ((own_c5 z79_0 z79_1 z79_2 z79_3 z79_4 z79_5 z79_6) ^^^ (own_c5 z87_0 z87_1 z87_2 z87_3 z87_4 z87_5 z87_6))) ||| ((own_c6 z79_0 z79_1 z79_2 z79_3 z79_4 z79_5 z79_6) ^^^ (own_c6 z87_0 z87_1 z87_2 z87_3 z87_4 z87_5 z87_6))) = (0 : Int64) then (1 : Int32) else (0 : Int32)))])) (fun t k => st489 _ k) ?_
                  rw [c79_0, c79_1, c79_2, c79_3, c79_4, c79_5, c79_6, c87_0, c87_1, c87_2, c87_3, c87_4, c87_5, c87_6]
                  refine own_go (B := T489.setTop (mkF m 373 (LS_JsJsJsJsJsJsJsRIIIIIRRRI q0 q1 q2 q3 q4 q5 (36028797018963967 : Int64) b1 (((q5.toUInt64 >>> ((61 : Int32) &&& 0x3f).toInt64.toUInt64).toInt64).toInt32) fA fB (1 : Int32) (5 : Int32) b22 o69 b70 (1 : Int32)) [(.int (1 : Int32))])) (fun t k => ?_) ?_
                  · refine XS.iload X489.here hx rfl (hb hby at_363) rfl ?_
                    refine XS.icmpNo X489.here hx rfl (hb hby at_365) rfl (teq (if_pos ((own_eq5 bx0 bx1 bx2 bx3 bx4 bx5 bx6).mpr hc342_458))).2 ?_
                    show Steps p.tables e below (T489.setTop (mkF m 368 (LS_JsJsJsJsJsJsJsRIIIIIRRRI q0 q1 q2 q3 q4 q5 (36028797018963967 : Int64) b1 (((q5.toUInt64 >>> ((61 : Int32) &&& 0x3f).toInt64.toUInt64).toInt64).toInt32) fA fB (1 : Int32) (5 : Int32) b22 o69 b70 (1 : Int32)) [])) _
                    refine XS.iconst X489.here hx rfl (hb hby at_368) ?_
                    refine XS.goto X489.here hx rfl (pc0 := 369) (pc' := 373) rfl (hb hby at_369) (by decide) (by decide) ?_
                    exact k
                  obtain ⟨fs, hr, hrun, hended, hW, hsame⟩ := X489.leave (v := some (.int (1 : Int32))) (fun h => by rw [Bd.returns] at h; cases h)
                  refine ⟨_, _, ?_, hrun, hended, _, _, rfl, ?_, ⟨_, rfl⟩, hW, hsame.mono (by decide) (by decide)⟩
                  · show Steps p.tables e below (T489.setTop (mkF m 373 (LS_JsJsJsJsJsJsJsRIIIIIRRRI q0 q1 q2 q3 q4 q5 (36028797018963967 : Int64) b1 (((q5.toUInt64 >>> ((61 : Int32) &&& 0x3f).toInt64.toUInt64).toInt64).toInt32) fA fB (1 : Int32) (5 : Int32) b22 o69 b70 (1 : Int32)) [(.int (1 : Int32))])) _
                    exact retN X489 hx (t := .boolean) Bd.returns (by simp) (hb hby at_373) hr
                  · show Q0 Z q0 q1 q2 q3 q4 q5 h0 n0 _ T489.heap _
                    exact ⟨rfl, N489⟩
                · refine own_go (B := T87.setTop (mkF m 360 (LS_JsJsJsJsJsJsJsRIIIIIRRRI q0 q1 q2 q3 q4 q5 (36028797018963967 : Int64) b1 (((q5.toUInt64 >>> ((61 : Int32) &&& 0x3f).toInt64.toUInt64).toInt64).toInt32) fA fB (1 : Int32) (5 : Int32) b22 o69 b70 (0 : Int32)) [(.int (14 : Int32)), (.ref b70), (.int (7 : Int32)), (.ref b70)])) (fun t k => ?_) ?_
                  · refine XS.ifYes X87.here hx rfl (pc0 := 342) (pc' := 349) rfl (hb hby at_342) rfl ((if0 _ _).trans (feq (fun q => hc342_458 ((lw_eq x5 (0 : Int64)).mp q))).2) (by decide) (by decide) ?_
                    refine XS.iconst X87.here hx rfl (hb hby at_349) ?_
                    show Steps p.tables e below (T87.setTop (mkF m 350 (LS_JsJsJsJsJsJsJsRIIIIIRRRu q0 q1 q2 q3 q4 q5 (36028797018963967 : Int64) b1 (((q5.toUInt64 >>> ((61 : Int32) &&& 0x3f).toInt64.toUInt64).toInt64).toInt32) fA fB (1 : Int32) (5 : Int32) b22 o69 b70) [(.int (0 : Int32))])) _
                    refine XS.istore X87.here hx rfl (hb hby at_350) rfl (l' := (LS_JsJsJsJsJsJsJsRIIIIIRRRI q0 q1 q2 q3 q4 q5 (36028797018963967 : Int64) b1 (((q5.toUInt64 >>> ((61 : Int32) &&& 0x3f).toInt64.toUInt64).toInt64).toInt32) fA fB (1 : Int32) (5 : Int32) b22 o69 b70 (0 : Int32))) rfl ?_
                    refine XS.aload X87.here hx rfl (hb hby at_352) rfl rfl ?_
                    refine XS.bipush X87.here hx rfl (hb hby at_354) ?_
                    show Steps p.tables e below (T87.setTop (mkF m 356 (LS_JsJsJsJsJsJsJsRIIIIIRRRI q0 q1 q2 q3 q4 q5 (36028797018963967 : Int64) b1 (((q5.toUInt64 >>> ((61 : Int32) &&& 0x3f).toInt64.toUInt64).toInt64).toInt32) fA fB (1 : Int32) (5 : Int32) b22 o69 b70 (0 : Int32)) [(.int (7 : Int32)), (.ref b70)])) _
                    refine XS.aload X87.here hx rfl (hb hby at_356) rfl rfl ?_
                    refine XS.bipush X87.here hx rfl (hb hby at_358) ?_
                    exact k
                  obtain ⟨cl490, Ar490, qa490, Sa490, Na490, Ha490, Ga490⟩ := id V87b
                  have hi490_0 : ¬ ((7 : Int32) < 0 ∨ cl490.slots.size ≤ ((7 : Int32)).toNatClampNeg) := inb_of Sa490 ⟨by decide, by decide⟩
                  have thi490_0 : cl490.slots[((7 : Int32)).toNatClampNeg]? = some (.long z79_0) := Has.at Ha490 hi490_0 rfl
                  have hi490_1 : ¬ (((7 : Int32) + (1 : Int32)) < 0 ∨ cl490.slots.size ≤ (((7 : Int32) + (1 : Int32))).toNatClampNeg) := inb_of Sa490 ⟨by decide, by decide⟩
                  have thi490_1 : cl490.slots[(((7 : Int32) + (1 : Int32))).toNatClampNeg]? = some (.long z79_1) := Has.at Ha490 hi490_1 rfl
                  have hi490_2 : ¬ (((7 : Int32) + (2 : Int32)) < 0 ∨ cl490.slots.size ≤ (((7 : Int32) + (2 : Int32))).toNatClampNeg) := inb_of Sa490 ⟨by decide, by decide⟩
                  have thi490_2 : cl490.slots[(((7 : Int32) + (2 : Int32))).toNatClampNeg]? = some (.long z79_2) := Has.at Ha490 hi490_2 rfl
                  have hi490_3 : ¬ (((7 : Int32) + (3 : Int32)) < 0 ∨ cl490.slots.size ≤ (((7 : Int32) + (3 : Int32))).toNatClampNeg) := inb_of Sa490 ⟨by decide, by decide⟩
                  have thi490_3 : cl490.slots[(((7 : Int32) + (3 : Int32))).toNatClampNeg]? = some (.long z79_3) := Has.at Ha490 hi490_3 rfl
                  have hi490_4 : ¬ (((7 : Int32) + (4 : Int32)) < 0 ∨ cl490.slots.size ≤ (((7 : Int32) + (4 : Int32))).toNatClampNeg) := inb_of Sa490 ⟨by decide, by decide⟩
                  have thi490_4 : cl490.slots[(((7 : Int32) + (4 : Int32))).toNatClampNeg]? = some (.long z79_4) := Has.at Ha490 hi490_4 rfl
                  have hi490_5 : ¬ (((7 : Int32) + (5 : Int32)) < 0 ∨ cl490.slots.size ≤ (((7 : Int32) + (5 : Int32))).toNatClampNeg) := inb_of Sa490 ⟨by decide, by decide⟩
                  have thi490_5 : cl490.slots[(((7 : Int32) + (5 : Int32))).toNatClampNeg]? = some (.long z79_5) := Has.at Ha490 hi490_5 rfl
                  have hi490_6 : ¬ (((7 : Int32) + (6 : Int32)) < 0 ∨ cl490.slots.size ≤ (((7 : Int32) + (6 : Int32))).toNatClampNeg) := inb_of Sa490 ⟨by decide, by decide⟩
                  have thi490_6 : cl490.slots[(((7 : Int32) + (6 : Int32))).toNatClampNeg]? = some (.long z79_6) := Has.at Ha490 hi490_6 rfl
                  have gi490_0 : ¬ ((14 : Int32) < 0 ∨ cl490.slots.size ≤ ((14 : Int32)).toNatClampNeg) := inb_of Sa490 ⟨by decide, by decide⟩
                  have tgi490_0 : cl490.slots[((14 : Int32)).toNatClampNeg]? = some (.long z87_0) := Has.at Ha490 gi490_0 rfl
                  have gi490_1 : ¬ (((14 : Int32) + (1 : Int32)) < 0 ∨ cl490.slots.size ≤ (((14 : Int32) + (1 : Int32))).toNatClampNeg) := inb_of Sa490 ⟨by decide, by decide⟩
                  have tgi490_1 : cl490.slots[(((14 : Int32) + (1 : Int32))).toNatClampNeg]? = some (.long z87_1) := Has.at Ha490 gi490_1 rfl
                  have gi490_2 : ¬ (((14 : Int32) + (2 : Int32)) < 0 ∨ cl490.slots.size ≤ (((14 : Int32) + (2 : Int32))).toNatClampNeg) := inb_of Sa490 ⟨by decide, by decide⟩
                  have tgi490_2 : cl490.slots[(((14 : Int32) + (2 : Int32))).toNatClampNeg]? = some (.long z87_2) := Has.at Ha490 gi490_2 rfl
                  have gi490_3 : ¬ (((14 : Int32) + (3 : Int32)) < 0 ∨ cl490.slots.size ≤ (((14 : Int32) + (3 : Int32))).toNatClampNeg) := inb_of Sa490 ⟨by decide, by decide⟩
                  have tgi490_3 : cl490.slots[(((14 : Int32) + (3 : Int32))).toNatClampNeg]? = some (.long z87_3) := Has.at Ha490 gi490_3 rfl
                  have gi490_4 : ¬ (((14 : Int32) + (4 : Int32)) < 0 ∨ cl490.slots.size ≤ (((14 : Int32) + (4 : Int32))).toNatClampNeg) := inb_of Sa490 ⟨by decide, by decide⟩
                  have tgi490_4 : cl490.slots[(((14 : Int32) + (4 : Int32))).toNatClampNeg]? = some (.long z87_4) := Has.at Ha490 gi490_4 rfl
                  have gi490_5 : ¬ (((14 : Int32) + (5 : Int32)) < 0 ∨ cl490.slots.size ≤ (((14 : Int32) + (5 : Int32))).toNatClampNeg) := inb_of Sa490 ⟨by decide, by decide⟩
                  have tgi490_5 : cl490.slots[(((14 : Int32) + (5 : Int32))).toNatClampNeg]? = some (.long z87_5) := Has.at Ha490 gi490_5 rfl
                  have gi490_6 : ¬ (((14 : Int32) + (6 : Int32)) < 0 ∨ cl490.slots.size ≤ (((14 : Int32) + (6 : Int32))).toNatClampNeg) := inb_of Sa490 ⟨by decide, by decide⟩
                  have tgi490_6 : cl490.slots[(((14 : Int32) + (6 : Int32))).toNatClampNeg]? = some (.long z87_6) := Has.at Ha490 gi490_6 rfl
                  have Zj_v491 := Nat.le_trans Zj_v81 K87.1
                  have Sj0_v492 := own_sta_keep Sj0 K69 all0
                  have Sj0_v493 := Sj0_v492.ext E70
                  have Sj0_v494 := own_sta_keep Sj0_v493 K79 (allS (own_plain_V V70) all0)
                  have Sj0_v495 := own_sta_keep Sj0_v494 K87 (allS (own_plain_V V79b) all0)
                  have Sj1_v496 := own_sta_keep Sj1 K69 all0
                  have Sj1_v497 := Sj1_v496.ext E70
                  have Sj1_v498 := own_sta_keep Sj1_v497 K79 (allS (own_plain_V V70) all0)
                  have Sj1_v499 := own_sta_keep Sj1_v498 K87 (allS (own_plain_V V79b) all0)
                  have Sj2_v500 := own_sta_keep Sj2 K69 all0
                  have Sj2_v501 := Sj2_v500.ext E70
                  have Sj2_v502 := own_sta_keep Sj2_v501 K79 (allS (own_plain_V V70) all0)
                  have Sj2_v503 := own_sta_keep Sj2_v502 K87 (allS (own_plain_V V79b) all0)
                  have Sj3_v504 := own_sta_keep Sj3 K69 all0
                  have Sj3_v505 := Sj3_v504.ext E70
                  have Sj3_v506 := own_sta_keep Sj3_v505 K79 (allS (own_plain_V V70) all0)
                  have Sj3_v507 := own_sta_keep Sj3_v506 K87 (allS (own_plain_V V79b) all0)
                  have Sj4_v508 := own_sta_keep Sj4 K69 all0
                  have Sj4_v509 := Sj4_v508.ext E70
                  have Sj4_v510 := own_sta_keep Sj4_v509 K79 (allS (own_plain_V V70) all0)
                  have Sj4_v511 := own_sta_keep Sj4_v510 K87 (allS (own_plain_V V79b) all0)
                  have Sj5_v512 := own_sta_keep Sj5 K69 all0
                  have Sj5_v513 := Sj5_v512.ext E70
                  have Sj5_v514 := own_sta_keep Sj5_v513 K79 (allS (own_plain_V V70) all0)
                  have Sj5_v515 := own_sta_keep Sj5_v514 K87 (allS (own_plain_V V79b) all0)
                  have Sj6_v516 := own_sta_keep Sj6 K69 all0
                  have Sj6_v517 := Sj6_v516.ext E70
                  have Sj6_v518 := own_sta_keep Sj6_v517 K79 (allS (own_plain_V V70) all0)
                  have Sj6_v519 := own_sta_keep Sj6_v518 K87 (allS (own_plain_V V79b) all0)
                  obtain ⟨_, _, ⟨T520, L520, k520, n520⟩, -, X520, ⟨Lc520, hQ520, l520, y520, z520⟩, st520⟩ := Jvm.LawKit.callS X87 hx (y := (⟨"com/example/barred_rows/barredrows/crypto/Fp", "equal", "([JI[JI)Z"⟩ : MethodName)) hown (mvT hZ (hw _ (List.mem_of_getElem? (i := 20) rfl))) (mvT hZ (hw _ (List.mem_of_getElem? (i := 21) rfl))) (mvT hZ (hw _ (List.mem_of_getElem? (i := 22) rfl))) (mvT hZ (hw _ (List.mem_of_getElem? (i := 23) rfl))) (by decide) (backOf (W := 0) (rm4 l Z a0 hw [] b70 (7 : Int32) (14 : Int32) cl490 z79_0 z79_1 z79_2 z79_3 z79_4 z79_5 z79_6 z87_0 z87_1 z87_2 z87_3 z87_4 z87_5 z87_6 T87.heap n0 Zj_v491 Ar490 hi490_0 hi490_1 hi490_2 hi490_3 hi490_4 hi490_5 hi490_6 thi490_0 thi490_1 thi490_2 thi490_3 thi490_4 thi490_5 thi490_6 gi490_0 gi490_1 gi490_2 gi490_3 gi490_4 gi490_5 gi490_6 tgi490_0 tgi490_1 tgi490_2 tgi490_3 tgi490_4 tgi490_5 tgi490_6 Sj0_v495 Sj1_v499 Sj2_v503 Sj3_v507 Sj4_v511 Sj5_v515 Sj6_v519) hZ (hw _ (List.mem_of_getElem? (i := 23) rfl)) (hw _ (List.mem_of_getElem? (i := 22) rfl)) (by decide) (by decide)) (g := (mkF m 360 (LS_JsJsJsJsJsJsJsRIIIIIRRRI q0 q1 q2 q3 q4 q5 (36028797018963967 : Int64) b1 (((q5.toUInt64 >>> ((61 : Int32) &&& 0x3f).toInt64.toUInt64).toInt64).toInt32) fA fB (1 : Int32) (5 : Int32) b22 o69 b70 (0 : Int32)) [(.int (14 : Int32)), (.ref b70), (.int (7 : Int32)), (.ref b70)])) rfl (by rw [hml]; rfl) (argsL := [(.ref b70), (.int (7 : Int32)), (.ref b70), (.int (14 : Int32))]) (rest := []) (lenOf pd___JI_JI_Z rfl) rfl (by show 2 * 0 + _ ≤ _; exact Nat.le_of_eq rfl) (hb hby at_360) (fun _ _ => ⟨rfl, rfl, (by decide : 4 + 2 ≤ _), (by decide : 42 + 14 ≤ _)⟩)
                  dsimp only [Pt.U, Pt.locs, Pt.cells, Pt.slots] at X520 l520 y520 z520 st520 hQ520
                  subst l520 y520 z520
                  obtain ⟨rfl, N520q⟩ := hQ520
                  have N520 := Fr.app N87 N520q
                  refine own_go (B := T520.setTop (mkF m 363 (LS_JsJsJsJsJsJsJsRIIIIIRRRI q0 q1 q2 q3 q4 q5 (36028797018963967 : Int64) b1 (((q5.toUInt64 >>> ((61 : Int32) &&& 0x3f).toInt64.toUInt64).toInt64).toInt32) fA fB (1 : Int32) (5 : Int32) b22 o69 b70 (0 : Int32)) [(.int (if ((((((((own_c0 z79_0 z79_1 z79_2 z79_3 z79_4 z79_5 z79_6) ^^^ (own_c0 z87_0 z87_1 z87_2 z87_3 z87_4 z87_5 z87_6)) ||| ((own_c1 z79_0 z79_1 z79_2 z79_3 z79_4 z79_5 z79_6) ^^^ (own_c1 z87_0 z87_1 z87_2 z87_3 z87_4 z87_5 z87_6))) ||| ((own_c2 z79_0 z79_1 z79_2 z79_3 z79_4 z79_5 z79_6) ^^^ (own_c2 z87_0 z87_1 z87_2 z87_3 z87_4 z87_5 z87_6))) ||| ((own_c3 z79_0 z79_1 z79_2 z79_3 z79_4 z79_5 z79_6) ^^^ (own_c3 z87_0 z87_1 z87_2 z87_3 z87_4 z87_5 z87_6))) ||| ((own_c4 z79_0 z79_1 z79_2 z79_3 z79_4 z79_5 z79_6) ^^^ (own_c4 z87_0 z87_1 z87_2 z87_3 z87_4 z87_5 z87_6))) ||| ((own_c5 z79_0 z79_1 z79_2 z79_3 z79_4 z79_5 z79_6) ^^^ (own_c5 z87_0 z87_1 z87_2 z87_3 z87_4 z87_5 z87_6))) ||| ((own_c6 z79_0 z79_1 z79_2 z79_3 z79_4 z79_5 z79_6) ^^^ (own_c6 z87_0 z87_1 z87_2 z87_3 z87_4 z87_5 z87_6))) = (0 : Int64) then (1 : Int32) else (0 : Int32)))])) (fun t k => st520 _ k) ?_
                  rw [c79_0, c79_1, c79_2, c79_3, c79_4, c79_5, c79_6, c87_0, c87_1, c87_2, c87_3, c87_4, c87_5, c87_6]
                  refine own_go (B := T520.setTop (mkF m 373 (LS_JsJsJsJsJsJsJsRIIIIIRRRI q0 q1 q2 q3 q4 q5 (36028797018963967 : Int64) b1 (((q5.toUInt64 >>> ((61 : Int32) &&& 0x3f).toInt64.toUInt64).toInt64).toInt32) fA fB (1 : Int32) (5 : Int32) b22 o69 b70 (0 : Int32)) [(.int (1 : Int32))])) (fun t k => ?_) ?_
                  · refine XS.iload X520.here hx rfl (hb hby at_363) rfl ?_
                    refine XS.icmpNo X520.here hx rfl (hb hby at_365) rfl (teq (if_neg fun q => hc342_458 ((own_eq5 bx0 bx1 bx2 bx3 bx4 bx5 bx6).mp q))).2 ?_
                    show Steps p.tables e below (T520.setTop (mkF m 368 (LS_JsJsJsJsJsJsJsRIIIIIRRRI q0 q1 q2 q3 q4 q5 (36028797018963967 : Int64) b1 (((q5.toUInt64 >>> ((61 : Int32) &&& 0x3f).toInt64.toUInt64).toInt64).toInt32) fA fB (1 : Int32) (5 : Int32) b22 o69 b70 (0 : Int32)) [])) _
                    refine XS.iconst X520.here hx rfl (hb hby at_368) ?_
                    refine XS.goto X520.here hx rfl (pc0 := 369) (pc' := 373) rfl (hb hby at_369) (by decide) (by decide) ?_
                    exact k
                  obtain ⟨fs, hr, hrun, hended, hW, hsame⟩ := X520.leave (v := some (.int (1 : Int32))) (fun h => by rw [Bd.returns] at h; cases h)
                  refine ⟨_, _, ?_, hrun, hended, _, _, rfl, ?_, ⟨_, rfl⟩, hW, hsame.mono (by decide) (by decide)⟩
                  · show Steps p.tables e below (T520.setTop (mkF m 373 (LS_JsJsJsJsJsJsJsRIIIIIRRRI q0 q1 q2 q3 q4 q5 (36028797018963967 : Int64) b1 (((q5.toUInt64 >>> ((61 : Int32) &&& 0x3f).toInt64.toUInt64).toInt64).toInt32) fA fB (1 : Int32) (5 : Int32) b22 o69 b70 (0 : Int32)) [(.int (1 : Int32))])) _
                    exact retN X520 hx (t := .boolean) Bd.returns (by simp) (hb hby at_373) hr
                  · show Q0 Z q0 q1 q2 q3 q4 q5 h0 n0 _ T520.heap _
                    exact ⟨rfl, N520⟩
              · refine own_go (B := T87.setTop (mkF m 330 (LS_JsJsJsJsJsJsJsRIIIIIRRRu q0 q1 q2 q3 q4 q5 (36028797018963967 : Int64) b1 (((q5.toUInt64 >>> ((61 : Int32) &&& 0x3f).toInt64.toUInt64).toInt64).toInt32) fA fB (1 : Int32) (6 : Int32) b22 o69 b70) [])) (fun t k => by rw [hkf]; exact k) ?_
                have Vxj_v522 := Vxj_v75.keep K79 (ninS ne77 nin0)
                have Vxj_v523 := Vxj_v522.keep K87 (ninS ne77 nin0)
                obtain ⟨cl521, Ar521, qa521, Sa521, Na521, Ha521, Ga521⟩ := id Vxj_v523
                have hin524 : ¬ ((6 : Int32) < 0 ∨ cl521.slots.size ≤ ((6 : Int32)).toNatClampNeg) := inb_of Sa521 ⟨by decide, by decide⟩
                have hat524 : cl521.slots[((6 : Int32)).toNatClampNeg]? = some (.long x6) := Has.at Ha521 hin524 rfl
                refine own_go (B := T87.setTop (mkF m 342 (LS_JsJsJsJsJsJsJsRIIIIIRRRu q0 q1 q2 q3 q4 q5 (36028797018963967 : Int64) b1 (((q5.toUInt64 >>> ((61 : Int32) &&& 0x3f).toInt64.toUInt64).toInt64).toInt32) fA fB (1 : Int32) (6 : Int32) b22 o69 b70) [(.int (lcmpW x6 (0 : Int64)))])) (fun t k => ?_) ?_
                · refine XS.iload X87.here hx rfl (hb hby at_330) rfl ?_
                  refine XS.ifNo X87.here hx rfl (hb hby at_332) rfl ((if0 _ _).trans (feq (by decide : ¬ ((1 : Int32) = (0 : Int32)))).1) ?_
                  show Steps p.tables e below (T87.setTop (mkF m 335 (LS_JsJsJsJsJsJsJsRIIIIIRRRu q0 q1 q2 q3 q4 q5 (36028797018963967 : Int64) b1 (((q5.toUInt64 >>> ((61 : Int32) &&& 0x3f).toInt64.toUInt64).toInt64).toInt32) fA fB (1 : Int32) (6 : Int32) b22 o69 b70) [])) _
                  refine XS.aload X87.here hx rfl (hb hby at_335) rfl rfl ?_
                  refine XS.iload X87.here hx rfl (hb hby at_337) rfl ?_
                  refine X87.laload hx (j := (6 : Int32)) (v := (.long x6)) Ar521.1 (State.isArrayOf_alike hZ.alike Ar521.2.1) Ar521.2.2 hin524 hat524 (g := (mkF m 339 (LS_JsJsJsJsJsJsJsRIIIIIRRRu q0 q1 q2 q3 q4 q5 (36028797018963967 : Int64) b1 (((q5.toUInt64 >>> ((61 : Int32) &&& 0x3f).toInt64.toUInt64).toInt64).toInt32) fA fB (1 : Int32) (6 : Int32) b22 o69 b70) [(.int (6 : Int32)), (.ref b1)])) rfl rfl (hb hby at_339) _ ?_
                  show Steps p.tables e below (T87.setTop (mkF m 340 (LS_JsJsJsJsJsJsJsRIIIIIRRRu q0 q1 q2 q3 q4 q5 (36028797018963967 : Int64) b1 (((q5.toUInt64 >>> ((61 : Int32) &&& 0x3f).toInt64.toUInt64).toInt64).toInt32) fA fB (1 : Int32) (6 : Int32) b22 o69 b70) [(.long x6)])) _
                  refine XS.lconst X87.here hx rfl (hb hby at_340) ?_
                  refine XS.lcmp X87.here hx rfl (hb hby at_341) rfl ?_
                  exact k
                by_cases hc342_525 : x6 = (0 : Int64)
                · refine own_go (B := T87.setTop (mkF m 360 (LS_JsJsJsJsJsJsJsRIIIIIRRRI q0 q1 q2 q3 q4 q5 (36028797018963967 : Int64) b1 (((q5.toUInt64 >>> ((61 : Int32) &&& 0x3f).toInt64.toUInt64).toInt64).toInt32) fA fB (1 : Int32) (6 : Int32) b22 o69 b70 (1 : Int32)) [(.int (14 : Int32)), (.ref b70), (.int (7 : Int32)), (.ref b70)])) (fun t k => ?_) ?_
                  · refine XS.ifNo X87.here hx rfl (hb hby at_342) rfl ((if0 _ _).trans (teq ((lw_eq x6 (0 : Int64)).mpr hc342_525)).2) ?_
                    refine XS.iconst X87.here hx rfl (hb hby at_345) ?_
                    show Steps p.tables e below (T87.setTop (mkF m 346 (LS_JsJsJsJsJsJsJsRIIIIIRRRu q0 q1 q2 q3 q4 q5 (36028797018963967 : Int64) b1 (((q5.toUInt64 >>> ((61 : Int32) &&& 0x3f).toInt64.toUInt64).toInt64).toInt32) fA fB (1 : Int32) (6 : Int32) b22 o69 b70) [(.int (1 : Int32))])) _
                    refine XS.goto X87.here hx rfl (pc0 := 346) (pc' := 350) rfl (hb hby at_346) (by decide) (by decide) ?_
                    refine XS.istore X87.here hx rfl (hb hby at_350) rfl (l' := (LS_JsJsJsJsJsJsJsRIIIIIRRRI q0 q1 q2 q3 q4 q5 (36028797018963967 : Int64) b1 (((q5.toUInt64 >>> ((61 : Int32) &&& 0x3f).toInt64.toUInt64).toInt64).toInt32) fA fB (1 : Int32) (6 : Int32) b22 o69 b70 (1 : Int32))) rfl ?_
                    refine XS.aload X87.here hx rfl (hb hby at_352) rfl rfl ?_
                    show Steps p.tables e below (T87.setTop (mkF m 354 (LS_JsJsJsJsJsJsJsRIIIIIRRRI q0 q1 q2 q3 q4 q5 (36028797018963967 : Int64) b1 (((q5.toUInt64 >>> ((61 : Int32) &&& 0x3f).toInt64.toUInt64).toInt64).toInt32) fA fB (1 : Int32) (6 : Int32) b22 o69 b70 (1 : Int32)) [(.ref b70)])) _
                    refine XS.bipush X87.here hx rfl (hb hby at_354) ?_
                    refine XS.aload X87.here hx rfl (hb hby at_356) rfl rfl ?_
                    refine XS.bipush X87.here hx rfl (hb hby at_358) ?_
                    exact k
                  obtain ⟨cl526, Ar526, qa526, Sa526, Na526, Ha526, Ga526⟩ := id V87b
                  have hi526_0 : ¬ ((7 : Int32) < 0 ∨ cl526.slots.size ≤ ((7 : Int32)).toNatClampNeg) := inb_of Sa526 ⟨by decide, by decide⟩
                  have thi526_0 : cl526.slots[((7 : Int32)).toNatClampNeg]? = some (.long z79_0) := Has.at Ha526 hi526_0 rfl
                  have hi526_1 : ¬ (((7 : Int32) + (1 : Int32)) < 0 ∨ cl526.slots.size ≤ (((7 : Int32) + (1 : Int32))).toNatClampNeg) := inb_of Sa526 ⟨by decide, by decide⟩
                  have thi526_1 : cl526.slots[(((7 : Int32) + (1 : Int32))).toNatClampNeg]? = some (.long z79_1) := Has.at Ha526 hi526_1 rfl
                  have hi526_2 : ¬ (((7 : Int32) + (2 : Int32)) < 0 ∨ cl526.slots.size ≤ (((7 : Int32) + (2 : Int32))).toNatClampNeg) := inb_of Sa526 ⟨by decide, by decide⟩
                  have thi526_2 : cl526.slots[(((7 : Int32) + (2 : Int32))).toNatClampNeg]? = some (.long z79_2) := Has.at Ha526 hi526_2 rfl
                  have hi526_3 : ¬ (((7 : Int32) + (3 : Int32)) < 0 ∨ cl526.slots.size ≤ (((7 : Int32) + (3 : Int32))).toNatClampNeg) := inb_of Sa526 ⟨by decide, by decide⟩
                  have thi526_3 : cl526.slots[(((7 : Int32) + (3 : Int32))).toNatClampNeg]? = some (.long z79_3) := Has.at Ha526 hi526_3 rfl
                  have hi526_4 : ¬ (((7 : Int32) + (4 : Int32)) < 0 ∨ cl526.slots.size ≤ (((7 : Int32) + (4 : Int32))).toNatClampNeg) := inb_of Sa526 ⟨by decide, by decide⟩
                  have thi526_4 : cl526.slots[(((7 : Int32) + (4 : Int32))).toNatClampNeg]? = some (.long z79_4) := Has.at Ha526 hi526_4 rfl
                  have hi526_5 : ¬ (((7 : Int32) + (5 : Int32)) < 0 ∨ cl526.slots.size ≤ (((7 : Int32) + (5 : Int32))).toNatClampNeg) := inb_of Sa526 ⟨by decide, by decide⟩
                  have thi526_5 : cl526.slots[(((7 : Int32) + (5 : Int32))).toNatClampNeg]? = some (.long z79_5) := Has.at Ha526 hi526_5 rfl
                  have hi526_6 : ¬ (((7 : Int32) + (6 : Int32)) < 0 ∨ cl526.slots.size ≤ (((7 : Int32) + (6 : Int32))).toNatClampNeg) := inb_of Sa526 ⟨by decide, by decide⟩
                  have thi526_6 : cl526.slots[(((7 : Int32) + (6 : Int32))).toNatClampNeg]? = some (.long z79_6) := Has.at Ha526 hi526_6 rfl
                  have gi526_0 : ¬ ((14 : Int32) < 0 ∨ cl526.slots.size ≤ ((14 : Int32)).toNatClampNeg) := inb_of Sa526 ⟨by decide, by decide⟩
                  have tgi526_0 : cl526.slots[((14 : Int32)).toNatClampNeg]? = some (.long z87_0) := Has.at Ha526 gi526_0 rfl
                  have gi526_1 : ¬ (((14 : Int32) + (1 : Int32)) < 0 ∨ cl526.slots.size ≤ (((14 : Int32) + (1 : Int32))).toNatClampNeg) := inb_of Sa526 ⟨by decide, by decide⟩
                  have tgi526_1 : cl526.slots[(((14 : Int32) + (1 : Int32))).toNatClampNeg]? = some (.long z87_1) := Has.at Ha526 gi526_1 rfl
                  have gi526_2 : ¬ (((14 : Int32) + (2 : Int32)) < 0 ∨ cl526.slots.size ≤ (((14 : Int32) + (2 : Int32))).toNatClampNeg) := inb_of Sa526 ⟨by decide, by decide⟩
                  have tgi526_2 : cl526.slots[(((14 : Int32) + (2 : Int32))).toNatClampNeg]? = some (.long z87_2) := Has.at Ha526 gi526_2 rfl
                  have gi526_3 : ¬ (((14 : Int32) + (3 : Int32)) < 0 ∨ cl526.slots.size ≤ (((14 : Int32) + (3 : Int32))).toNatClampNeg) := inb_of Sa526 ⟨by decide, by decide⟩
                  have tgi526_3 : cl526.slots[(((14 : Int32) + (3 : Int32))).toNatClampNeg]? = some (.long z87_3) := Has.at Ha526 gi526_3 rfl
                  have gi526_4 : ¬ (((14 : Int32) + (4 : Int32)) < 0 ∨ cl526.slots.size ≤ (((14 : Int32) + (4 : Int32))).toNatClampNeg) := inb_of Sa526 ⟨by decide, by decide⟩
                  have tgi526_4 : cl526.slots[(((14 : Int32) + (4 : Int32))).toNatClampNeg]? = some (.long z87_4) := Has.at Ha526 gi526_4 rfl
                  have gi526_5 : ¬ (((14 : Int32) + (5 : Int32)) < 0 ∨ cl526.slots.size ≤ (((14 : Int32) + (5 : Int32))).toNatClampNeg) := inb_of Sa526 ⟨by decide, by decide⟩
                  have tgi526_5 : cl526.slots[(((14 : Int32) + (5 : Int32))).toNatClampNeg]? = some (.long z87_5) := Has.at Ha526 gi526_5 rfl
                  have gi526_6 : ¬ (((14 : Int32) + (6 : Int32)) < 0 ∨ cl526.slots.size ≤ (((14 : Int32) + (6 : Int32))).toNatClampNeg) := inb_of Sa526 ⟨by decide, by decide⟩
                  have tgi526_6 : cl526.slots[(((14 : Int32) + (6 : Int32))).toNatClampNeg]? = some (.long z87_6) := Has.at Ha526 gi526_6 rfl
                  have Zj_v527 := Nat.le_trans Zj_v81 K87.1
                  have Sj0_v528 := own_sta_keep Sj0 K69 all0
                  have Sj0_v529 := Sj0_v528.ext E70
                  have Sj0_v530 := own_sta_keep Sj0_v529 K79 (allS (own_plain_V V70) all0)
                  have Sj0_v531 := own_sta_keep Sj0_v530 K87 (allS (own_plain_V V79b) all0)
                  have Sj1_v532 := own_sta_keep Sj1 K69 all0
                  have Sj1_v533 := Sj1_v532.ext E70
                  have Sj1_v534 := own_sta_keep Sj1_v533 K79 (allS (own_plain_V V70) all0)
                  have Sj1_v535 := own_sta_keep Sj1_v534 K87 (allS (own_plain_V V79b) all0)
                  have Sj2_v536 := own_sta_keep Sj2 K69 all0
                  have Sj2_v537 := Sj2_v536.ext E70
                  have Sj2_v538 := own_sta_keep Sj2_v537 K79 (allS (own_plain_V V70) all0)
                  have Sj2_v539 := own_sta_keep Sj2_v538 K87 (allS (own_plain_V V79b) all0)
                  have Sj3_v540 := own_sta_keep Sj3 K69 all0
                  have Sj3_v541 := Sj3_v540.ext E70
                  have Sj3_v542 := own_sta_keep Sj3_v541 K79 (allS (own_plain_V V70) all0)
                  have Sj3_v543 := own_sta_keep Sj3_v542 K87 (allS (own_plain_V V79b) all0)
                  have Sj4_v544 := own_sta_keep Sj4 K69 all0
                  have Sj4_v545 := Sj4_v544.ext E70
                  have Sj4_v546 := own_sta_keep Sj4_v545 K79 (allS (own_plain_V V70) all0)
                  have Sj4_v547 := own_sta_keep Sj4_v546 K87 (allS (own_plain_V V79b) all0)
                  have Sj5_v548 := own_sta_keep Sj5 K69 all0
                  have Sj5_v549 := Sj5_v548.ext E70
                  have Sj5_v550 := own_sta_keep Sj5_v549 K79 (allS (own_plain_V V70) all0)
                  have Sj5_v551 := own_sta_keep Sj5_v550 K87 (allS (own_plain_V V79b) all0)
                  have Sj6_v552 := own_sta_keep Sj6 K69 all0
                  have Sj6_v553 := Sj6_v552.ext E70
                  have Sj6_v554 := own_sta_keep Sj6_v553 K79 (allS (own_plain_V V70) all0)
                  have Sj6_v555 := own_sta_keep Sj6_v554 K87 (allS (own_plain_V V79b) all0)
                  obtain ⟨_, _, ⟨T556, L556, k556, n556⟩, -, X556, ⟨Lc556, hQ556, l556, y556, z556⟩, st556⟩ := Jvm.LawKit.callS X87 hx (y := (⟨"com/example/barred_rows/barredrows/crypto/Fp", "equal", "([JI[JI)Z"⟩ : MethodName)) hown (mvT hZ (hw _ (List.mem_of_getElem? (i := 20) rfl))) (mvT hZ (hw _ (List.mem_of_getElem? (i := 21) rfl))) (mvT hZ (hw _ (List.mem_of_getElem? (i := 22) rfl))) (mvT hZ (hw _ (List.mem_of_getElem? (i := 23) rfl))) (by decide) (backOf (W := 0) (rm4 l Z a0 hw [] b70 (7 : Int32) (14 : Int32) cl526 z79_0 z79_1 z79_2 z79_3 z79_4 z79_5 z79_6 z87_0 z87_1 z87_2 z87_3 z87_4 z87_5 z87_6 T87.heap n0 Zj_v527 Ar526 hi526_0 hi526_1 hi526_2 hi526_3 hi526_4 hi526_5 hi526_6 thi526_0 thi526_1 thi526_2 thi526_3 thi526_4 thi526_5 thi526_6 gi526_0 gi526_1 gi526_2 gi526_3 gi526_4 gi526_5 gi526_6 tgi526_0 tgi526_1 tgi526_2 tgi526_3 tgi526_4 tgi526_5 tgi526_6 Sj0_v531 Sj1_v535 Sj2_v539 Sj3_v543 Sj4_v547 Sj5_v551 Sj6_v555) hZ (hw _ (List.mem_of_getElem? (i := 23) rfl)) (hw _ (List.mem_of_getElem? (i := 22) rfl)) (by decide) (by decide)) (g := (mkF m 360 (LS_JsJsJsJsJsJsJsRIIIIIRRRI q0 q1 q2 q3 q4 q5 (36028797018963967 : Int64) b1 (((q5.toUInt64 >>> ((61 : Int32) &&& 0x3f).toInt64.toUInt64).toInt64).toInt32) fA fB (1 : Int32) (6 : Int32) b22 o69 b70 (1 : Int32)) [(.int (14 : Int32)), (.ref b70), (.int (7 : Int32)), (.ref b70)])) rfl (by rw [hml]; rfl) (argsL := [(.ref b70), (.int (7 : Int32)), (.ref b70), (.int (14 : Int32))]) (rest := []) (lenOf pd___JI_JI_Z rfl) rfl (by show 2 * 0 + _ ≤ _; exact Nat.le_of_eq rfl) (hb hby at_360) (fun _ _ => ⟨rfl, rfl, (by decide : 4 + 2 ≤ _), (by decide : 42 + 14 ≤ _)⟩)
                  dsimp only [Pt.U, Pt.locs, Pt.cells, Pt.slots] at X556 l556 y556 z556 st556 hQ556
                  subst l556 y556 z556
                  obtain ⟨rfl, N556q⟩ := hQ556
                  have N556 := Fr.app N87 N556q
                  refine own_go (B := T556.setTop (mkF m 363 (LS_JsJsJsJsJsJsJsRIIIIIRRRI q0 q1 q2 q3 q4 q5 (36028797018963967 : Int64) b1 (((q5.toUInt64 >>> ((61 : Int32) &&& 0x3f).toInt64.toUInt64).toInt64).toInt32) fA fB (1 : Int32) (6 : Int32) b22 o69 b70 (1 : Int32)) [(.int (if ((((((((own_c0 z79_0 z79_1 z79_2 z79_3 z79_4 z79_5 z79_6) ^^^ (own_c0 z87_0 z87_1 z87_2 z87_3 z87_4 z87_5 z87_6)) ||| ((own_c1 z79_0 z79_1 z79_2 z79_3 z79_4 z79_5 z79_6) ^^^ (own_c1 z87_0 z87_1 z87_2 z87_3 z87_4 z87_5 z87_6))) ||| ((own_c2 z79_0 z79_1 z79_2 z79_3 z79_4 z79_5 z79_6) ^^^ (own_c2 z87_0 z87_1 z87_2 z87_3 z87_4 z87_5 z87_6))) ||| ((own_c3 z79_0 z79_1 z79_2 z79_3 z79_4 z79_5 z79_6) ^^^ (own_c3 z87_0 z87_1 z87_2 z87_3 z87_4 z87_5 z87_6))) ||| ((own_c4 z79_0 z79_1 z79_2 z79_3 z79_4 z79_5 z79_6) ^^^ (own_c4 z87_0 z87_1 z87_2 z87_3 z87_4 z87_5 z87_6))) ||| ((own_c5 z79_0 z79_1 z79_2 z79_3 z79_4 z79_5 z79_6) ^^^ (own_c5 z87_0 z87_1 z87_2 z87_3 z87_4 z87_5 z87_6))) ||| ((own_c6 z79_0 z79_1 z79_2 z79_3 z79_4 z79_5 z79_6) ^^^ (own_c6 z87_0 z87_1 z87_2 z87_3 z87_4 z87_5 z87_6))) = (0 : Int64) then (1 : Int32) else (0 : Int32)))])) (fun t k => st556 _ k) ?_
                  rw [c79_0, c79_1, c79_2, c79_3, c79_4, c79_5, c79_6, c87_0, c87_1, c87_2, c87_3, c87_4, c87_5, c87_6]
                  refine own_go (B := T556.setTop (mkF m 373 (LS_JsJsJsJsJsJsJsRIIIIIRRRI q0 q1 q2 q3 q4 q5 (36028797018963967 : Int64) b1 (((q5.toUInt64 >>> ((61 : Int32) &&& 0x3f).toInt64.toUInt64).toInt64).toInt32) fA fB (1 : Int32) (6 : Int32) b22 o69 b70 (1 : Int32)) [(.int (1 : Int32))])) (fun t k => ?_) ?_
                  · refine XS.iload X556.here hx rfl (hb hby at_363) rfl ?_
                    refine XS.icmpNo X556.here hx rfl (hb hby at_365) rfl (teq (if_pos ((own_eq6 bx0 bx1 bx2 bx3 bx4 bx5 bx6).mpr hc342_525))).2 ?_
                    show Steps p.tables e below (T556.setTop (mkF m 368 (LS_JsJsJsJsJsJsJsRIIIIIRRRI q0 q1 q2 q3 q4 q5 (36028797018963967 : Int64) b1 (((q5.toUInt64 >>> ((61 : Int32) &&& 0x3f).toInt64.toUInt64).toInt64).toInt32) fA fB (1 : Int32) (6 : Int32) b22 o69 b70 (1 : Int32)) [])) _
                    refine XS.iconst X556.here hx rfl (hb hby at_368) ?_
                    refine XS.goto X556.here hx rfl (pc0 := 369) (pc' := 373) rfl (hb hby at_369) (by decide) (by decide) ?_
                    exact k
                  obtain ⟨fs, hr, hrun, hended, hW, hsame⟩ := X556.leave (v := some (.int (1 : Int32))) (fun h => by rw [Bd.returns] at h; cases h)
                  refine ⟨_, _, ?_, hrun, hended, _, _, rfl, ?_, ⟨_, rfl⟩, hW, hsame.mono (by decide) (by decide)⟩
                  · show Steps p.tables e below (T556.setTop (mkF m 373 (LS_JsJsJsJsJsJsJsRIIIIIRRRI q0 q1 q2 q3 q4 q5 (36028797018963967 : Int64) b1 (((q5.toUInt64 >>> ((61 : Int32) &&& 0x3f).toInt64.toUInt64).toInt64).toInt32) fA fB (1 : Int32) (6 : Int32) b22 o69 b70 (1 : Int32)) [(.int (1 : Int32))])) _
                    exact retN X556 hx (t := .boolean) Bd.returns (by simp) (hb hby at_373) hr
                  · show Q0 Z q0 q1 q2 q3 q4 q5 h0 n0 _ T556.heap _
                    exact ⟨rfl, N556⟩
                · refine own_go (B := T87.setTop (mkF m 360 (LS_JsJsJsJsJsJsJsRIIIIIRRRI q0 q1 q2 q3 q4 q5 (36028797018963967 : Int64) b1 (((q5.toUInt64 >>> ((61 : Int32) &&& 0x3f).toInt64.toUInt64).toInt64).toInt32) fA fB (1 : Int32) (6 : Int32) b22 o69 b70 (0 : Int32)) [(.int (14 : Int32)), (.ref b70), (.int (7 : Int32)), (.ref b70)])) (fun t k => ?_) ?_
                  · refine XS.ifYes X87.here hx rfl (pc0 := 342) (pc' := 349) rfl (hb hby at_342) rfl ((if0 _ _).trans (feq (fun q => hc342_525 ((lw_eq x6 (0 : Int64)).mp q))).2) (by decide) (by decide) ?_
                    refine XS.iconst X87.here hx rfl (hb hby at_349) ?_
                    show Steps p.tables e below (T87.setTop (mkF m 350 (LS_JsJsJsJsJsJsJsRIIIIIRRRu q0 q1 q2 q3 q4 q5 (36028797018963967 : Int64) b1 (((q5.toUInt64 >>> ((61 : Int32) &&& 0x3f).toInt64.toUInt64).toInt64).toInt32) fA fB (1 : Int32) (6 : Int32) b22 o69 b70) [(.int (0 : Int32))])) _
                    refine XS.istore X87.here hx rfl (hb hby at_350) rfl (l' := (LS_JsJsJsJsJsJsJsRIIIIIRRRI q0 q1 q2 q3 q4 q5 (36028797018963967 : Int64) b1 (((q5.toUInt64 >>> ((61 : Int32) &&& 0x3f).toInt64.toUInt64).toInt64).toInt32) fA fB (1 : Int32) (6 : Int32) b22 o69 b70 (0 : Int32))) rfl ?_
                    refine XS.aload X87.here hx rfl (hb hby at_352) rfl rfl ?_
                    refine XS.bipush X87.here hx rfl (hb hby at_354) ?_
                    show Steps p.tables e below (T87.setTop (mkF m 356 (LS_JsJsJsJsJsJsJsRIIIIIRRRI q0 q1 q2 q3 q4 q5 (36028797018963967 : Int64) b1 (((q5.toUInt64 >>> ((61 : Int32) &&& 0x3f).toInt64.toUInt64).toInt64).toInt32) fA fB (1 : Int32) (6 : Int32) b22 o69 b70 (0 : Int32)) [(.int (7 : Int32)), (.ref b70)])) _
                    refine XS.aload X87.here hx rfl (hb hby at_356) rfl rfl ?_
                    refine XS.bipush X87.here hx rfl (hb hby at_358) ?_
                    exact k
                  obtain ⟨cl557, Ar557, qa557, Sa557, Na557, Ha557, Ga557⟩ := id V87b
                  have hi557_0 : ¬ ((7 : Int32) < 0 ∨ cl557.slots.size ≤ ((7 : Int32)).toNatClampNeg) := inb_of Sa557 ⟨by decide, by decide⟩
                  have thi557_0 : cl557.slots[((7 : Int32)).toNatClampNeg]? = some (.long z79_0) := Has.at Ha557 hi557_0 rfl
                  have hi557_1 : ¬ (((7 : Int32) + (1 : Int32)) < 0 ∨ cl557.slots.size ≤ (((7 : Int32) + (1 : Int32))).toNatClampNeg) := inb_of Sa557 ⟨by decide, by decide⟩
                  have thi557_1 : cl557.slots[(((7 : Int32) + (1 : Int32))).toNatClampNeg]? = some (.long z79_1) := Has.at Ha557 hi557_1 rfl
                  have hi557_2 : ¬ (((7 : Int32) + (2 : Int32)) < 0 ∨ cl557.slots.size ≤ (((7 : Int32) + (2 : Int32))).toNatClampNeg) := inb_of Sa557 ⟨by decide, by decide⟩
                  have thi557_2 : cl557.slots[(((7 : Int32) + (2 : Int32))).toNatClampNeg]? = some (.long z79_2) := Has.at Ha557 hi557_2 rfl
                  have hi557_3 : ¬ (((7 : Int32) + (3 : Int32)) < 0 ∨ cl557.slots.size ≤ (((7 : Int32) + (3 : Int32))).toNatClampNeg) := inb_of Sa557 ⟨by decide, by decide⟩
                  have thi557_3 : cl557.slots[(((7 : Int32) + (3 : Int32))).toNatClampNeg]? = some (.long z79_3) := Has.at Ha557 hi557_3 rfl
                  have hi557_4 : ¬ (((7 : Int32) + (4 : Int32)) < 0 ∨ cl557.slots.size ≤ (((7 : Int32) + (4 : Int32))).toNatClampNeg) := inb_of Sa557 ⟨by decide, by decide⟩
                  have thi557_4 : cl557.slots[(((7 : Int32) + (4 : Int32))).toNatClampNeg]? = some (.long z79_4) := Has.at Ha557 hi557_4 rfl
                  have hi557_5 : ¬ (((7 : Int32) + (5 : Int32)) < 0 ∨ cl557.slots.size ≤ (((7 : Int32) + (5 : Int32))).toNatClampNeg) := inb_of Sa557 ⟨by decide, by decide⟩
                  have thi557_5 : cl557.slots[(((7 : Int32) + (5 : Int32))).toNatClampNeg]? = some (.long z79_5) := Has.at Ha557 hi557_5 rfl
                  have hi557_6 : ¬ (((7 : Int32) + (6 : Int32)) < 0 ∨ cl557.slots.size ≤ (((7 : Int32) + (6 : Int32))).toNatClampNeg) := inb_of Sa557 ⟨by decide, by decide⟩
                  have thi557_6 : cl557.slots[(((7 : Int32) + (6 : Int32))).toNatClampNeg]? = some (.long z79_6) := Has.at Ha557 hi557_6 rfl
                  have gi557_0 : ¬ ((14 : Int32) < 0 ∨ cl557.slots.size ≤ ((14 : Int32)).toNatClampNeg) := inb_of Sa557 ⟨by decide, by decide⟩
                  have tgi557_0 : cl557.slots[((14 : Int32)).toNatClampNeg]? = some (.long z87_0) := Has.at Ha557 gi557_0 rfl
                  have gi557_1 : ¬ (((14 : Int32) + (1 : Int32)) < 0 ∨ cl557.slots.size ≤ (((14 : Int32) + (1 : Int32))).toNatClampNeg) := inb_of Sa557 ⟨by decide, by decide⟩
                  have tgi557_1 : cl557.slots[(((14 : Int32) + (1 : Int32))).toNatClampNeg]? = some (.long z87_1) := Has.at Ha557 gi557_1 rfl
                  have gi557_2 : ¬ (((14 : Int32) + (2 : Int32)) < 0 ∨ cl557.slots.size ≤ (((14 : Int32) + (2 : Int32))).toNatClampNeg) := inb_of Sa557 ⟨by decide, by decide⟩
                  have tgi557_2 : cl557.slots[(((14 : Int32) + (2 : Int32))).toNatClampNeg]? = some (.long z87_2) := Has.at Ha557 gi557_2 rfl
                  have gi557_3 : ¬ (((14 : Int32) + (3 : Int32)) < 0 ∨ cl557.slots.size ≤ (((14 : Int32) + (3 : Int32))).toNatClampNeg) := inb_of Sa557 ⟨by decide, by decide⟩
                  have tgi557_3 : cl557.slots[(((14 : Int32) + (3 : Int32))).toNatClampNeg]? = some (.long z87_3) := Has.at Ha557 gi557_3 rfl
                  have gi557_4 : ¬ (((14 : Int32) + (4 : Int32)) < 0 ∨ cl557.slots.size ≤ (((14 : Int32) + (4 : Int32))).toNatClampNeg) := inb_of Sa557 ⟨by decide, by decide⟩
                  have tgi557_4 : cl557.slots[(((14 : Int32) + (4 : Int32))).toNatClampNeg]? = some (.long z87_4) := Has.at Ha557 gi557_4 rfl
                  have gi557_5 : ¬ (((14 : Int32) + (5 : Int32)) < 0 ∨ cl557.slots.size ≤ (((14 : Int32) + (5 : Int32))).toNatClampNeg) := inb_of Sa557 ⟨by decide, by decide⟩
                  have tgi557_5 : cl557.slots[(((14 : Int32) + (5 : Int32))).toNatClampNeg]? = some (.long z87_5) := Has.at Ha557 gi557_5 rfl
                  have gi557_6 : ¬ (((14 : Int32) + (6 : Int32)) < 0 ∨ cl557.slots.size ≤ (((14 : Int32) + (6 : Int32))).toNatClampNeg) := inb_of Sa557 ⟨by decide, by decide⟩
                  have tgi557_6 : cl557.slots[(((14 : Int32) + (6 : Int32))).toNatClampNeg]? = some (.long z87_6) := Has.at Ha557 gi557_6 rfl
                  have Zj_v558 := Nat.le_trans Zj_v81 K87.1
                  have Sj0_v559 := own_sta_keep Sj0 K69 all0
                  have Sj0_v560 := Sj0_v559.ext E70
                  have Sj0_v561 := own_sta_keep Sj0_v560 K79 (allS (own_plain_V V70) all0)
                  have Sj0_v562 := own_sta_keep Sj0_v561 K87 (allS (own_plain_V V79b) all0)
                  have Sj1_v563 := own_sta_keep Sj1 K69 all0
                  have Sj1_v564 := Sj1_v563.ext E70
                  have Sj1_v565 := own_sta_keep Sj1_v564 K79 (allS (own_plain_V V70) all0)
                  have Sj1_v566 := own_sta_keep Sj1_v565 K87 (allS (own_plain_V V79b) all0)
                  have Sj2_v567 := own_sta_keep Sj2 K69 all0
                  have Sj2_v568 := Sj2_v567.ext E70
                  have Sj2_v569 := own_sta_keep Sj2_v568 K79 (allS (own_plain_V V70) all0)
                  have Sj2_v570 := own_sta_keep Sj2_v569 K87 (allS (own_plain_V V79b) all0)
                  have Sj3_v571 := own_sta_keep Sj3 K69 all0
                  have Sj3_v572 := Sj3_v571.ext E70
                  have Sj3_v573 := own_sta_keep Sj3_v572 K79 (allS (own_plain_V V70) all0)
                  have Sj3_v574 := own_sta_keep Sj3_v573 K87 (allS (own_plain_V V79b) all0)
                  have Sj4_v575 := own_sta_keep Sj4 K69 all0
                  have Sj4_v576 := Sj4_v575.ext E70
                  have Sj4_v577 := own_sta_keep Sj4_v576 K79 (allS (own_plain_V V70) all0)
                  have Sj4_v578 := own_sta_keep Sj4_v577 K87 (allS (own_plain_V V79b) all0)
                  have Sj5_v579 := own_sta_keep Sj5 K69 all0
                  have Sj5_v580 := Sj5_v579.ext E70
                  have Sj5_v581 := own_sta_keep Sj5_v580 K79 (allS (own_plain_V V70) all0)
                  have Sj5_v582 := own_sta_keep Sj5_v581 K87 (allS (own_plain_V V79b) all0)
                  have Sj6_v583 := own_sta_keep Sj6 K69 all0
                  have Sj6_v584 := Sj6_v583.ext E70
                  have Sj6_v585 := own_sta_keep Sj6_v584 K79 (allS (own_plain_V V70) all0)
                  have Sj6_v586 := own_sta_keep Sj6_v585 K87 (allS (own_plain_V V79b) all0)
                  obtain ⟨_, _, ⟨T587, L587, k587, n587⟩, -, X587, ⟨Lc587, hQ587, l587, y587, z587⟩, st587⟩ := Jvm.LawKit.callS X87 hx (y := (⟨"com/example/barred_rows/barredrows/crypto/Fp", "equal", "([JI[JI)Z"⟩ : MethodName)) hown (mvT hZ (hw _ (List.mem_of_getElem? (i := 20) rfl))) (mvT hZ (hw _ (List.mem_of_getElem? (i := 21) rfl))) (mvT hZ (hw _ (List.mem_of_getElem? (i := 22) rfl))) (mvT hZ (hw _ (List.mem_of_getElem? (i := 23) rfl))) (by decide) (backOf (W := 0) (rm4 l Z a0 hw [] b70 (7 : Int32) (14 : Int32) cl557 z79_0 z79_1 z79_2 z79_3 z79_4 z79_5 z79_6 z87_0 z87_1 z87_2 z87_3 z87_4 z87_5 z87_6 T87.heap n0 Zj_v558 Ar557 hi557_0 hi557_1 hi557_2 hi557_3 hi557_4 hi557_5 hi557_6 thi557_0 thi557_1 thi557_2 thi557_3 thi557_4 thi557_5 thi557_6 gi557_0 gi557_1 gi557_2 gi557_3 gi557_4 gi557_5 gi557_6 tgi557_0 tgi557_1 tgi557_2 tgi557_3 tgi557_4 tgi557_5 tgi557_6 Sj0_v562 Sj1_v566 Sj2_v570 Sj3_v574 Sj4_v578 Sj5_v582 Sj6_v586) hZ (hw _ (List.mem_of_getElem? (i := 23) rfl)) (hw _ (List.mem_of_getElem? (i := 22) rfl)) (by decide) (by decide)) (g := (mkF m 360 (LS_JsJsJsJsJsJsJsRIIIIIRRRI q0 q1 q2 q3 q4 q5 (36028797018963967 : Int64) b1 (((q5.toUInt64 >>> ((61 : Int32) &&& 0x3f).toInt64.toUInt64).toInt64).toInt32) fA fB (1 : Int32) (6 : Int32) b22 o69 b70 (0 : Int32)) [(.int (14 : Int32)), (.ref b70), (.int (7 : Int32)), (.ref b70)])) rfl (by rw [hml]; rfl) (argsL := [(.ref b70), (.int (7 : Int32)), (.ref b70), (.int (14 : Int32))]) (rest := []) (lenOf pd___JI_JI_Z rfl) rfl (by show 2 * 0 + _ ≤ _; exact Nat.le_of_eq rfl) (hb hby at_360) (fun _ _ => ⟨rfl, rfl, (by decide : 4 + 2 ≤ _), (by decide : 42 + 14 ≤ _)⟩)
                  dsimp only [Pt.U, Pt.locs, Pt.cells, Pt.slots] at X587 l587 y587 z587 st587 hQ587
                  subst l587 y587 z587
                  obtain ⟨rfl, N587q⟩ := hQ587
                  have N587 := Fr.app N87 N587q
                  refine own_go (B := T587.setTop (mkF m 363 (LS_JsJsJsJsJsJsJsRIIIIIRRRI q0 q1 q2 q3 q4 q5 (36028797018963967 : Int64) b1 (((q5.toUInt64 >>> ((61 : Int32) &&& 0x3f).toInt64.toUInt64).toInt64).toInt32) fA fB (1 : Int32) (6 : Int32) b22 o69 b70 (0 : Int32)) [(.int (if ((((((((own_c0 z79_0 z79_1 z79_2 z79_3 z79_4 z79_5 z79_6) ^^^ (own_c0 z87_0 z87_1 z87_2 z87_3 z87_4 z87_5 z87_6)) ||| ((own_c1 z79_0 z79_1 z79_2 z79_3 z79_4 z79_5 z79_6) ^^^ (own_c1 z87_0 z87_1 z87_2 z87_3 z87_4 z87_5 z87_6))) ||| ((own_c2 z79_0 z79_1 z79_2 z79_3 z79_4 z79_5 z79_6) ^^^ (own_c2 z87_0 z87_1 z87_2 z87_3 z87_4 z87_5 z87_6))) ||| ((own_c3 z79_0 z79_1 z79_2 z79_3 z79_4 z79_5 z79_6) ^^^ (own_c3 z87_0 z87_1 z87_2 z87_3 z87_4 z87_5 z87_6))) ||| ((own_c4 z79_0 z79_1 z79_2 z79_3 z79_4 z79_5 z79_6) ^^^ (own_c4 z87_0 z87_1 z87_2 z87_3 z87_4 z87_5 z87_6))) ||| ((own_c5 z79_0 z79_1 z79_2 z79_3 z79_4 z79_5 z79_6) ^^^ (own_c5 z87_0 z87_1 z87_2 z87_3 z87_4 z87_5 z87_6))) ||| ((own_c6 z79_0 z79_1 z79_2 z79_3 z79_4 z79_5 z79_6) ^^^ (own_c6 z87_0 z87_1 z87_2 z87_3 z87_4 z87_5 z87_6))) = (0 : Int64) then (1 : Int32) else (0 : Int32)))])) (fun t k => st587 _ k) ?_
                  rw [c79_0, c79_1, c79_2, c79_3, c79_4, c79_5, c79_6, c87_0, c87_1, c87_2, c87_3, c87_4, c87_5, c87_6]
                  refine own_go (B := T587.setTop (mkF m 373 (LS_JsJsJsJsJsJsJsRIIIIIRRRI q0 q1 q2 q3 q4 q5 (36028797018963967 : Int64) b1 (((q5.toUInt64 >>> ((61 : Int32) &&& 0x3f).toInt64.toUInt64).toInt64).toInt32) fA fB (1 : Int32) (6 : Int32) b22 o69 b70 (0 : Int32)) [(.int (1 : Int32))])) (fun t k => ?_) ?_
                  · refine XS.iload X587.here hx rfl (hb hby at_363) rfl ?_
                    refine XS.icmpNo X587.here hx rfl (hb hby at_365) rfl (teq (if_neg fun q => hc342_525 ((own_eq6 bx0 bx1 bx2 bx3 bx4 bx5 bx6).mp q))).2 ?_
                    show Steps p.tables e below (T587.setTop (mkF m 368 (LS_JsJsJsJsJsJsJsRIIIIIRRRI q0 q1 q2 q3 q4 q5 (36028797018963967 : Int64) b1 (((q5.toUInt64 >>> ((61 : Int32) &&& 0x3f).toInt64.toUInt64).toInt64).toInt32) fA fB (1 : Int32) (6 : Int32) b22 o69 b70 (0 : Int32)) [])) _
                    refine XS.iconst X587.here hx rfl (hb hby at_368) ?_
                    refine XS.goto X587.here hx rfl (pc0 := 369) (pc' := 373) rfl (hb hby at_369) (by decide) (by decide) ?_
                    exact k
                  obtain ⟨fs, hr, hrun, hended, hW, hsame⟩ := X587.leave (v := some (.int (1 : Int32))) (fun h => by rw [Bd.returns] at h; cases h)
                  refine ⟨_, _, ?_, hrun, hended, _, _, rfl, ?_, ⟨_, rfl⟩, hW, hsame.mono (by decide) (by decide)⟩
                  · show Steps p.tables e below (T587.setTop (mkF m 373 (LS_JsJsJsJsJsJsJsRIIIIIRRRI q0 q1 q2 q3 q4 q5 (36028797018963967 : Int64) b1 (((q5.toUInt64 >>> ((61 : Int32) &&& 0x3f).toInt64.toUInt64).toInt64).toInt32) fA fB (1 : Int32) (6 : Int32) b22 o69 b70 (0 : Int32)) [(.int (1 : Int32))])) _
                    exact retN X587 hx (t := .boolean) Bd.returns (by simp) (hb hby at_373) hr
                  · show Q0 Z q0 q1 q2 q3 q4 q5 h0 n0 _ T587.heap _
                    exact ⟨rfl, N587⟩
            · intro rest80
              refine own_go (B := T79.setTop (mkF m 309 (LS_JsJsJsJsJsJsJsRIIIIIRRRu q0 q1 q2 q3 q4 q5 (36028797018963967 : Int64) b1 (((q5.toUInt64 >>> ((61 : Int32) &&& 0x3f).toInt64.toUInt64).toInt64).toInt32) fA fB fP z21 b22 o69 b70) [(.int fB), (.ref o69), (.ref b22), (.int (14 : Int32)), (.ref b70)])) (fun t k => ?_) ?_
              · refine XS.iload X79.here hx rfl (hb hby at_307) rfl ?_
                exact k
              by_cases hc309_588 : fB = (0 : Int32)
              · refine own_go (B := T79.setTop (mkF m 327 (LS_JsJsJsJsJsJsJsRIIIIIRRRu q0 q1 q2 q3 q4 q5 (36028797018963967 : Int64) b1 (((q5.toUInt64 >>> ((61 : Int32) &&& 0x3f).toInt64.toUInt64).toInt64).toInt32) fA fB fP z21 b22 o69 b70) [(.int (0 : Int32)), (.ref o69), (.ref b22), (.int (14 : Int32)), (.ref b70)])) (fun t k => ?_) ?_
                · refine XS.ifYes X79.here hx rfl (pc0 := 309) (pc' := 326) rfl (hb hby at_309) rfl ((if0 _ _).trans (teq hc309_588).1) (by decide) (by decide) ?_
                  refine XS.iconst X79.here hx rfl (hb hby at_326) ?_
                  exact k
                exact rest80 (0 : Int32) _ _ (own_mono X79 (by decide) (by decide)) N79 ⟨rfl, Or.inl rfl⟩
              · refine own_go (B := T79.setTop (mkF m 316 (LS_JsJsJsJsJsJsJsRIIIIIRRRu q0 q1 q2 q3 q4 q5 (36028797018963967 : Int64) b1 (((q5.toUInt64 >>> ((61 : Int32) &&& 0x3f).toInt64.toUInt64).toInt64).toInt32) fA fB fP z21 b22 o69 b70) [(.ref o69), (.ref b22), (.ref o69), (.ref b22), (.int (14 : Int32)), (.ref b70)])) (fun t k => ?_) ?_
                · refine XS.ifNo X79.here hx rfl (hb hby at_309) rfl ((if0 _ _).trans (feq hc309_588).1) ?_
                  refine XS.aload X79.here hx rfl (hb hby at_312) rfl rfl ?_
                  show Steps p.tables e below (T79.setTop (mkF m 314 (LS_JsJsJsJsJsJsJsRIIIIIRRRu q0 q1 q2 q3 q4 q5 (36028797018963967 : Int64) b1 (((q5.toUInt64 >>> ((61 : Int32) &&& 0x3f).toInt64.toUInt64).toInt64).toInt32) fA fB fP z21 b22 o69 b70) [(.ref b22), (.ref o69), (.ref b22), (.int (14 : Int32)), (.ref b70)])) _
                  refine XS.aload X79.here hx rfl (hb hby at_314) rfl rfl ?_
                  exact k
                have Zj_v589 := Nat.le_trans Zj_v73 K79.1
                have Vyj_v590 := Vyj.keep K69 nin0
                have Vyj_v591 := Vyj_v590.ext E70
                have ne593 : b22 ≠ b70 := Nat.ne_of_lt (Nat.lt_of_lt_of_le Vyj_v590.lt (Nat.le_of_eq g70.symm))
                have Vyj_v592 := Vyj_v591.keep K79 (ninS ne593 nin0)
                have V69r_v594 := V69r_v76.keep K79 (ninS ne78 nin0)
                obtain ⟨_, _, ⟨T595, L595, k595, n595⟩, -, X595, ⟨Lc595, hQ595, l595, y595, z595⟩, st595⟩ := Jvm.LawKit.callS X79 hx (y := (⟨"com/example/barred_rows/barredrows/crypto/FpEqualPinLaw", "below", "([J[J)Z"⟩ : MethodName)) hown (mvT hZ (hw _ (List.mem_of_getElem? (i := 17) rfl))) (mvT hZ (hw _ (List.mem_of_getElem? (i := 18) rfl))) (mvT hZ (hw _ (List.mem_of_getElem? (i := 6) rfl))) (mvT hZ (hw _ (List.mem_of_getElem? (i := 19) rfl))) (by decide) (backOf (W := 4) (rm3 l Z a0 hw [] b22 o69 k22 ko69 y0 y1 y2 y3 y4 y5 y6 T79.heap n0 Zj_v589 Vyj_v592 V69r_v594 by0 by1 by2 by3 by4 by5 by6) hZ (hw _ (List.mem_of_getElem? (i := 19) rfl)) (hw _ (List.mem_of_getElem? (i := 6) rfl)) (by decide) (by decide)) (g := (mkF m 316 (LS_JsJsJsJsJsJsJsRIIIIIRRRu q0 q1 q2 q3 q4 q5 (36028797018963967 : Int64) b1 (((q5.toUInt64 >>> ((61 : Int32) &&& 0x3f).toInt64.toUInt64).toInt64).toInt32) fA fB fP z21 b22 o69 b70) [(.ref o69), (.ref b22), (.ref o69), (.ref b22), (.int (14 : Int32)), (.ref b70)])) rfl (by rw [hml]; rfl) (argsL := [(.ref b22), (.ref o69)]) (rest := [(.ref o69), (.ref b22), (.int (14 : Int32)), (.ref b70)]) (lenOf pd___J_J_Z rfl) rfl (by show 2 * 0 + _ ≤ _; exact Nat.le_of_eq rfl) (hb hby at_316) (fun _ _ => ⟨rfl, rfl, (by decide : 4 + 0 ≤ _), (by decide : 42 + 0 ≤ _)⟩)
                dsimp only [Pt.U, Pt.locs, Pt.cells, Pt.slots] at X595 l595 y595 z595 st595 hQ595
                subst l595 y595 z595
                obtain ⟨zb595, rfl, N595q, e595, hb595⟩ := hQ595
                have N595 := Fr.app N79 N595q
                refine own_go (B := T595.setTop (mkF m 319 (LS_JsJsJsJsJsJsJsRIIIIIRRRu q0 q1 q2 q3 q4 q5 (36028797018963967 : Int64) b1 (((q5.toUInt64 >>> ((61 : Int32) &&& 0x3f).toInt64.toUInt64).toInt64).toInt32) fA fB fP z21 b22 o69 b70) [(.int zb595), (.ref o69), (.ref b22), (.int (14 : Int32)), (.ref b70)])) (fun t k => st595 _ k) ?_
                by_cases hc319_596 : zb595 = (0 : Int32)
                · refine own_go (B := T595.setTop (mkF m 327 (LS_JsJsJsJsJsJsJsRIIIIIRRRu q0 q1 q2 q3 q4 q5 (36028797018963967 : Int64) b1 (((q5.toUInt64 >>> ((61 : Int32) &&& 0x3f).toInt64.toUInt64).toInt64).toInt32) fA fB fP z21 b22 o69 b70) [(.int (0 : Int32)), (.ref o69), (.ref b22), (.int (14 : Int32)), (.ref b70)])) (fun t k => ?_) ?_
                  · refine XS.ifYes X595.here hx rfl (pc0 := 319) (pc' := 326) rfl (hb hby at_319) rfl ((if0 _ _).trans (teq hc319_596).1) (by decide) (by decide) ?_
                    refine XS.iconst X595.here hx rfl (hb hby at_326) ?_
                    exact k
                  exact rest80 (0 : Int32) _ _ (own_mono X595 (by decide) (by decide)) N595 ⟨e595, Or.inl rfl⟩
                · refine own_go (B := T595.setTop (mkF m 327 (LS_JsJsJsJsJsJsJsRIIIIIRRRu q0 q1 q2 q3 q4 q5 (36028797018963967 : Int64) b1 (((q5.toUInt64 >>> ((61 : Int32) &&& 0x3f).toInt64.toUInt64).toInt64).toInt32) fA fB fP z21 b22 o69 b70) [(.int (1 : Int32)), (.ref o69), (.ref b22), (.int (14 : Int32)), (.ref b70)])) (fun t k => ?_) ?_
                  · refine XS.ifNo X595.here hx rfl (hb hby at_319) rfl ((if0 _ _).trans (feq hc319_596).1) ?_
                    refine XS.iconst X595.here hx rfl (hb hby at_322) ?_
                    show Steps p.tables e below (T595.setTop (mkF m 323 (LS_JsJsJsJsJsJsJsRIIIIIRRRu q0 q1 q2 q3 q4 q5 (36028797018963967 : Int64) b1 (((q5.toUInt64 >>> ((61 : Int32) &&& 0x3f).toInt64.toUInt64).toInt64).toInt32) fA fB fP z21 b22 o69 b70) [(.int (1 : Int32)), (.ref o69), (.ref b22), (.int (14 : Int32)), (.ref b70)])) _
                    refine XS.goto X595.here hx rfl (pc0 := 323) (pc' := 327) rfl (hb hby at_323) (by decide) (by decide) ?_
                    exact k
                  exact rest80 (1 : Int32) _ _ (own_mono X595 (by decide) (by decide)) N595 ⟨e595, Or.inr ⟨rfl, (hb595.resolve_left hc319_596).2⟩⟩
          · intro rest72
            refine own_go (B := T70.setTop (mkF m 278 (LS_JsJsJsJsJsJsJsRIIIIIRRRu q0 q1 q2 q3 q4 q5 (36028797018963967 : Int64) b1 (((q5.toUInt64 >>> ((61 : Int32) &&& 0x3f).toInt64.toUInt64).toInt64).toInt32) fA fB fP z21 b22 o69 b70) [(.int fA), (.ref o69), (.ref b1), (.int (7 : Int32)), (.ref b70)])) (fun t k => ?_) ?_
            · refine XS.iload X70.here hx rfl (hb hby at_276) rfl ?_
              exact k
            by_cases hc278_597 : fA = (0 : Int32)
            · refine own_go (B := T70.setTop (mkF m 296 (LS_JsJsJsJsJsJsJsRIIIIIRRRu q0 q1 q2 q3 q4 q5 (36028797018963967 : Int64) b1 (((q5.toUInt64 >>> ((61 : Int32) &&& 0x3f).toInt64.toUInt64).toInt64).toInt32) fA fB fP z21 b22 o69 b70) [(.int (0 : Int32)), (.ref o69), (.ref b1), (.int (7 : Int32)), (.ref b70)])) (fun t k => ?_) ?_
              · refine XS.ifYes X70.here hx rfl (pc0 := 278) (pc' := 295) rfl (hb hby at_278) rfl ((if0 _ _).trans (teq hc278_597).1) (by decide) (by decide) ?_
                refine XS.iconst X70.here hx rfl (hb hby at_295) ?_
                exact k
              exact rest72 (0 : Int32) _ _ (own_mono X70 (by decide) (by decide)) N69 ⟨e70, Or.inl rfl⟩
            · refine own_go (B := T70.setTop (mkF m 285 (LS_JsJsJsJsJsJsJsRIIIIIRRRu q0 q1 q2 q3 q4 q5 (36028797018963967 : Int64) b1 (((q5.toUInt64 >>> ((61 : Int32) &&& 0x3f).toInt64.toUInt64).toInt64).toInt32) fA fB fP z21 b22 o69 b70) [(.ref o69), (.ref b1), (.ref o69), (.ref b1), (.int (7 : Int32)), (.ref b70)])) (fun t k => ?_) ?_
              · refine XS.ifNo X70.here hx rfl (hb hby at_278) rfl ((if0 _ _).trans (feq hc278_597).1) ?_
                refine XS.aload X70.here hx rfl (hb hby at_281) rfl rfl ?_
                show Steps p.tables e below (T70.setTop (mkF m 283 (LS_JsJsJsJsJsJsJsRIIIIIRRRu q0 q1 q2 q3 q4 q5 (36028797018963967 : Int64) b1 (((q5.toUInt64 >>> ((61 : Int32) &&& 0x3f).toInt64.toUInt64).toInt64).toInt32) fA fB fP z21 b22 o69 b70) [(.ref b1), (.ref o69), (.ref b1), (.int (7 : Int32)), (.ref b70)])) _
                refine XS.aload X70.here hx rfl (hb hby at_283) rfl rfl ?_
                exact k
              have Zj_v598 := Nat.le_trans Zj_v71 E70.1
              have Vxj_v599 := Vxj.keep K69 nin0
              have Vxj_v600 := Vxj_v599.ext E70
              have V69r_v601 := V69r.ext E70
              obtain ⟨_, _, ⟨T602, L602, k602, n602⟩, -, X602, ⟨Lc602, hQ602, l602, y602, z602⟩, st602⟩ := Jvm.LawKit.callS X70 hx (y := (⟨"com/example/barred_rows/barredrows/crypto/FpEqualPinLaw", "below", "([J[J)Z"⟩ : MethodName)) hown (mvT hZ (hw _ (List.mem_of_getElem? (i := 17) rfl))) (mvT hZ (hw _ (List.mem_of_getElem? (i := 18) rfl))) (mvT hZ (hw _ (List.mem_of_getElem? (i := 6) rfl))) (mvT hZ (hw _ (List.mem_of_getElem? (i := 19) rfl))) (by decide) (backOf (W := 4) (rm3 l Z a0 hw [] b1 o69 k1 ko69 x0 x1 x2 x3 x4 x5 x6 h70 n0 Zj_v598 Vxj_v600 V69r_v601 bx0 bx1 bx2 bx3 bx4 bx5 bx6) hZ (hw _ (List.mem_of_getElem? (i := 19) rfl)) (hw _ (List.mem_of_getElem? (i := 6) rfl)) (by decide) (by decide)) (g := (mkF m 285 (LS_JsJsJsJsJsJsJsRIIIIIRRRu q0 q1 q2 q3 q4 q5 (36028797018963967 : Int64) b1 (((q5.toUInt64 >>> ((61 : Int32) &&& 0x3f).toInt64.toUInt64).toInt64).toInt32) fA fB fP z21 b22 o69 b70) [(.ref o69), (.ref b1), (.ref o69), (.ref b1), (.int (7 : Int32)), (.ref b70)])) rfl (by rw [hml]; rfl) (argsL := [(.ref b1), (.ref o69)]) (rest := [(.ref o69), (.ref b1), (.int (7 : Int32)), (.ref b70)]) (lenOf pd___J_J_Z rfl) rfl (by show 2 * 0 + _ ≤ _; exact Nat.le_of_eq rfl) (hb hby at_285) (fun _ _ => ⟨rfl, e70, (by decide : 4 + 0 ≤ _), (by decide : 42 + 0 ≤ _)⟩)
              dsimp only [Pt.U, Pt.locs, Pt.cells, Pt.slots] at X602 l602 y602 z602 st602 hQ602
              subst l602 y602 z602
              obtain ⟨zb602, rfl, N602q, e602, hb602⟩ := hQ602
              have N602 := Fr.app N69 N602q
              refine own_go (B := T602.setTop (mkF m 288 (LS_JsJsJsJsJsJsJsRIIIIIRRRu q0 q1 q2 q3 q4 q5 (36028797018963967 : Int64) b1 (((q5.toUInt64 >>> ((61 : Int32) &&& 0x3f).toInt64.toUInt64).toInt64).toInt32) fA fB fP z21 b22 o69 b70) [(.int zb602), (.ref o69), (.ref b1), (.int (7 : Int32)), (.ref b70)])) (fun t k => st602 _ k) ?_
              by_cases hc288_603 : zb602 = (0 : Int32)
              · refine own_go (B := T602.setTop (mkF m 296 (LS_JsJsJsJsJsJsJsRIIIIIRRRu q0 q1 q2 q3 q4 q5 (36028797018963967 : Int64) b1 (((q5.toUInt64 >>> ((61 : Int32) &&& 0x3f).toInt64.toUInt64).toInt64).toInt32) fA fB fP z21 b22 o69 b70) [(.int (0 : Int32)), (.ref o69), (.ref b1), (.int (7 : Int32)), (.ref b70)])) (fun t k => ?_) ?_
                · refine XS.ifYes X602.here hx rfl (pc0 := 288) (pc' := 295) rfl (hb hby at_288) rfl ((if0 _ _).trans (teq hc288_603).1) (by decide) (by decide) ?_
                  refine XS.iconst X602.here hx rfl (hb hby at_295) ?_
                  exact k
                exact rest72 (0 : Int32) _ _ (own_mono X602 (by decide) (by decide)) N602 ⟨e602, Or.inl rfl⟩
              · refine own_go (B := T602.setTop (mkF m 296 (LS_JsJsJsJsJsJsJsRIIIIIRRRu q0 q1 q2 q3 q4 q5 (36028797018963967 : Int64) b1 (((q5.toUInt64 >>> ((61 : Int32) &&& 0x3f).toInt64.toUInt64).toInt64).toInt32) fA fB fP z21 b22 o69 b70) [(.int (1 : Int32)), (.ref o69), (.ref b1), (.int (7 : Int32)), (.ref b70)])) (fun t k => ?_) ?_
                · refine XS.ifNo X602.here hx rfl (hb hby at_288) rfl ((if0 _ _).trans (feq hc288_603).1) ?_
                  refine XS.iconst X602.here hx rfl (hb hby at_291) ?_
                  show Steps p.tables e below (T602.setTop (mkF m 292 (LS_JsJsJsJsJsJsJsRIIIIIRRRu q0 q1 q2 q3 q4 q5 (36028797018963967 : Int64) b1 (((q5.toUInt64 >>> ((61 : Int32) &&& 0x3f).toInt64.toUInt64).toInt64).toInt32) fA fB fP z21 b22 o69 b70) [(.int (1 : Int32)), (.ref o69), (.ref b1), (.int (7 : Int32)), (.ref b70)])) _
                  refine XS.goto X602.here hx rfl (pc0 := 292) (pc' := 296) rfl (hb hby at_292) (by decide) (by decide) ?_
                  exact k
                exact rest72 (1 : Int32) _ _ (own_mono X602 (by decide) (by decide)) N602 ⟨e602, Or.inr ⟨rfl, (hb602.resolve_left hc288_603).2⟩⟩
        · intro rest68
          refine own_go (B := T67.setTop (mkF m 248 (LS_JsJsJsJsJsJsJsRIIIIIRuuu q0 q1 q2 q3 q4 q5 (36028797018963967 : Int64) b1 (((q5.toUInt64 >>> ((61 : Int32) &&& 0x3f).toInt64.toUInt64).toInt64).toInt32) fA fB fP z21 b22) [(.int fP)])) (fun t k => ?_) ?_
          · refine XS.iload X67.here hx rfl (hb hby at_246) rfl ?_
            exact k
          by_cases hc248_604 : fP = (0 : Int32)
          · refine own_go (B := T67.setTop (mkF m 257 (LS_JsJsJsJsJsJsJsRIIIIIRuuu q0 q1 q2 q3 q4 q5 (36028797018963967 : Int64) b1 (((q5.toUInt64 >>> ((61 : Int32) &&& 0x3f).toInt64.toUInt64).toInt64).toInt32) fA fB fP z21 b22) [])) (fun t k => ?_) ?_
            · refine XS.ifYes X67.here hx rfl (pc0 := 248) (pc' := 257) rfl (hb hby at_248) rfl ((if0 _ _).trans (teq hc248_604).1) (by decide) (by decide) ?_
              exact k
            have Z0_v605 := Nat.le_trans Z0_v30 E22.1
            have Z0_v606 := Nat.le_trans Z0_v605 (Nat.le_of_eq W35.size.symm)
            have Z0_v607 := Nat.le_trans Z0_v606 (Nat.le_of_eq W41.size.symm)
            have Z0_v608 := Nat.le_trans Z0_v607 (Nat.le_of_eq W47.size.symm)
            have Z0_v609 := Nat.le_trans Z0_v608 (Nat.le_of_eq W52.size.symm)
            have Z0_v610 := Nat.le_trans Z0_v609 (Nat.le_of_eq W57.size.symm)
            have Z0_v611 := Nat.le_trans Z0_v610 (Nat.le_of_eq W62.size.symm)
            have Z0_v612 := Nat.le_trans Z0_v611 (Nat.le_of_eq W67.size.symm)
            have Vx_v613 := Vx_v64.other W67 ne38
            have S_Fp_P0_v614 := S_Fp_P0.ext E1
            have S_Fp_P0_v615 := S_Fp_P0_v614.wr W3
            have S_Fp_P0_v616 := S_Fp_P0_v615.wr W5
            have S_Fp_P0_v617 := S_Fp_P0_v616.wr W7
            have S_Fp_P0_v618 := S_Fp_P0_v617.wr W9
            have S_Fp_P0_v619 := S_Fp_P0_v618.wr W11
            have S_Fp_P0_v620 := S_Fp_P0_v619.wr W13
            have S_Fp_P0_v621 := S_Fp_P0_v620.wr W15
            have S_Fp_P0_v622 := S_Fp_P0_v621.ext E22
            have S_Fp_P0_v623 := S_Fp_P0_v622.wr W35
            have S_Fp_P0_v624 := S_Fp_P0_v623.wr W41
            have S_Fp_P0_v625 := S_Fp_P0_v624.wr W47
            have S_Fp_P0_v626 := S_Fp_P0_v625.wr W52
            have S_Fp_P0_v627 := S_Fp_P0_v626.wr W57
            have S_Fp_P0_v628 := S_Fp_P0_v627.wr W62
            have S_Fp_P0_v629 := S_Fp_P0_v628.wr W67
            have S_Fp_P1_v630 := S_Fp_P1.ext E1
            have S_Fp_P1_v631 := S_Fp_P1_v630.wr W3
            have S_Fp_P1_v632 := S_Fp_P1_v631.wr W5
            have S_Fp_P1_v633 := S_Fp_P1_v632.wr W7
            have S_Fp_P1_v634 := S_Fp_P1_v633.wr W9
            have S_Fp_P1_v635 := S_Fp_P1_v634.wr W11
            have S_Fp_P1_v636 := S_Fp_P1_v635.wr W13
            have S_Fp_P1_v637 := S_Fp_P1_v636.wr W15
            have S_Fp_P1_v638 := S_Fp_P1_v637.ext E22
            have S_Fp_P1_v639 := S_Fp_P1_v638.wr W35
            have S_Fp_P1_v640 := S_Fp_P1_v639.wr W41
            have S_Fp_P1_v641 := S_Fp_P1_v640.wr W47
            have S_Fp_P1_v642 := S_Fp_P1_v641.wr W52
            have S_Fp_P1_v643 := S_Fp_P1_v642.wr W57
            have S_Fp_P1_v644 := S_Fp_P1_v643.wr W62
            have S_Fp_P1_v645 := S_Fp_P1_v644.wr W67
            have S_Fp_P2_v646 := S_Fp_P2.ext E1
            have S_Fp_P2_v647 := S_Fp_P2_v646.wr W3
            have S_Fp_P2_v648 := S_Fp_P2_v647.wr W5
            have S_Fp_P2_v649 := S_Fp_P2_v648.wr W7
            have S_Fp_P2_v650 := S_Fp_P2_v649.wr W9
            have S_Fp_P2_v651 := S_Fp_P2_v650.wr W11
            have S_Fp_P2_v652 := S_Fp_P2_v651.wr W13
            have S_Fp_P2_v653 := S_Fp_P2_v652.wr W15
            have S_Fp_P2_v654 := S_Fp_P2_v653.ext E22
            have S_Fp_P2_v655 := S_Fp_P2_v654.wr W35
            have S_Fp_P2_v656 := S_Fp_P2_v655.wr W41
            have S_Fp_P2_v657 := S_Fp_P2_v656.wr W47
            have S_Fp_P2_v658 := S_Fp_P2_v657.wr W52
            have S_Fp_P2_v659 := S_Fp_P2_v658.wr W57
            have S_Fp_P2_v660 := S_Fp_P2_v659.wr W62
            have S_Fp_P2_v661 := S_Fp_P2_v660.wr W67
            have S_Fp_P3_v662 := S_Fp_P3.ext E1
            have S_Fp_P3_v663 := S_Fp_P3_v662.wr W3
            have S_Fp_P3_v664 := S_Fp_P3_v663.wr W5
            have S_Fp_P3_v665 := S_Fp_P3_v664.wr W7
            have S_Fp_P3_v666 := S_Fp_P3_v665.wr W9
            have S_Fp_P3_v667 := S_Fp_P3_v666.wr W11
            have S_Fp_P3_v668 := S_Fp_P3_v667.wr W13
            have S_Fp_P3_v669 := S_Fp_P3_v668.wr W15
            have S_Fp_P3_v670 := S_Fp_P3_v669.ext E22
            have S_Fp_P3_v671 := S_Fp_P3_v670.wr W35
            have S_Fp_P3_v672 := S_Fp_P3_v671.wr W41
            have S_Fp_P3_v673 := S_Fp_P3_v672.wr W47
            have S_Fp_P3_v674 := S_Fp_P3_v673.wr W52
            have S_Fp_P3_v675 := S_Fp_P3_v674.wr W57
            have S_Fp_P3_v676 := S_Fp_P3_v675.wr W62
            have S_Fp_P3_v677 := S_Fp_P3_v676.wr W67
            have S_Fp_P4_v678 := S_Fp_P4.ext E1
            have S_Fp_P4_v679 := S_Fp_P4_v678.wr W3
            have S_Fp_P4_v680 := S_Fp_P4_v679.wr W5
            have S_Fp_P4_v681 := S_Fp_P4_v680.wr W7
            have S_Fp_P4_v682 := S_Fp_P4_v681.wr W9
            have S_Fp_P4_v683 := S_Fp_P4_v682.wr W11
            have S_Fp_P4_v684 := S_Fp_P4_v683.wr W13
            have S_Fp_P4_v685 := S_Fp_P4_v684.wr W15
            have S_Fp_P4_v686 := S_Fp_P4_v685.ext E22
            have S_Fp_P4_v687 := S_Fp_P4_v686.wr W35
            have S_Fp_P4_v688 := S_Fp_P4_v687.wr W41
            have S_Fp_P4_v689 := S_Fp_P4_v688.wr W47
            have S_Fp_P4_v690 := S_Fp_P4_v689.wr W52
            have S_Fp_P4_v691 := S_Fp_P4_v690.wr W57
            have S_Fp_P4_v692 := S_Fp_P4_v691.wr W62
            have S_Fp_P4_v693 := S_Fp_P4_v692.wr W67
            have S_Fp_P5_v694 := S_Fp_P5.ext E1
            have S_Fp_P5_v695 := S_Fp_P5_v694.wr W3
            have S_Fp_P5_v696 := S_Fp_P5_v695.wr W5
            have S_Fp_P5_v697 := S_Fp_P5_v696.wr W7
            have S_Fp_P5_v698 := S_Fp_P5_v697.wr W9
            have S_Fp_P5_v699 := S_Fp_P5_v698.wr W11
            have S_Fp_P5_v700 := S_Fp_P5_v699.wr W13
            have S_Fp_P5_v701 := S_Fp_P5_v700.wr W15
            have S_Fp_P5_v702 := S_Fp_P5_v701.ext E22
            have S_Fp_P5_v703 := S_Fp_P5_v702.wr W35
            have S_Fp_P5_v704 := S_Fp_P5_v703.wr W41
            have S_Fp_P5_v705 := S_Fp_P5_v704.wr W47
            have S_Fp_P5_v706 := S_Fp_P5_v705.wr W52
            have S_Fp_P5_v707 := S_Fp_P5_v706.wr W57
            have S_Fp_P5_v708 := S_Fp_P5_v707.wr W62
            have S_Fp_P5_v709 := S_Fp_P5_v708.wr W67
            have S_Fp_P6_v710 := S_Fp_P6.ext E1
            have S_Fp_P6_v711 := S_Fp_P6_v710.wr W3
            have S_Fp_P6_v712 := S_Fp_P6_v711.wr W5
            have S_Fp_P6_v713 := S_Fp_P6_v712.wr W7
            have S_Fp_P6_v714 := S_Fp_P6_v713.wr W9
            have S_Fp_P6_v715 := S_Fp_P6_v714.wr W11
            have S_Fp_P6_v716 := S_Fp_P6_v715.wr W13
            have S_Fp_P6_v717 := S_Fp_P6_v716.wr W15
            have S_Fp_P6_v718 := S_Fp_P6_v717.ext E22
            have S_Fp_P6_v719 := S_Fp_P6_v718.wr W35
            have S_Fp_P6_v720 := S_Fp_P6_v719.wr W41
            have S_Fp_P6_v721 := S_Fp_P6_v720.wr W47
            have S_Fp_P6_v722 := S_Fp_P6_v721.wr W52
            have S_Fp_P6_v723 := S_Fp_P6_v722.wr W57
            have S_Fp_P6_v724 := S_Fp_P6_v723.wr W62
            have S_Fp_P6_v725 := S_Fp_P6_v724.wr W67
            exact rest68 () _ _ (own_mono X67 (by decide) (by decide)) N67 (by rw [e67]; exact ⟨x0, x1, x2, x3, x4, x5, x6, Z0_v612, Vx_v613, V67, bx0, bx1, bx2, bx3, bx4, bx5, bx6, S_Fp_P0_v629, S_Fp_P1_v645, S_Fp_P2_v661, S_Fp_P3_v677, S_Fp_P4_v693, S_Fp_P5_v709, S_Fp_P6_v725, Or.inl ⟨hc248_604, rfl, rfl, rfl, rfl, rfl, rfl, rfl⟩⟩)
          · refine own_go (B := T67.setTop (mkF m 251 (LS_JsJsJsJsJsJsJsRIIIIIRuuu q0 q1 q2 q3 q4 q5 (36028797018963967 : Int64) b1 (((q5.toUInt64 >>> ((61 : Int32) &&& 0x3f).toInt64.toUInt64).toInt64).toInt32) fA fB fP z21 b22) [])) (fun t k => ?_) ?_
            · refine XS.ifNo X67.here hx rfl (hb hby at_248) rfl ((if0 _ _).trans (feq hc248_604).1) ?_
              exact k
            rcases own_k7 (x := x6) tx.1 with hk726 | hk726 | hk726 | hk726 | hk726 | hk726 | hk726
            · have hqhk726 : z21 = (0 : Int32) := by rw [hz21]; exact hk726
              refine own_go (B := T67.setTop (mkF m 251 (LS_JsJsJsJsJsJsJsRIIIIIRuuu q0 q1 q2 q3 q4 q5 (36028797018963967 : Int64) b1 (((q5.toUInt64 >>> ((61 : Int32) &&& 0x3f).toInt64.toUInt64).toInt64).toInt32) fA fB fP (0 : Int32) b22) [])) (fun t k => by rw [hqhk726]; exact k) ?_
              refine own_go (B := T67.setTop (mkF m 256 (LS_JsJsJsJsJsJsJsRIIIIIRuuu q0 q1 q2 q3 q4 q5 (36028797018963967 : Int64) b1 (((q5.toUInt64 >>> ((61 : Int32) &&& 0x3f).toInt64.toUInt64).toInt64).toInt32) fA fB fP (0 : Int32) b22) [(.long (0 : Int64)), (.int (0 : Int32)), (.ref b22)])) (fun t k => ?_) ?_
              · refine XS.aload X67.here hx rfl (hb hby at_251) rfl rfl ?_
                refine XS.iload X67.here hx rfl (hb hby at_253) rfl ?_
                show Steps p.tables e below (T67.setTop (mkF m 255 (LS_JsJsJsJsJsJsJsRIIIIIRuuu q0 q1 q2 q3 q4 q5 (36028797018963967 : Int64) b1 (((q5.toUInt64 >>> ((61 : Int32) &&& 0x3f).toInt64.toUInt64).toInt64).toInt32) fA fB fP (0 : Int32) b22) [(.int (0 : Int32)), (.ref b22)])) _
                refine XS.lconst X67.here hx rfl (hb hby at_255) ?_
                exact k
              obtain ⟨cl727, Ar727, qa727, Sa727, Na727, Ha727, Ga727⟩ := id V67
              have hin728 : ¬ ((0 : Int32) < 0 ∨ cl727.slots.size ≤ ((0 : Int32)).toNatClampNeg) := inb_of Sa727 ⟨by decide, by decide⟩
              obtain ⟨T728, h728, X728, e728, W728, st728⟩ := stJ X67 hx hZ e67 Ar727 (j := (0 : Int32)) hin728 (g := (mkF m 256 (LS_JsJsJsJsJsJsJsRIIIIIRuuu q0 q1 q2 q3 q4 q5 (36028797018963967 : Int64) b1 (((q5.toUInt64 >>> ((61 : Int32) &&& 0x3f).toInt64.toUInt64).toInt64).toInt32) fA fB fP (0 : Int32) b22) [(.long (0 : Int64)), (.int (0 : Int32)), (.ref b22)])) rfl rfl (hb hby at_256)
              have N728 := Fr.snoc X728 N67 g_b22
              have V728 : Arv Z h728 b22 k22 .long (7 : Int32) [(.long (0 : Int64)), (.long x1), (.long x2), (.long x3), (.long x4), (.long x5), (.long x6)] (.long (0 : Int64)) := Arv.set Ar727 qa727 Sa727 Na727 Ha727 Ga727 rfl W728 0 rfl (Nat.le_of_ble_eq_true rfl)
              refine own_go (B := T728.setTop (mkF m 257 (LS_JsJsJsJsJsJsJsRIIIIIRuuu q0 q1 q2 q3 q4 q5 (36028797018963967 : Int64) b1 (((q5.toUInt64 >>> ((61 : Int32) &&& 0x3f).toInt64.toUInt64).toInt64).toInt32) fA fB fP (0 : Int32) b22) [])) (fun t k => st728 _ k) ?_
              refine own_go (B := T728.setTop (mkF m 257 (LS_JsJsJsJsJsJsJsRIIIIIRuuu q0 q1 q2 q3 q4 q5 (36028797018963967 : Int64) b1 (((q5.toUInt64 >>> ((61 : Int32) &&& 0x3f).toInt64.toUInt64).toInt64).toInt32) fA fB fP z21 b22) [])) (fun t k => by rw [hqhk726] at k; exact k) ?_
              have Z0_v729 := Nat.le_trans Z0_v30 E22.1
              have Z0_v730 := Nat.le_trans Z0_v729 (Nat.le_of_eq W35.size.symm)
              have Z0_v731 := Nat.le_trans Z0_v730 (Nat.le_of_eq W41.size.symm)
              have Z0_v732 := Nat.le_trans Z0_v731 (Nat.le_of_eq W47.size.symm)
              have Z0_v733 := Nat.le_trans Z0_v732 (Nat.le_of_eq W52.size.symm)
              have Z0_v734 := Nat.le_trans Z0_v733 (Nat.le_of_eq W57.size.symm)
              have Z0_v735 := Nat.le_trans Z0_v734 (Nat.le_of_eq W62.size.symm)
              have Z0_v736 := Nat.le_trans Z0_v735 (Nat.le_of_eq W67.size.symm)
              have Z0_v737 := Nat.le_trans Z0_v736 (Nat.le_of_eq W728.size.symm)
              have Vx_v738 := Vx_v64.other W67 ne38
              have Vx_v739 := Vx_v738.other W728 ne38
              have S_Fp_P0_v740 := S_Fp_P0.ext E1
              have S_Fp_P0_v741 := S_Fp_P0_v740.wr W3
              have S_Fp_P0_v742 := S_Fp_P0_v741.wr W5
              have S_Fp_P0_v743 := S_Fp_P0_v742.wr W7
              have S_Fp_P0_v744 := S_Fp_P0_v743.wr W9
              have S_Fp_P0_v745 := S_Fp_P0_v744.wr W11
              have S_Fp_P0_v746 := S_Fp_P0_v745.wr W13
              have S_Fp_P0_v747 := S_Fp_P0_v746.wr W15
              have S_Fp_P0_v748 := S_Fp_P0_v747.ext E22
              have S_Fp_P0_v749 := S_Fp_P0_v748.wr W35
              have S_Fp_P0_v750 := S_Fp_P0_v749.wr W41
              have S_Fp_P0_v751 := S_Fp_P0_v750.wr W47
              have S_Fp_P0_v752 := S_Fp_P0_v751.wr W52
              have S_Fp_P0_v753 := S_Fp_P0_v752.wr W57
              have S_Fp_P0_v754 := S_Fp_P0_v753.wr W62
              have S_Fp_P0_v755 := S_Fp_P0_v754.wr W67
              have S_Fp_P0_v756 := S_Fp_P0_v755.wr W728
              have S_Fp_P1_v757 := S_Fp_P1.ext E1
              have S_Fp_P1_v758 := S_Fp_P1_v757.wr W3
              have S_Fp_P1_v759 := S_Fp_P1_v758.wr W5
              have S_Fp_P1_v760 := S_Fp_P1_v759.wr W7
              have S_Fp_P1_v761 := S_Fp_P1_v760.wr W9
              have S_Fp_P1_v762 := S_Fp_P1_v761.wr W11
              have S_Fp_P1_v763 := S_Fp_P1_v762.wr W13
              have S_Fp_P1_v764 := S_Fp_P1_v763.wr W15
              have S_Fp_P1_v765 := S_Fp_P1_v764.ext E22
              have S_Fp_P1_v766 := S_Fp_P1_v765.wr W35
              have S_Fp_P1_v767 := S_Fp_P1_v766.wr W41
              have S_Fp_P1_v768 := S_Fp_P1_v767.wr W47
              have S_Fp_P1_v769 := S_Fp_P1_v768.wr W52
              have S_Fp_P1_v770 := S_Fp_P1_v769.wr W57
              have S_Fp_P1_v771 := S_Fp_P1_v770.wr W62
              have S_Fp_P1_v772 := S_Fp_P1_v771.wr W67
              have S_Fp_P1_v773 := S_Fp_P1_v772.wr W728
              have S_Fp_P2_v774 := S_Fp_P2.ext E1
              have S_Fp_P2_v775 := S_Fp_P2_v774.wr W3
              have S_Fp_P2_v776 := S_Fp_P2_v775.wr W5
              have S_Fp_P2_v777 := S_Fp_P2_v776.wr W7
              have S_Fp_P2_v778 := S_Fp_P2_v777.wr W9
              have S_Fp_P2_v779 := S_Fp_P2_v778.wr W11
              have S_Fp_P2_v780 := S_Fp_P2_v779.wr W13
              have S_Fp_P2_v781 := S_Fp_P2_v780.wr W15
              have S_Fp_P2_v782 := S_Fp_P2_v781.ext E22
              have S_Fp_P2_v783 := S_Fp_P2_v782.wr W35
              have S_Fp_P2_v784 := S_Fp_P2_v783.wr W41
              have S_Fp_P2_v785 := S_Fp_P2_v784.wr W47
              have S_Fp_P2_v786 := S_Fp_P2_v785.wr W52
              have S_Fp_P2_v787 := S_Fp_P2_v786.wr W57
              have S_Fp_P2_v788 := S_Fp_P2_v787.wr W62
              have S_Fp_P2_v789 := S_Fp_P2_v788.wr W67
              have S_Fp_P2_v790 := S_Fp_P2_v789.wr W728
              have S_Fp_P3_v791 := S_Fp_P3.ext E1
              have S_Fp_P3_v792 := S_Fp_P3_v791.wr W3
              have S_Fp_P3_v793 := S_Fp_P3_v792.wr W5
              have S_Fp_P3_v794 := S_Fp_P3_v793.wr W7
              have S_Fp_P3_v795 := S_Fp_P3_v794.wr W9
              have S_Fp_P3_v796 := S_Fp_P3_v795.wr W11
              have S_Fp_P3_v797 := S_Fp_P3_v796.wr W13
              have S_Fp_P3_v798 := S_Fp_P3_v797.wr W15
              have S_Fp_P3_v799 := S_Fp_P3_v798.ext E22
              have S_Fp_P3_v800 := S_Fp_P3_v799.wr W35
              have S_Fp_P3_v801 := S_Fp_P3_v800.wr W41
              have S_Fp_P3_v802 := S_Fp_P3_v801.wr W47
              have S_Fp_P3_v803 := S_Fp_P3_v802.wr W52
              have S_Fp_P3_v804 := S_Fp_P3_v803.wr W57
              have S_Fp_P3_v805 := S_Fp_P3_v804.wr W62
              have S_Fp_P3_v806 := S_Fp_P3_v805.wr W67
              have S_Fp_P3_v807 := S_Fp_P3_v806.wr W728
              have S_Fp_P4_v808 := S_Fp_P4.ext E1
              have S_Fp_P4_v809 := S_Fp_P4_v808.wr W3
              have S_Fp_P4_v810 := S_Fp_P4_v809.wr W5
              have S_Fp_P4_v811 := S_Fp_P4_v810.wr W7
              have S_Fp_P4_v812 := S_Fp_P4_v811.wr W9
              have S_Fp_P4_v813 := S_Fp_P4_v812.wr W11
              have S_Fp_P4_v814 := S_Fp_P4_v813.wr W13
              have S_Fp_P4_v815 := S_Fp_P4_v814.wr W15
              have S_Fp_P4_v816 := S_Fp_P4_v815.ext E22
              have S_Fp_P4_v817 := S_Fp_P4_v816.wr W35
              have S_Fp_P4_v818 := S_Fp_P4_v817.wr W41
              have S_Fp_P4_v819 := S_Fp_P4_v818.wr W47
              have S_Fp_P4_v820 := S_Fp_P4_v819.wr W52
              have S_Fp_P4_v821 := S_Fp_P4_v820.wr W57
              have S_Fp_P4_v822 := S_Fp_P4_v821.wr W62
              have S_Fp_P4_v823 := S_Fp_P4_v822.wr W67
              have S_Fp_P4_v824 := S_Fp_P4_v823.wr W728
              have S_Fp_P5_v825 := S_Fp_P5.ext E1
              have S_Fp_P5_v826 := S_Fp_P5_v825.wr W3
              have S_Fp_P5_v827 := S_Fp_P5_v826.wr W5
              have S_Fp_P5_v828 := S_Fp_P5_v827.wr W7
              have S_Fp_P5_v829 := S_Fp_P5_v828.wr W9
              have S_Fp_P5_v830 := S_Fp_P5_v829.wr W11
              have S_Fp_P5_v831 := S_Fp_P5_v830.wr W13
              have S_Fp_P5_v832 := S_Fp_P5_v831.wr W15
              have S_Fp_P5_v833 := S_Fp_P5_v832.ext E22
              have S_Fp_P5_v834 := S_Fp_P5_v833.wr W35
              have S_Fp_P5_v835 := S_Fp_P5_v834.wr W41
              have S_Fp_P5_v836 := S_Fp_P5_v835.wr W47
              have S_Fp_P5_v837 := S_Fp_P5_v836.wr W52
              have S_Fp_P5_v838 := S_Fp_P5_v837.wr W57
              have S_Fp_P5_v839 := S_Fp_P5_v838.wr W62
              have S_Fp_P5_v840 := S_Fp_P5_v839.wr W67
              have S_Fp_P5_v841 := S_Fp_P5_v840.wr W728
              have S_Fp_P6_v842 := S_Fp_P6.ext E1
              have S_Fp_P6_v843 := S_Fp_P6_v842.wr W3
              have S_Fp_P6_v844 := S_Fp_P6_v843.wr W5
              have S_Fp_P6_v845 := S_Fp_P6_v844.wr W7
              have S_Fp_P6_v846 := S_Fp_P6_v845.wr W9
              have S_Fp_P6_v847 := S_Fp_P6_v846.wr W11
              have S_Fp_P6_v848 := S_Fp_P6_v847.wr W13
              have S_Fp_P6_v849 := S_Fp_P6_v848.wr W15
              have S_Fp_P6_v850 := S_Fp_P6_v849.ext E22
              have S_Fp_P6_v851 := S_Fp_P6_v850.wr W35
              have S_Fp_P6_v852 := S_Fp_P6_v851.wr W41
              have S_Fp_P6_v853 := S_Fp_P6_v852.wr W47
              have S_Fp_P6_v854 := S_Fp_P6_v853.wr W52
              have S_Fp_P6_v855 := S_Fp_P6_v854.wr W57
              have S_Fp_P6_v856 := S_Fp_P6_v855.wr W62
              have S_Fp_P6_v857 := S_Fp_P6_v856.wr W67
              have S_Fp_P6_v858 := S_Fp_P6_v857.wr W728
              exact rest68 () _ _ (own_mono X728 (by decide) (by decide)) N728 (by rw [e728]; exact ⟨(0 : Int64), x1, x2, x3, x4, x5, x6, Z0_v737, Vx_v739, V728, ⟨by decide, by decide⟩, bx1, bx2, bx3, bx4, bx5, bx6, S_Fp_P0_v756, S_Fp_P1_v773, S_Fp_P2_v790, S_Fp_P3_v807, S_Fp_P4_v824, S_Fp_P5_v841, S_Fp_P6_v858, Or.inr (Or.inl ⟨(phi18.resolve_left hc248_604), hqhk726, rfl, rfl, rfl, rfl, rfl, rfl, rfl⟩)⟩)
            · have hqhk726 : z21 = (1 : Int32) := by rw [hz21]; exact hk726
              refine own_go (B := T67.setTop (mkF m 251 (LS_JsJsJsJsJsJsJsRIIIIIRuuu q0 q1 q2 q3 q4 q5 (36028797018963967 : Int64) b1 (((q5.toUInt64 >>> ((61 : Int32) &&& 0x3f).toInt64.toUInt64).toInt64).toInt32) fA fB fP (1 : Int32) b22) [])) (fun t k => by rw [hqhk726]; exact k) ?_
              refine own_go (B := T67.setTop (mkF m 256 (LS_JsJsJsJsJsJsJsRIIIIIRuuu q0 q1 q2 q3 q4 q5 (36028797018963967 : Int64) b1 (((q5.toUInt64 >>> ((61 : Int32) &&& 0x3f).toInt64.toUInt64).toInt64).toInt32) fA fB fP (1 : Int32) b22) [(.long (0 : Int64)), (.int (1 : Int32)), (.ref b22)])) (fun t k => ?_) ?_
              · refine XS.aload X67.here hx rfl (hb hby at_251) rfl rfl ?_
                refine XS.iload X67.here hx rfl (hb hby at_253) rfl ?_
                show Steps p.tables e below (T67.setTop (mkF m 255 (LS_JsJsJsJsJsJsJsRIIIIIRuuu q0 q1 q2 q3 q4 q5 (36028797018963967 : Int64) b1 (((q5.toUInt64 >>> ((61 : Int32) &&& 0x3f).toInt64.toUInt64).toInt64).toInt32) fA fB fP (1 : Int32) b22) [(.int (1 : Int32)), (.ref b22)])) _
                refine XS.lconst X67.here hx rfl (hb hby at_255) ?_
                exact k
              obtain ⟨cl859, Ar859, qa859, Sa859, Na859, Ha859, Ga859⟩ := id V67
              have hin860 : ¬ ((1 : Int32) < 0 ∨ cl859.slots.size ≤ ((1 : Int32)).toNatClampNeg) := inb_of Sa859 ⟨by decide, by decide⟩
              obtain ⟨T860, h860, X860, e860, W860, st860⟩ := stJ X67 hx hZ e67 Ar859 (j := (1 : Int32)) hin860 (g := (mkF m 256 (LS_JsJsJsJsJsJsJsRIIIIIRuuu q0 q1 q2 q3 q4 q5 (36028797018963967 : Int64) b1 (((q5.toUInt64 >>> ((61 : Int32) &&& 0x3f).toInt64.toUInt64).toInt64).toInt32) fA fB fP (1 : Int32) b22) [(.long (0 : Int64)), (.int (1 : Int32)), (.ref b22)])) rfl rfl (hb hby at_256)
              have N860 := Fr.snoc X860 N67 g_b22
              have V860 : Arv Z h860 b22 k22 .long (7 : Int32) [(.long x0), (.long (0 : Int64)), (.long x2), (.long x3), (.long x4), (.long x5), (.long x6)] (.long (0 : Int64)) := Arv.set Ar859 qa859 Sa859 Na859 Ha859 Ga859 rfl W860 1 rfl (Nat.le_of_ble_eq_true rfl)
              refine own_go (B := T860.setTop (mkF m 257 (LS_JsJsJsJsJsJsJsRIIIIIRuuu q0 q1 q2 q3 q4 q5 (36028797018963967 : Int64) b1 (((q5.toUInt64 >>> ((61 : Int32) &&& 0x3f).toInt64.toUInt64).toInt64).toInt32) fA fB fP (1 : Int32) b22) [])) (fun t k => st860 _ k) ?_
              refine own_go (B := T860.setTop (mkF m 257 (LS_JsJsJsJsJsJsJsRIIIIIRuuu q0 q1 q2 q3 q4 q5 (36028797018963967 : Int64) b1 (((q5.toUInt64 >>> ((61 : Int32) &&& 0x3f).toInt64.toUInt64).toInt64).toInt32) fA fB fP z21 b22) [])) (fun t k => by rw [hqhk726] at k; exact k) ?_
              have Z0_v861 := Nat.le_trans Z0_v30 E22.1
              have Z0_v862 := Nat.le_trans Z0_v861 (Nat.le_of_eq W35.size.symm)
              have Z0_v863 := Nat.le_trans Z0_v862 (Nat.le_of_eq W41.size.symm)
              have Z0_v864 := Nat.le_trans Z0_v863 (Nat.le_of_eq W47.size.symm)
              have Z0_v865 := Nat.le_trans Z0_v864 (Nat.le_of_eq W52.size.symm)
              have Z0_v866 := Nat.le_trans Z0_v865 (Nat.le_of_eq W57.size.symm)
              have Z0_v867 := Nat.le_trans Z0_v866 (Nat.le_of_eq W62.size.symm)
              have Z0_v868 := Nat.le_trans Z0_v867 (Nat.le_of_eq W67.size.symm)
              have Z0_v869 := Nat.le_trans Z0_v868 (Nat.le_of_eq W860.size.symm)
              have Vx_v870 := Vx_v64.other W67 ne38
              have Vx_v871 := Vx_v870.other W860 ne38
              have S_Fp_P0_v872 := S_Fp_P0.ext E1
              have S_Fp_P0_v873 := S_Fp_P0_v872.wr W3
              have S_Fp_P0_v874 := S_Fp_P0_v873.wr W5
              have S_Fp_P0_v875 := S_Fp_P0_v874.wr W7
              have S_Fp_P0_v876 := S_Fp_P0_v875.wr W9
              have S_Fp_P0_v877 := S_Fp_P0_v876.wr W11
              have S_Fp_P0_v878 := S_Fp_P0_v877.wr W13
              have S_Fp_P0_v879 := S_Fp_P0_v878.wr W15
              have S_Fp_P0_v880 := S_Fp_P0_v879.ext E22
              have S_Fp_P0_v881 := S_Fp_P0_v880.wr W35
              have S_Fp_P0_v882 := S_Fp_P0_v881.wr W41
              have S_Fp_P0_v883 := S_Fp_P0_v882.wr W47
              have S_Fp_P0_v884 := S_Fp_P0_v883.wr W52
              have S_Fp_P0_v885 := S_Fp_P0_v884.wr W57
              have S_Fp_P0_v886 := S_Fp_P0_v885.wr W62
              have S_Fp_P0_v887 := S_Fp_P0_v886.wr W67
              have S_Fp_P0_v888 := S_Fp_P0_v887.wr W860
              have S_Fp_P1_v889 := S_Fp_P1.ext E1
              have S_Fp_P1_v890 := S_Fp_P1_v889.wr W3
              have S_Fp_P1_v891 := S_Fp_P1_v890.wr W5
              have S_Fp_P1_v892 := S_Fp_P1_v891.wr W7
              have S_Fp_P1_v893 := S_Fp_P1_v892.wr W9
              have S_Fp_P1_v894 := S_Fp_P1_v893.wr W11
              have S_Fp_P1_v895 := S_Fp_P1_v894.wr W13
              have S_Fp_P1_v896 := S_Fp_P1_v895.wr W15
              have S_Fp_P1_v897 := S_Fp_P1_v896.ext E22
              have S_Fp_P1_v898 := S_Fp_P1_v897.wr W35
              have S_Fp_P1_v899 := S_Fp_P1_v898.wr W41
              have S_Fp_P1_v900 := S_Fp_P1_v899.wr W47
              have S_Fp_P1_v901 := S_Fp_P1_v900.wr W52
              have S_Fp_P1_v902 := S_Fp_P1_v901.wr W57
              have S_Fp_P1_v903 := S_Fp_P1_v902.wr W62
              have S_Fp_P1_v904 := S_Fp_P1_v903.wr W67
              have S_Fp_P1_v905 := S_Fp_P1_v904.wr W860
              have S_Fp_P2_v906 := S_Fp_P2.ext E1
              have S_Fp_P2_v907 := S_Fp_P2_v906.wr W3
              have S_Fp_P2_v908 := S_Fp_P2_v907.wr W5
              have S_Fp_P2_v909 := S_Fp_P2_v908.wr W7
              have S_Fp_P2_v910 := S_Fp_P2_v909.wr W9
              have S_Fp_P2_v911 := S_Fp_P2_v910.wr W11
              have S_Fp_P2_v912 := S_Fp_P2_v911.wr W13
              have S_Fp_P2_v913 := S_Fp_P2_v912.wr W15
              have S_Fp_P2_v914 := S_Fp_P2_v913.ext E22
              have S_Fp_P2_v915 := S_Fp_P2_v914.wr W35
              have S_Fp_P2_v916 := S_Fp_P2_v915.wr W41
              have S_Fp_P2_v917 := S_Fp_P2_v916.wr W47
              have S_Fp_P2_v918 := S_Fp_P2_v917.wr W52
              have S_Fp_P2_v919 := S_Fp_P2_v918.wr W57
              have S_Fp_P2_v920 := S_Fp_P2_v919.wr W62
              have S_Fp_P2_v921 := S_Fp_P2_v920.wr W67
              have S_Fp_P2_v922 := S_Fp_P2_v921.wr W860
              have S_Fp_P3_v923 := S_Fp_P3.ext E1
              have S_Fp_P3_v924 := S_Fp_P3_v923.wr W3
              have S_Fp_P3_v925 := S_Fp_P3_v924.wr W5
              have S_Fp_P3_v926 := S_Fp_P3_v925.wr W7
              have S_Fp_P3_v927 := S_Fp_P3_v926.wr W9
              have S_Fp_P3_v928 := S_Fp_P3_v927.wr W11
              have S_Fp_P3_v929 := S_Fp_P3_v928.wr W13
              have S_Fp_P3_v930 := S_Fp_P3_v929.wr W15
              have S_Fp_P3_v931 := S_Fp_P3_v930.ext E22
              have S_Fp_P3_v932 := S_Fp_P3_v931.wr W35
              have S_Fp_P3_v933 := S_Fp_P3_v932.wr W41
              have S_Fp_P3_v934 := S_Fp_P3_v933.wr W47
              have S_Fp_P3_v935 := S_Fp_P3_v934.wr W52
              have S_Fp_P3_v936 := S_Fp_P3_v935.wr W57
              have S_Fp_P3_v937 := S_Fp_P3_v936.wr W62
              have S_Fp_P3_v938 := S_Fp_P3_v937.wr W67
              have S_Fp_P3_v939 := S_Fp_P3_v938.wr W860
              have S_Fp_P4_v940 := S_Fp_P4.ext E1
              have S_Fp_P4_v941 := S_Fp_P4_v940.wr W3
              have S_Fp_P4_v942 := S_Fp_P4_v941.wr W5
              have S_Fp_P4_v943 := S_Fp_P4_v942.wr W7
              have S_Fp_P4_v944 := S_Fp_P4_v943.wr W9
              have S_Fp_P4_v945 := S_Fp_P4_v944.wr W11
              have S_Fp_P4_v946 := S_Fp_P4_v945.wr W13
              have S_Fp_P4_v947 := S_Fp_P4_v946.wr W15
              have S_Fp_P4_v948 := S_Fp_P4_v947.ext E22
              have S_Fp_P4_v949 := S_Fp_P4_v948.wr W35
              have S_Fp_P4_v950 := S_Fp_P4_v949.wr W41
              have S_Fp_P4_v951 := S_Fp_P4_v950.wr W47
              have S_Fp_P4_v952 := S_Fp_P4_v951.wr W52
              have S_Fp_P4_v953 := S_Fp_P4_v952.wr W57
              have S_Fp_P4_v954 := S_Fp_P4_v953.wr W62
              have S_Fp_P4_v955 := S_Fp_P4_v954.wr W67
              have S_Fp_P4_v956 := S_Fp_P4_v955.wr W860
              have S_Fp_P5_v957 := S_Fp_P5.ext E1
              have S_Fp_P5_v958 := S_Fp_P5_v957.wr W3
              have S_Fp_P5_v959 := S_Fp_P5_v958.wr W5
              have S_Fp_P5_v960 := S_Fp_P5_v959.wr W7
              have S_Fp_P5_v961 := S_Fp_P5_v960.wr W9
              have S_Fp_P5_v962 := S_Fp_P5_v961.wr W11
              have S_Fp_P5_v963 := S_Fp_P5_v962.wr W13
              have S_Fp_P5_v964 := S_Fp_P5_v963.wr W15
              have S_Fp_P5_v965 := S_Fp_P5_v964.ext E22
              have S_Fp_P5_v966 := S_Fp_P5_v965.wr W35
              have S_Fp_P5_v967 := S_Fp_P5_v966.wr W41
              have S_Fp_P5_v968 := S_Fp_P5_v967.wr W47
              have S_Fp_P5_v969 := S_Fp_P5_v968.wr W52
              have S_Fp_P5_v970 := S_Fp_P5_v969.wr W57
              have S_Fp_P5_v971 := S_Fp_P5_v970.wr W62
              have S_Fp_P5_v972 := S_Fp_P5_v971.wr W67
              have S_Fp_P5_v973 := S_Fp_P5_v972.wr W860
              have S_Fp_P6_v974 := S_Fp_P6.ext E1
              have S_Fp_P6_v975 := S_Fp_P6_v974.wr W3
              have S_Fp_P6_v976 := S_Fp_P6_v975.wr W5
              have S_Fp_P6_v977 := S_Fp_P6_v976.wr W7
              have S_Fp_P6_v978 := S_Fp_P6_v977.wr W9
              have S_Fp_P6_v979 := S_Fp_P6_v978.wr W11
              have S_Fp_P6_v980 := S_Fp_P6_v979.wr W13
              have S_Fp_P6_v981 := S_Fp_P6_v980.wr W15
              have S_Fp_P6_v982 := S_Fp_P6_v981.ext E22
              have S_Fp_P6_v983 := S_Fp_P6_v982.wr W35
              have S_Fp_P6_v984 := S_Fp_P6_v983.wr W41
              have S_Fp_P6_v985 := S_Fp_P6_v984.wr W47
              have S_Fp_P6_v986 := S_Fp_P6_v985.wr W52
              have S_Fp_P6_v987 := S_Fp_P6_v986.wr W57
              have S_Fp_P6_v988 := S_Fp_P6_v987.wr W62
              have S_Fp_P6_v989 := S_Fp_P6_v988.wr W67
              have S_Fp_P6_v990 := S_Fp_P6_v989.wr W860
              exact rest68 () _ _ (own_mono X860 (by decide) (by decide)) N860 (by rw [e860]; exact ⟨x0, (0 : Int64), x2, x3, x4, x5, x6, Z0_v869, Vx_v871, V860, bx0, ⟨by decide, by decide⟩, bx2, bx3, bx4, bx5, bx6, S_Fp_P0_v888, S_Fp_P1_v905, S_Fp_P2_v922, S_Fp_P3_v939, S_Fp_P4_v956, S_Fp_P5_v973, S_Fp_P6_v990, Or.inr (Or.inr (Or.inl ⟨(phi18.resolve_left hc248_604), hqhk726, rfl, rfl, rfl, rfl, rfl, rfl, rfl⟩))⟩)
            · have hqhk726 : z21 = (2 : Int32) := by rw [hz21]; exact hk726
              refine own_go (B := T67.setTop (mkF m 251 (LS_JsJsJsJsJsJsJsRIIIIIRuuu q0 q1 q2 q3 q4 q5 (36028797018963967 : Int64) b1 (((q5.toUInt64 >>> ((61 : Int32) &&& 0x3f).toInt64.toUInt64).toInt64).toInt32) fA fB fP (2 : Int32) b22) [])) (fun t k => by rw [hqhk726]; exact k) ?_
              refine own_go (B := T67.setTop (mkF m 256 (LS_JsJsJsJsJsJsJsRIIIIIRuuu q0 q1 q2 q3 q4 q5 (36028797018963967 : Int64) b1 (((q5.toUInt64 >>> ((61 : Int32) &&& 0x3f).toInt64.toUInt64).toInt64).toInt32) fA fB fP (2 : Int32) b22) [(.long (0 : Int64)), (.int (2 : Int32)), (.ref b22)])) (fun t k => ?_) ?_
              · refine XS.aload X67.here hx rfl (hb hby at_251) rfl rfl ?_
                refine XS.iload X67.here hx rfl (hb hby at_253) rfl ?_
                show Steps p.tables e below (T67.setTop (mkF m 255 (LS_JsJsJsJsJsJsJsRIIIIIRuuu q0 q1 q2 q3 q4 q5 (36028797018963967 : Int64) b1 (((q5.toUInt64 >>> ((61 : Int32) &&& 0x3f).toInt64.toUInt64).toInt64).toInt32) fA fB fP (2 : Int32) b22) [(.int (2 : Int32)), (.ref b22)])) _
                refine XS.lconst X67.here hx rfl (hb hby at_255) ?_
                exact k
              obtain ⟨cl991, Ar991, qa991, Sa991, Na991, Ha991, Ga991⟩ := id V67
              have hin992 : ¬ ((2 : Int32) < 0 ∨ cl991.slots.size ≤ ((2 : Int32)).toNatClampNeg) := inb_of Sa991 ⟨by decide, by decide⟩
              obtain ⟨T992, h992, X992, e992, W992, st992⟩ := stJ X67 hx hZ e67 Ar991 (j := (2 : Int32)) hin992 (g := (mkF m 256 (LS_JsJsJsJsJsJsJsRIIIIIRuuu q0 q1 q2 q3 q4 q5 (36028797018963967 : Int64) b1 (((q5.toUInt64 >>> ((61 : Int32) &&& 0x3f).toInt64.toUInt64).toInt64).toInt32) fA fB fP (2 : Int32) b22) [(.long (0 : Int64)), (.int (2 : Int32)), (.ref b22)])) rfl rfl (hb hby at_256)
              have N992 := Fr.snoc X992 N67 g_b22
              have V992 : Arv Z h992 b22 k22 .long (7 : Int32) [(.long x0), (.long x1), (.long (0 : Int64)), (.long x3), (.long x4), (.long x5), (.long x6)] (.long (0 : Int64)) := Arv.set Ar991 qa991 Sa991 Na991 Ha991 Ga991 rfl W992 2 rfl (Nat.le_of_ble_eq_true rfl)
              refine own_go (B := T992.setTop (mkF m 257 (LS_JsJsJsJsJsJsJsRIIIIIRuuu q0 q1 q2 q3 q4 q5 (36028797018963967 : Int64) b1 (((q5.toUInt64 >>> ((61 : Int32) &&& 0x3f).toInt64.toUInt64).toInt64).toInt32) fA fB fP (2 : Int32) b22) [])) (fun t k => st992 _ k) ?_
              refine own_go (B := T992.setTop (mkF m 257 (LS_JsJsJsJsJsJsJsRIIIIIRuuu q0 q1 q2 q3 q4 q5 (36028797018963967 : Int64) b1 (((q5.toUInt64 >>> ((61 : Int32) &&& 0x3f).toInt64.toUInt64).toInt64).toInt32) fA fB fP z21 b22) [])) (fun t k => by rw [hqhk726] at k; exact k) ?_
              have Z0_v993 := Nat.le_trans Z0_v30 E22.1
              have Z0_v994 := Nat.le_trans Z0_v993 (Nat.le_of_eq W35.size.symm)
              have Z0_v995 := Nat.le_trans Z0_v994 (Nat.le_of_eq W41.size.symm)
              have Z0_v996 := Nat.le_trans Z0_v995 (Nat.le_of_eq W47.size.symm)
              have Z0_v997 := Nat.le_trans Z0_v996 (Nat.le_of_eq W52.size.symm)
              have Z0_v998 := Nat.le_trans Z0_v997 (Nat.le_of_eq W57.size.symm)
              have Z0_v999 := Nat.le_trans Z0_v998 (Nat.le_of_eq W62.size.symm)
              have Z0_v1000 := Nat.le_trans Z0_v999 (Nat.le_of_eq W67.size.symm)
              have Z0_v1001 := Nat.le_trans Z0_v1000 (Nat.le_of_eq W992.size.symm)
              have Vx_v1002 := Vx_v64.other W67 ne38
              have Vx_v1003 := Vx_v1002.other W992 ne38
              have S_Fp_P0_v1004 := S_Fp_P0.ext E1
              have S_Fp_P0_v1005 := S_Fp_P0_v1004.wr W3
              have S_Fp_P0_v1006 := S_Fp_P0_v1005.wr W5
              have S_Fp_P0_v1007 := S_Fp_P0_v1006.wr W7
              have S_Fp_P0_v1008 := S_Fp_P0_v1007.wr W9
              have S_Fp_P0_v1009 := S_Fp_P0_v1008.wr W11
              have S_Fp_P0_v1010 := S_Fp_P0_v1009.wr W13
              have S_Fp_P0_v1011 := S_Fp_P0_v1010.wr W15
              have S_Fp_P0_v1012 := S_Fp_P0_v1011.ext E22
              have S_Fp_P0_v1013 := S_Fp_P0_v1012.wr W35
              have S_Fp_P0_v1014 := S_Fp_P0_v1013.wr W41
              have S_Fp_P0_v1015 := S_Fp_P0_v1014.wr W47
              have S_Fp_P0_v1016 := S_Fp_P0_v1015.wr W52
              have S_Fp_P0_v1017 := S_Fp_P0_v1016.wr W57
              have S_Fp_P0_v1018 := S_Fp_P0_v1017.wr W62
              have S_Fp_P0_v1019 := S_Fp_P0_v1018.wr W67
              have S_Fp_P0_v1020 := S_Fp_P0_v1019.wr W992
              have S_Fp_P1_v1021 := S_Fp_P1.ext E1
              have S_Fp_P1_v1022 := S_Fp_P1_v1021.wr W3
              have S_Fp_P1_v1023 := S_Fp_P1_v1022.wr W5
              have S_Fp_P1_v1024 := S_Fp_P1_v1023.wr W7
              have S_Fp_P1_v1025 := S_Fp_P1_v1024.wr W9
              have S_Fp_P1_v1026 := S_Fp_P1_v1025.wr W11
              have S_Fp_P1_v1027 := S_Fp_P1_v1026.wr W13
              have S_Fp_P1_v1028 := S_Fp_P1_v1027.wr W15
              have S_Fp_P1_v1029 := S_Fp_P1_v1028.ext E22
              have S_Fp_P1_v1030 := S_Fp_P1_v1029.wr W35
              have S_Fp_P1_v1031 := S_Fp_P1_v1030.wr W41
              have S_Fp_P1_v1032 := S_Fp_P1_v1031.wr W47
              have S_Fp_P1_v1033 := S_Fp_P1_v1032.wr W52
              have S_Fp_P1_v1034 := S_Fp_P1_v1033.wr W57
              have S_Fp_P1_v1035 := S_Fp_P1_v1034.wr W62
              have S_Fp_P1_v1036 := S_Fp_P1_v1035.wr W67
              have S_Fp_P1_v1037 := S_Fp_P1_v1036.wr W992
              have S_Fp_P2_v1038 := S_Fp_P2.ext E1
              have S_Fp_P2_v1039 := S_Fp_P2_v1038.wr W3
              have S_Fp_P2_v1040 := S_Fp_P2_v1039.wr W5
              have S_Fp_P2_v1041 := S_Fp_P2_v1040.wr W7
              have S_Fp_P2_v1042 := S_Fp_P2_v1041.wr W9
              have S_Fp_P2_v1043 := S_Fp_P2_v1042.wr W11
              have S_Fp_P2_v1044 := S_Fp_P2_v1043.wr W13
              have S_Fp_P2_v1045 := S_Fp_P2_v1044.wr W15
              have S_Fp_P2_v1046 := S_Fp_P2_v1045.ext E22
              have S_Fp_P2_v1047 := S_Fp_P2_v1046.wr W35
              have S_Fp_P2_v1048 := S_Fp_P2_v1047.wr W41
              have S_Fp_P2_v1049 := S_Fp_P2_v1048.wr W47
              have S_Fp_P2_v1050 := S_Fp_P2_v1049.wr W52
              have S_Fp_P2_v1051 := S_Fp_P2_v1050.wr W57
              have S_Fp_P2_v1052 := S_Fp_P2_v1051.wr W62
              have S_Fp_P2_v1053 := S_Fp_P2_v1052.wr W67
              have S_Fp_P2_v1054 := S_Fp_P2_v1053.wr W992
              have S_Fp_P3_v1055 := S_Fp_P3.ext E1
              have S_Fp_P3_v1056 := S_Fp_P3_v1055.wr W3
              have S_Fp_P3_v1057 := S_Fp_P3_v1056.wr W5
              have S_Fp_P3_v1058 := S_Fp_P3_v1057.wr W7
              have S_Fp_P3_v1059 := S_Fp_P3_v1058.wr W9
              have S_Fp_P3_v1060 := S_Fp_P3_v1059.wr W11
              have S_Fp_P3_v1061 := S_Fp_P3_v1060.wr W13
              have S_Fp_P3_v1062 := S_Fp_P3_v1061.wr W15
              have S_Fp_P3_v1063 := S_Fp_P3_v1062.ext E22
              have S_Fp_P3_v1064 := S_Fp_P3_v1063.wr W35
              have S_Fp_P3_v1065 := S_Fp_P3_v1064.wr W41
              have S_Fp_P3_v1066 := S_Fp_P3_v1065.wr W47
              have S_Fp_P3_v1067 := S_Fp_P3_v1066.wr W52
              have S_Fp_P3_v1068 := S_Fp_P3_v1067.wr W57
              have S_Fp_P3_v1069 := S_Fp_P3_v1068.wr W62
              have S_Fp_P3_v1070 := S_Fp_P3_v1069.wr W67
              have S_Fp_P3_v1071 := S_Fp_P3_v1070.wr W992
              have S_Fp_P4_v1072 := S_Fp_P4.ext E1
              have S_Fp_P4_v1073 := S_Fp_P4_v1072.wr W3
              have S_Fp_P4_v1074 := S_Fp_P4_v1073.wr W5
              have S_Fp_P4_v1075 := S_Fp_P4_v1074.wr W7
              have S_Fp_P4_v1076 := S_Fp_P4_v1075.wr W9
              have S_Fp_P4_v1077 := S_Fp_P4_v1076.wr W11
              have S_Fp_P4_v1078 := S_Fp_P4_v1077.wr W13
              have S_Fp_P4_v1079 := S_Fp_P4_v1078.wr W15
              have S_Fp_P4_v1080 := S_Fp_P4_v1079.ext E22
              have S_Fp_P4_v1081 := S_Fp_P4_v1080.wr W35
              have S_Fp_P4_v1082 := S_Fp_P4_v1081.wr W41
              have S_Fp_P4_v1083 := S_Fp_P4_v1082.wr W47
              have S_Fp_P4_v1084 := S_Fp_P4_v1083.wr W52
              have S_Fp_P4_v1085 := S_Fp_P4_v1084.wr W57
              have S_Fp_P4_v1086 := S_Fp_P4_v1085.wr W62
              have S_Fp_P4_v1087 := S_Fp_P4_v1086.wr W67
              have S_Fp_P4_v1088 := S_Fp_P4_v1087.wr W992
              have S_Fp_P5_v1089 := S_Fp_P5.ext E1
              have S_Fp_P5_v1090 := S_Fp_P5_v1089.wr W3
              have S_Fp_P5_v1091 := S_Fp_P5_v1090.wr W5
              have S_Fp_P5_v1092 := S_Fp_P5_v1091.wr W7
              have S_Fp_P5_v1093 := S_Fp_P5_v1092.wr W9
              have S_Fp_P5_v1094 := S_Fp_P5_v1093.wr W11
              have S_Fp_P5_v1095 := S_Fp_P5_v1094.wr W13
              have S_Fp_P5_v1096 := S_Fp_P5_v1095.wr W15
              have S_Fp_P5_v1097 := S_Fp_P5_v1096.ext E22
              have S_Fp_P5_v1098 := S_Fp_P5_v1097.wr W35
              have S_Fp_P5_v1099 := S_Fp_P5_v1098.wr W41
              have S_Fp_P5_v1100 := S_Fp_P5_v1099.wr W47
              have S_Fp_P5_v1101 := S_Fp_P5_v1100.wr W52
              have S_Fp_P5_v1102 := S_Fp_P5_v1101.wr W57
              have S_Fp_P5_v1103 := S_Fp_P5_v1102.wr W62
              have S_Fp_P5_v1104 := S_Fp_P5_v1103.wr W67
              have S_Fp_P5_v1105 := S_Fp_P5_v1104.wr W992
              have S_Fp_P6_v1106 := S_Fp_P6.ext E1
              have S_Fp_P6_v1107 := S_Fp_P6_v1106.wr W3
              have S_Fp_P6_v1108 := S_Fp_P6_v1107.wr W5
              have S_Fp_P6_v1109 := S_Fp_P6_v1108.wr W7
              have S_Fp_P6_v1110 := S_Fp_P6_v1109.wr W9
              have S_Fp_P6_v1111 := S_Fp_P6_v1110.wr W11
              have S_Fp_P6_v1112 := S_Fp_P6_v1111.wr W13
              have S_Fp_P6_v1113 := S_Fp_P6_v1112.wr W15
              have S_Fp_P6_v1114 := S_Fp_P6_v1113.ext E22
              have S_Fp_P6_v1115 := S_Fp_P6_v1114.wr W35
              have S_Fp_P6_v1116 := S_Fp_P6_v1115.wr W41
              have S_Fp_P6_v1117 := S_Fp_P6_v1116.wr W47
              have S_Fp_P6_v1118 := S_Fp_P6_v1117.wr W52
              have S_Fp_P6_v1119 := S_Fp_P6_v1118.wr W57
              have S_Fp_P6_v1120 := S_Fp_P6_v1119.wr W62
              have S_Fp_P6_v1121 := S_Fp_P6_v1120.wr W67
              have S_Fp_P6_v1122 := S_Fp_P6_v1121.wr W992
              exact rest68 () _ _ (own_mono X992 (by decide) (by decide)) N992 (by rw [e992]; exact ⟨x0, x1, (0 : Int64), x3, x4, x5, x6, Z0_v1001, Vx_v1003, V992, bx0, bx1, ⟨by decide, by decide⟩, bx3, bx4, bx5, bx6, S_Fp_P0_v1020, S_Fp_P1_v1037, S_Fp_P2_v1054, S_Fp_P3_v1071, S_Fp_P4_v1088, S_Fp_P5_v1105, S_Fp_P6_v1122, Or.inr (Or.inr (Or.inr (Or.inl ⟨(phi18.resolve_left hc248_604), hqhk726, rfl, rfl, rfl, rfl, rfl, rfl, rfl⟩)))⟩)
            · have hqhk726 : z21 = (3 : Int32) := by rw [hz21]; exact hk726
              refine own_go (B := T67.setTop (mkF m 251 (LS_JsJsJsJsJsJsJsRIIIIIRuuu q0 q1 q2 q3 q4 q5 (36028797018963967 : Int64) b1 (((q5.toUInt64 >>> ((61 : Int32) &&& 0x3f).toInt64.toUInt64).toInt64).toInt32) fA fB fP (3 : Int32) b22) [])) (fun t k => by rw [hqhk726]; exact k) ?_
              refine own_go (B := T67.setTop (mkF m 256 (LS_JsJsJsJsJsJsJsRIIIIIRuuu q0 q1 q2 q3 q4 q5 (36028797018963967 : Int64) b1 (((q5.toUInt64 >>> ((61 : Int32) &&& 0x3f).toInt64.toUInt64).toInt64).toInt32) fA fB fP (3 : Int32) b22) [(.long (0 : Int64)), (.int (3 : Int32)), (.ref b22)])) (fun t k => ?_) ?_
              · refine XS.aload X67.here hx rfl (hb hby at_251) rfl rfl ?_
                refine XS.iload X67.here hx rfl (hb hby at_253) rfl ?_
                show Steps p.tables e below (T67.setTop (mkF m 255 (LS_JsJsJsJsJsJsJsRIIIIIRuuu q0 q1 q2 q3 q4 q5 (36028797018963967 : Int64) b1 (((q5.toUInt64 >>> ((61 : Int32) &&& 0x3f).toInt64.toUInt64).toInt64).toInt32) fA fB fP (3 : Int32) b22) [(.int (3 : Int32)), (.ref b22)])) _
                refine XS.lconst X67.here hx rfl (hb hby at_255) ?_
                exact k
              obtain ⟨cl1123, Ar1123, qa1123, Sa1123, Na1123, Ha1123, Ga1123⟩ := id V67
              have hin1124 : ¬ ((3 : Int32) < 0 ∨ cl1123.slots.size ≤ ((3 : Int32)).toNatClampNeg) := inb_of Sa1123 ⟨by decide, by decide⟩
              obtain ⟨T1124, h1124, X1124, e1124, W1124, st1124⟩ := stJ X67 hx hZ e67 Ar1123 (j := (3 : Int32)) hin1124 (g := (mkF m 256 (LS_JsJsJsJsJsJsJsRIIIIIRuuu q0 q1 q2 q3 q4 q5 (36028797018963967 : Int64) b1 (((q5.toUInt64 >>> ((61 : Int32) &&& 0x3f).toInt64.toUInt64).toInt64).toInt32) fA fB fP (3 : Int32) b22) [(.long (0 : Int64)), (.int (3 : Int32)), (.ref b22)])) rfl rfl (hb hby at_256)
              have N1124 := Fr.snoc X1124 N67 g_b22
              have V1124 : Arv Z h1124 b22 k22 .long (7 : Int32) [(.long x0), (.long x1), (.long x2), (.long (0 : Int64)), (.long x4), (.long x5), (.long x6)] (.long (0 : Int64)) := Arv.set Ar1123 qa1123 Sa1123 Na1123 Ha1123 Ga1123 rfl W1124 3 rfl (Nat.le_of_ble_eq_true rfl)
              refine own_go (B := T1124.setTop (mkF m 257 (LS_JsJsJsJsJsJsJsRIIIIIRuuu q0 q1 q2 q3 q4 q5 (36028797018963967 : Int64) b1 (((q5.toUInt64 >>> ((61 : Int32) &&& 0x3f).toInt64.toUInt64).toInt64).toInt32) fA fB fP (3 : Int32) b22) [])) (fun t k => st1124 _ k) ?_
              refine own_go (B := T1124.setTop (mkF m 257 (LS_JsJsJsJsJsJsJsRIIIIIRuuu q0 q1 q2 q3 q4 q5 (36028797018963967 : Int64) b1 (((q5.toUInt64 >>> ((61 : Int32) &&& 0x3f).toInt64.toUInt64).toInt64).toInt32) fA fB fP z21 b22) [])) (fun t k => by rw [hqhk726] at k; exact k) ?_
              have Z0_v1125 := Nat.le_trans Z0_v30 E22.1
              have Z0_v1126 := Nat.le_trans Z0_v1125 (Nat.le_of_eq W35.size.symm)
              have Z0_v1127 := Nat.le_trans Z0_v1126 (Nat.le_of_eq W41.size.symm)
              have Z0_v1128 := Nat.le_trans Z0_v1127 (Nat.le_of_eq W47.size.symm)
              have Z0_v1129 := Nat.le_trans Z0_v1128 (Nat.le_of_eq W52.size.symm)
              have Z0_v1130 := Nat.le_trans Z0_v1129 (Nat.le_of_eq W57.size.symm)
              have Z0_v1131 := Nat.le_trans Z0_v1130 (Nat.le_of_eq W62.size.symm)
              have Z0_v1132 := Nat.le_trans Z0_v1131 (Nat.le_of_eq W67.size.symm)
              have Z0_v1133 := Nat.le_trans Z0_v1132 (Nat.le_of_eq W1124.size.symm)
              have Vx_v1134 := Vx_v64.other W67 ne38
              have Vx_v1135 := Vx_v1134.other W1124 ne38
              have S_Fp_P0_v1136 := S_Fp_P0.ext E1
              have S_Fp_P0_v1137 := S_Fp_P0_v1136.wr W3
              have S_Fp_P0_v1138 := S_Fp_P0_v1137.wr W5
              have S_Fp_P0_v1139 := S_Fp_P0_v1138.wr W7
              have S_Fp_P0_v1140 := S_Fp_P0_v1139.wr W9
              have S_Fp_P0_v1141 := S_Fp_P0_v1140.wr W11
              have S_Fp_P0_v1142 := S_Fp_P0_v1141.wr W13
              have S_Fp_P0_v1143 := S_Fp_P0_v1142.wr W15
              have S_Fp_P0_v1144 := S_Fp_P0_v1143.ext E22
              have S_Fp_P0_v1145 := S_Fp_P0_v1144.wr W35
              have S_Fp_P0_v1146 := S_Fp_P0_v1145.wr W41
              have S_Fp_P0_v1147 := S_Fp_P0_v1146.wr W47
              have S_Fp_P0_v1148 := S_Fp_P0_v1147.wr W52
              have S_Fp_P0_v1149 := S_Fp_P0_v1148.wr W57
              have S_Fp_P0_v1150 := S_Fp_P0_v1149.wr W62
              have S_Fp_P0_v1151 := S_Fp_P0_v1150.wr W67
              have S_Fp_P0_v1152 := S_Fp_P0_v1151.wr W1124
              have S_Fp_P1_v1153 := S_Fp_P1.ext E1
              have S_Fp_P1_v1154 := S_Fp_P1_v1153.wr W3
              have S_Fp_P1_v1155 := S_Fp_P1_v1154.wr W5
              have S_Fp_P1_v1156 := S_Fp_P1_v1155.wr W7
              have S_Fp_P1_v1157 := S_Fp_P1_v1156.wr W9
              have S_Fp_P1_v1158 := S_Fp_P1_v1157.wr W11
              have S_Fp_P1_v1159 := S_Fp_P1_v1158.wr W13
              have S_Fp_P1_v1160 := S_Fp_P1_v1159.wr W15
              have S_Fp_P1_v1161 := S_Fp_P1_v1160.ext E22
              have S_Fp_P1_v1162 := S_Fp_P1_v1161.wr W35
              have S_Fp_P1_v1163 := S_Fp_P1_v1162.wr W41
              have S_Fp_P1_v1164 := S_Fp_P1_v1163.wr W47
              have S_Fp_P1_v1165 := S_Fp_P1_v1164.wr W52
              have S_Fp_P1_v1166 := S_Fp_P1_v1165.wr W57
              have S_Fp_P1_v1167 := S_Fp_P1_v1166.wr W62
              have S_Fp_P1_v1168 := S_Fp_P1_v1167.wr W67
              have S_Fp_P1_v1169 := S_Fp_P1_v1168.wr W1124
              have S_Fp_P2_v1170 := S_Fp_P2.ext E1
              have S_Fp_P2_v1171 := S_Fp_P2_v1170.wr W3
              have S_Fp_P2_v1172 := S_Fp_P2_v1171.wr W5
              have S_Fp_P2_v1173 := S_Fp_P2_v1172.wr W7
              have S_Fp_P2_v1174 := S_Fp_P2_v1173.wr W9
              have S_Fp_P2_v1175 := S_Fp_P2_v1174.wr W11
              have S_Fp_P2_v1176 := S_Fp_P2_v1175.wr W13
              have S_Fp_P2_v1177 := S_Fp_P2_v1176.wr W15
              have S_Fp_P2_v1178 := S_Fp_P2_v1177.ext E22
              have S_Fp_P2_v1179 := S_Fp_P2_v1178.wr W35
              have S_Fp_P2_v1180 := S_Fp_P2_v1179.wr W41
              have S_Fp_P2_v1181 := S_Fp_P2_v1180.wr W47
              have S_Fp_P2_v1182 := S_Fp_P2_v1181.wr W52
              have S_Fp_P2_v1183 := S_Fp_P2_v1182.wr W57
              have S_Fp_P2_v1184 := S_Fp_P2_v1183.wr W62
              have S_Fp_P2_v1185 := S_Fp_P2_v1184.wr W67
              have S_Fp_P2_v1186 := S_Fp_P2_v1185.wr W1124
              have S_Fp_P3_v1187 := S_Fp_P3.ext E1
              have S_Fp_P3_v1188 := S_Fp_P3_v1187.wr W3
              have S_Fp_P3_v1189 := S_Fp_P3_v1188.wr W5
              have S_Fp_P3_v1190 := S_Fp_P3_v1189.wr W7
              have S_Fp_P3_v1191 := S_Fp_P3_v1190.wr W9
              have S_Fp_P3_v1192 := S_Fp_P3_v1191.wr W11
              have S_Fp_P3_v1193 := S_Fp_P3_v1192.wr W13
              have S_Fp_P3_v1194 := S_Fp_P3_v1193.wr W15
              have S_Fp_P3_v1195 := S_Fp_P3_v1194.ext E22
              have S_Fp_P3_v1196 := S_Fp_P3_v1195.wr W35
              have S_Fp_P3_v1197 := S_Fp_P3_v1196.wr W41
              have S_Fp_P3_v1198 := S_Fp_P3_v1197.wr W47
              have S_Fp_P3_v1199 := S_Fp_P3_v1198.wr W52
              have S_Fp_P3_v1200 := S_Fp_P3_v1199.wr W57
              have S_Fp_P3_v1201 := S_Fp_P3_v1200.wr W62
              have S_Fp_P3_v1202 := S_Fp_P3_v1201.wr W67
              have S_Fp_P3_v1203 := S_Fp_P3_v1202.wr W1124
              have S_Fp_P4_v1204 := S_Fp_P4.ext E1
              have S_Fp_P4_v1205 := S_Fp_P4_v1204.wr W3
              have S_Fp_P4_v1206 := S_Fp_P4_v1205.wr W5
              have S_Fp_P4_v1207 := S_Fp_P4_v1206.wr W7
              have S_Fp_P4_v1208 := S_Fp_P4_v1207.wr W9
              have S_Fp_P4_v1209 := S_Fp_P4_v1208.wr W11
              have S_Fp_P4_v1210 := S_Fp_P4_v1209.wr W13
              have S_Fp_P4_v1211 := S_Fp_P4_v1210.wr W15
              have S_Fp_P4_v1212 := S_Fp_P4_v1211.ext E22
              have S_Fp_P4_v1213 := S_Fp_P4_v1212.wr W35
              have S_Fp_P4_v1214 := S_Fp_P4_v1213.wr W41
              have S_Fp_P4_v1215 := S_Fp_P4_v1214.wr W47
              have S_Fp_P4_v1216 := S_Fp_P4_v1215.wr W52
              have S_Fp_P4_v1217 := S_Fp_P4_v1216.wr W57
              have S_Fp_P4_v1218 := S_Fp_P4_v1217.wr W62
              have S_Fp_P4_v1219 := S_Fp_P4_v1218.wr W67
              have S_Fp_P4_v1220 := S_Fp_P4_v1219.wr W1124
              have S_Fp_P5_v1221 := S_Fp_P5.ext E1
              have S_Fp_P5_v1222 := S_Fp_P5_v1221.wr W3
              have S_Fp_P5_v1223 := S_Fp_P5_v1222.wr W5
              have S_Fp_P5_v1224 := S_Fp_P5_v1223.wr W7
              have S_Fp_P5_v1225 := S_Fp_P5_v1224.wr W9
              have S_Fp_P5_v1226 := S_Fp_P5_v1225.wr W11
              have S_Fp_P5_v1227 := S_Fp_P5_v1226.wr W13
              have S_Fp_P5_v1228 := S_Fp_P5_v1227.wr W15
              have S_Fp_P5_v1229 := S_Fp_P5_v1228.ext E22
              have S_Fp_P5_v1230 := S_Fp_P5_v1229.wr W35
              have S_Fp_P5_v1231 := S_Fp_P5_v1230.wr W41
              have S_Fp_P5_v1232 := S_Fp_P5_v1231.wr W47
              have S_Fp_P5_v1233 := S_Fp_P5_v1232.wr W52
              have S_Fp_P5_v1234 := S_Fp_P5_v1233.wr W57
              have S_Fp_P5_v1235 := S_Fp_P5_v1234.wr W62
              have S_Fp_P5_v1236 := S_Fp_P5_v1235.wr W67
              have S_Fp_P5_v1237 := S_Fp_P5_v1236.wr W1124
              have S_Fp_P6_v1238 := S_Fp_P6.ext E1
              have S_Fp_P6_v1239 := S_Fp_P6_v1238.wr W3
              have S_Fp_P6_v1240 := S_Fp_P6_v1239.wr W5
              have S_Fp_P6_v1241 := S_Fp_P6_v1240.wr W7
              have S_Fp_P6_v1242 := S_Fp_P6_v1241.wr W9
              have S_Fp_P6_v1243 := S_Fp_P6_v1242.wr W11
              have S_Fp_P6_v1244 := S_Fp_P6_v1243.wr W13
              have S_Fp_P6_v1245 := S_Fp_P6_v1244.wr W15
              have S_Fp_P6_v1246 := S_Fp_P6_v1245.ext E22
              have S_Fp_P6_v1247 := S_Fp_P6_v1246.wr W35
              have S_Fp_P6_v1248 := S_Fp_P6_v1247.wr W41
              have S_Fp_P6_v1249 := S_Fp_P6_v1248.wr W47
              have S_Fp_P6_v1250 := S_Fp_P6_v1249.wr W52
              have S_Fp_P6_v1251 := S_Fp_P6_v1250.wr W57
              have S_Fp_P6_v1252 := S_Fp_P6_v1251.wr W62
              have S_Fp_P6_v1253 := S_Fp_P6_v1252.wr W67
              have S_Fp_P6_v1254 := S_Fp_P6_v1253.wr W1124
              exact rest68 () _ _ (own_mono X1124 (by decide) (by decide)) N1124 (by rw [e1124]; exact ⟨x0, x1, x2, (0 : Int64), x4, x5, x6, Z0_v1133, Vx_v1135, V1124, bx0, bx1, bx2, ⟨by decide, by decide⟩, bx4, bx5, bx6, S_Fp_P0_v1152, S_Fp_P1_v1169, S_Fp_P2_v1186, S_Fp_P3_v1203, S_Fp_P4_v1220, S_Fp_P5_v1237, S_Fp_P6_v1254, Or.inr (Or.inr (Or.inr (Or.inr (Or.inl ⟨(phi18.resolve_left hc248_604), hqhk726, rfl, rfl, rfl, rfl, rfl, rfl, rfl⟩))))⟩)
            · have hqhk726 : z21 = (4 : Int32) := by rw [hz21]; exact hk726
              refine own_go (B := T67.setTop (mkF m 251 (LS_JsJsJsJsJsJsJsRIIIIIRuuu q0 q1 q2 q3 q4 q5 (36028797018963967 : Int64) b1 (((q5.toUInt64 >>> ((61 : Int32) &&& 0x3f).toInt64.toUInt64).toInt64).toInt32) fA fB fP (4 : Int32) b22) [])) (fun t k => by rw [hqhk726]; exact k) ?_
              refine own_go (B := T67.setTop (mkF m 256 (LS_JsJsJsJsJsJsJsRIIIIIRuuu q0 q1 q2 q3 q4 q5 (36028797018963967 : Int64) b1 (((q5.toUInt64 >>> ((61 : Int32) &&& 0x3f).toInt64.toUInt64).toInt64).toInt32) fA fB fP (4 : Int32) b22) [(.long (0 : Int64)), (.int (4 : Int32)), (.ref b22)])) (fun t k => ?_) ?_
              · refine XS.aload X67.here hx rfl (hb hby at_251) rfl rfl ?_
                refine XS.iload X67.here hx rfl (hb hby at_253) rfl ?_
                show Steps p.tables e below (T67.setTop (mkF m 255 (LS_JsJsJsJsJsJsJsRIIIIIRuuu q0 q1 q2 q3 q4 q5 (36028797018963967 : Int64) b1 (((q5.toUInt64 >>> ((61 : Int32) &&& 0x3f).toInt64.toUInt64).toInt64).toInt32) fA fB fP (4 : Int32) b22) [(.int (4 : Int32)), (.ref b22)])) _
                refine XS.lconst X67.here hx rfl (hb hby at_255) ?_
                exact k
              obtain ⟨cl1255, Ar1255, qa1255, Sa1255, Na1255, Ha1255, Ga1255⟩ := id V67
              have hin1256 : ¬ ((4 : Int32) < 0 ∨ cl1255.slots.size ≤ ((4 : Int32)).toNatClampNeg) := inb_of Sa1255 ⟨by decide, by decide⟩
              obtain ⟨T1256, h1256, X1256, e1256, W1256, st1256⟩ := stJ X67 hx hZ e67 Ar1255 (j := (4 : Int32)) hin1256 (g := (mkF m 256 (LS_JsJsJsJsJsJsJsRIIIIIRuuu q0 q1 q2 q3 q4 q5 (36028797018963967 : Int64) b1 (((q5.toUInt64 >>> ((61 : Int32) &&& 0x3f).toInt64.toUInt64).toInt64).toInt32) fA fB fP (4 : Int32) b22) [(.long (0 : Int64)), (.int (4 : Int32)), (.ref b22)])) rfl rfl (hb hby at_256)
              have N1256 := Fr.snoc X1256 N67 g_b22
              have V1256 : Arv Z h1256 b22 k22 .long (7 : Int32) [(.long x0), (.long x1), (.long x2), (.long x3), (.long (0 : Int64)), (.long x5), (.long x6)] (.long (0 : Int64)) := Arv.set Ar1255 qa1255 Sa1255 Na1255 Ha1255 Ga1255 rfl W1256 4 rfl (Nat.le_of_ble_eq_true rfl)
              refine own_go (B := T1256.setTop (mkF m 257 (LS_JsJsJsJsJsJsJsRIIIIIRuuu q0 q1 q2 q3 q4 q5 (36028797018963967 : Int64) b1 (((q5.toUInt64 >>> ((61 : Int32) &&& 0x3f).toInt64.toUInt64).toInt64).toInt32) fA fB fP (4 : Int32) b22) [])) (fun t k => st1256 _ k) ?_
              refine own_go (B := T1256.setTop (mkF m 257 (LS_JsJsJsJsJsJsJsRIIIIIRuuu q0 q1 q2 q3 q4 q5 (36028797018963967 : Int64) b1 (((q5.toUInt64 >>> ((61 : Int32) &&& 0x3f).toInt64.toUInt64).toInt64).toInt32) fA fB fP z21 b22) [])) (fun t k => by rw [hqhk726] at k; exact k) ?_
              have Z0_v1257 := Nat.le_trans Z0_v30 E22.1
              have Z0_v1258 := Nat.le_trans Z0_v1257 (Nat.le_of_eq W35.size.symm)
              have Z0_v1259 := Nat.le_trans Z0_v1258 (Nat.le_of_eq W41.size.symm)
              have Z0_v1260 := Nat.le_trans Z0_v1259 (Nat.le_of_eq W47.size.symm)
              have Z0_v1261 := Nat.le_trans Z0_v1260 (Nat.le_of_eq W52.size.symm)
              have Z0_v1262 := Nat.le_trans Z0_v1261 (Nat.le_of_eq W57.size.symm)
              have Z0_v1263 := Nat.le_trans Z0_v1262 (Nat.le_of_eq W62.size.symm)
              have Z0_v1264 := Nat.le_trans Z0_v1263 (Nat.le_of_eq W67.size.symm)
              have Z0_v1265 := Nat.le_trans Z0_v1264 (Nat.le_of_eq W1256.size.symm)
              have Vx_v1266 := Vx_v64.other W67 ne38
              have Vx_v1267 := Vx_v1266.other W1256 ne38
              have S_Fp_P0_v1268 := S_Fp_P0.ext E1
              have S_Fp_P0_v1269 := S_Fp_P0_v1268.wr W3
              have S_Fp_P0_v1270 := S_Fp_P0_v1269.wr W5
              have S_Fp_P0_v1271 := S_Fp_P0_v1270.wr W7
              have S_Fp_P0_v1272 := S_Fp_P0_v1271.wr W9
              have S_Fp_P0_v1273 := S_Fp_P0_v1272.wr W11
              have S_Fp_P0_v1274 := S_Fp_P0_v1273.wr W13
              have S_Fp_P0_v1275 := S_Fp_P0_v1274.wr W15
              have S_Fp_P0_v1276 := S_Fp_P0_v1275.ext E22
              have S_Fp_P0_v1277 := S_Fp_P0_v1276.wr W35
              have S_Fp_P0_v1278 := S_Fp_P0_v1277.wr W41
              have S_Fp_P0_v1279 := S_Fp_P0_v1278.wr W47
              have S_Fp_P0_v1280 := S_Fp_P0_v1279.wr W52
              have S_Fp_P0_v1281 := S_Fp_P0_v1280.wr W57
              have S_Fp_P0_v1282 := S_Fp_P0_v1281.wr W62
              have S_Fp_P0_v1283 := S_Fp_P0_v1282.wr W67
              have S_Fp_P0_v1284 := S_Fp_P0_v1283.wr W1256
              have S_Fp_P1_v1285 := S_Fp_P1.ext E1
              have S_Fp_P1_v1286 := S_Fp_P1_v1285.wr W3
              have S_Fp_P1_v1287 := S_Fp_P1_v1286.wr W5
              have S_Fp_P1_v1288 := S_Fp_P1_v1287.wr W7
              have S_Fp_P1_v1289 := S_Fp_P1_v1288.wr W9
              have S_Fp_P1_v1290 := S_Fp_P1_v1289.wr W11
              have S_Fp_P1_v1291 := S_Fp_P1_v1290.wr W13
              have S_Fp_P1_v1292 := S_Fp_P1_v1291.wr W15
              have S_Fp_P1_v1293 := S_Fp_P1_v1292.ext E22
              have S_Fp_P1_v1294 := S_Fp_P1_v1293.wr W35
              have S_Fp_P1_v1295 := S_Fp_P1_v1294.wr W41
              have S_Fp_P1_v1296 := S_Fp_P1_v1295.wr W47
              have S_Fp_P1_v1297 := S_Fp_P1_v1296.wr W52
              have S_Fp_P1_v1298 := S_Fp_P1_v1297.wr W57
              have S_Fp_P1_v1299 := S_Fp_P1_v1298.wr W62
              have S_Fp_P1_v1300 := S_Fp_P1_v1299.wr W67
              have S_Fp_P1_v1301 := S_Fp_P1_v1300.wr W1256
              have S_Fp_P2_v1302 := S_Fp_P2.ext E1
              have S_Fp_P2_v1303 := S_Fp_P2_v1302.wr W3
              have S_Fp_P2_v1304 := S_Fp_P2_v1303.wr W5
              have S_Fp_P2_v1305 := S_Fp_P2_v1304.wr W7
              have S_Fp_P2_v1306 := S_Fp_P2_v1305.wr W9
              have S_Fp_P2_v1307 := S_Fp_P2_v1306.wr W11
              have S_Fp_P2_v1308 := S_Fp_P2_v1307.wr W13
              have S_Fp_P2_v1309 := S_Fp_P2_v1308.wr W15
              have S_Fp_P2_v1310 := S_Fp_P2_v1309.ext E22
              have S_Fp_P2_v1311 := S_Fp_P2_v1310.wr W35
              have S_Fp_P2_v1312 := S_Fp_P2_v1311.wr W41
              have S_Fp_P2_v1313 := S_Fp_P2_v1312.wr W47
              have S_Fp_P2_v1314 := S_Fp_P2_v1313.wr W52
              have S_Fp_P2_v1315 := S_Fp_P2_v1314.wr W57
              have S_Fp_P2_v1316 := S_Fp_P2_v1315.wr W62
              have S_Fp_P2_v1317 := S_Fp_P2_v1316.wr W67
              have S_Fp_P2_v1318 := S_Fp_P2_v1317.wr W1256
              have S_Fp_P3_v1319 := S_Fp_P3.ext E1
              have S_Fp_P3_v1320 := S_Fp_P3_v1319.wr W3
              have S_Fp_P3_v1321 := S_Fp_P3_v1320.wr W5
              have S_Fp_P3_v1322 := S_Fp_P3_v1321.wr W7
              have S_Fp_P3_v1323 := S_Fp_P3_v1322.wr W9
              have S_Fp_P3_v1324 := S_Fp_P3_v1323.wr W11
              have S_Fp_P3_v1325 := S_Fp_P3_v1324.wr W13
              have S_Fp_P3_v1326 := S_Fp_P3_v1325.wr W15
              have S_Fp_P3_v1327 := S_Fp_P3_v1326.ext E22
              have S_Fp_P3_v1328 := S_Fp_P3_v1327.wr W35
              have S_Fp_P3_v1329 := S_Fp_P3_v1328.wr W41
              have S_Fp_P3_v1330 := S_Fp_P3_v1329.wr W47
              have S_Fp_P3_v1331 := S_Fp_P3_v1330.wr W52
              have S_Fp_P3_v1332 := S_Fp_P3_v1331.wr W57
              have S_Fp_P3_v1333 := S_Fp_P3_v1332.wr W62
              have S_Fp_P3_v1334 := S_Fp_P3_v1333.wr W67
              have S_Fp_P3_v1335 := S_Fp_P3_v1334.wr W1256
              have S_Fp_P4_v1336 := S_Fp_P4.ext E1
              have S_Fp_P4_v1337 := S_Fp_P4_v1336.wr W3
              have S_Fp_P4_v1338 := S_Fp_P4_v1337.wr W5
              have S_Fp_P4_v1339 := S_Fp_P4_v1338.wr W7
              have S_Fp_P4_v1340 := S_Fp_P4_v1339.wr W9
              have S_Fp_P4_v1341 := S_Fp_P4_v1340.wr W11
              have S_Fp_P4_v1342 := S_Fp_P4_v1341.wr W13
              have S_Fp_P4_v1343 := S_Fp_P4_v1342.wr W15
              have S_Fp_P4_v1344 := S_Fp_P4_v1343.ext E22
              have S_Fp_P4_v1345 := S_Fp_P4_v1344.wr W35
              have S_Fp_P4_v1346 := S_Fp_P4_v1345.wr W41
              have S_Fp_P4_v1347 := S_Fp_P4_v1346.wr W47
              have S_Fp_P4_v1348 := S_Fp_P4_v1347.wr W52
              have S_Fp_P4_v1349 := S_Fp_P4_v1348.wr W57
              have S_Fp_P4_v1350 := S_Fp_P4_v1349.wr W62
              have S_Fp_P4_v1351 := S_Fp_P4_v1350.wr W67
              have S_Fp_P4_v1352 := S_Fp_P4_v1351.wr W1256
              have S_Fp_P5_v1353 := S_Fp_P5.ext E1
              have S_Fp_P5_v1354 := S_Fp_P5_v1353.wr W3
              have S_Fp_P5_v1355 := S_Fp_P5_v1354.wr W5
              have S_Fp_P5_v1356 := S_Fp_P5_v1355.wr W7
              have S_Fp_P5_v1357 := S_Fp_P5_v1356.wr W9
              have S_Fp_P5_v1358 := S_Fp_P5_v1357.wr W11
              have S_Fp_P5_v1359 := S_Fp_P5_v1358.wr W13
              have S_Fp_P5_v1360 := S_Fp_P5_v1359.wr W15
              have S_Fp_P5_v1361 := S_Fp_P5_v1360.ext E22
              have S_Fp_P5_v1362 := S_Fp_P5_v1361.wr W35
              have S_Fp_P5_v1363 := S_Fp_P5_v1362.wr W41
              have S_Fp_P5_v1364 := S_Fp_P5_v1363.wr W47
              have S_Fp_P5_v1365 := S_Fp_P5_v1364.wr W52
              have S_Fp_P5_v1366 := S_Fp_P5_v1365.wr W57
              have S_Fp_P5_v1367 := S_Fp_P5_v1366.wr W62
              have S_Fp_P5_v1368 := S_Fp_P5_v1367.wr W67
              have S_Fp_P5_v1369 := S_Fp_P5_v1368.wr W1256
              have S_Fp_P6_v1370 := S_Fp_P6.ext E1
              have S_Fp_P6_v1371 := S_Fp_P6_v1370.wr W3
              have S_Fp_P6_v1372 := S_Fp_P6_v1371.wr W5
              have S_Fp_P6_v1373 := S_Fp_P6_v1372.wr W7
              have S_Fp_P6_v1374 := S_Fp_P6_v1373.wr W9
              have S_Fp_P6_v1375 := S_Fp_P6_v1374.wr W11
              have S_Fp_P6_v1376 := S_Fp_P6_v1375.wr W13
              have S_Fp_P6_v1377 := S_Fp_P6_v1376.wr W15
              have S_Fp_P6_v1378 := S_Fp_P6_v1377.ext E22
              have S_Fp_P6_v1379 := S_Fp_P6_v1378.wr W35
              have S_Fp_P6_v1380 := S_Fp_P6_v1379.wr W41
              have S_Fp_P6_v1381 := S_Fp_P6_v1380.wr W47
              have S_Fp_P6_v1382 := S_Fp_P6_v1381.wr W52
              have S_Fp_P6_v1383 := S_Fp_P6_v1382.wr W57
              have S_Fp_P6_v1384 := S_Fp_P6_v1383.wr W62
              have S_Fp_P6_v1385 := S_Fp_P6_v1384.wr W67
              have S_Fp_P6_v1386 := S_Fp_P6_v1385.wr W1256
              exact rest68 () _ _ (own_mono X1256 (by decide) (by decide)) N1256 (by rw [e1256]; exact ⟨x0, x1, x2, x3, (0 : Int64), x5, x6, Z0_v1265, Vx_v1267, V1256, bx0, bx1, bx2, bx3, ⟨by decide, by decide⟩, bx5, bx6, S_Fp_P0_v1284, S_Fp_P1_v1301, S_Fp_P2_v1318, S_Fp_P3_v1335, S_Fp_P4_v1352, S_Fp_P5_v1369, S_Fp_P6_v1386, Or.inr (Or.inr (Or.inr (Or.inr (Or.inr (Or.inl ⟨(phi18.resolve_left hc248_604), hqhk726, rfl, rfl, rfl, rfl, rfl, rfl, rfl⟩)))))⟩)
            · have hqhk726 : z21 = (5 : Int32) := by rw [hz21]; exact hk726
              refine own_go (B := T67.setTop (mkF m 251 (LS_JsJsJsJsJsJsJsRIIIIIRuuu q0 q1 q2 q3 q4 q5 (36028797018963967 : Int64) b1 (((q5.toUInt64 >>> ((61 : Int32) &&& 0x3f).toInt64.toUInt64).toInt64).toInt32) fA fB fP (5 : Int32) b22) [])) (fun t k => by rw [hqhk726]; exact k) ?_
              refine own_go (B := T67.setTop (mkF m 256 (LS_JsJsJsJsJsJsJsRIIIIIRuuu q0 q1 q2 q3 q4 q5 (36028797018963967 : Int64) b1 (((q5.toUInt64 >>> ((61 : Int32) &&& 0x3f).toInt64.toUInt64).toInt64).toInt32) fA fB fP (5 : Int32) b22) [(.long (0 : Int64)), (.int (5 : Int32)), (.ref b22)])) (fun t k => ?_) ?_
              · refine XS.aload X67.here hx rfl (hb hby at_251) rfl rfl ?_
                refine XS.iload X67.here hx rfl (hb hby at_253) rfl ?_
                show Steps p.tables e below (T67.setTop (mkF m 255 (LS_JsJsJsJsJsJsJsRIIIIIRuuu q0 q1 q2 q3 q4 q5 (36028797018963967 : Int64) b1 (((q5.toUInt64 >>> ((61 : Int32) &&& 0x3f).toInt64.toUInt64).toInt64).toInt32) fA fB fP (5 : Int32) b22) [(.int (5 : Int32)), (.ref b22)])) _
                refine XS.lconst X67.here hx rfl (hb hby at_255) ?_
                exact k
              obtain ⟨cl1387, Ar1387, qa1387, Sa1387, Na1387, Ha1387, Ga1387⟩ := id V67
              have hin1388 : ¬ ((5 : Int32) < 0 ∨ cl1387.slots.size ≤ ((5 : Int32)).toNatClampNeg) := inb_of Sa1387 ⟨by decide, by decide⟩
              obtain ⟨T1388, h1388, X1388, e1388, W1388, st1388⟩ := stJ X67 hx hZ e67 Ar1387 (j := (5 : Int32)) hin1388 (g := (mkF m 256 (LS_JsJsJsJsJsJsJsRIIIIIRuuu q0 q1 q2 q3 q4 q5 (36028797018963967 : Int64) b1 (((q5.toUInt64 >>> ((61 : Int32) &&& 0x3f).toInt64.toUInt64).toInt64).toInt32) fA fB fP (5 : Int32) b22) [(.long (0 : Int64)), (.int (5 : Int32)), (.ref b22)])) rfl rfl (hb hby at_256)
              have N1388 := Fr.snoc X1388 N67 g_b22
              have V1388 : Arv Z h1388 b22 k22 .long (7 : Int32) [(.long x0), (.long x1), (.long x2), (.long x3), (.long x4), (.long (0 : Int64)), (.long x6)] (.long (0 : Int64)) := Arv.set Ar1387 qa1387 Sa1387 Na1387 Ha1387 Ga1387 rfl W1388 5 rfl (Nat.le_of_ble_eq_true rfl)
              refine own_go (B := T1388.setTop (mkF m 257 (LS_JsJsJsJsJsJsJsRIIIIIRuuu q0 q1 q2 q3 q4 q5 (36028797018963967 : Int64) b1 (((q5.toUInt64 >>> ((61 : Int32) &&& 0x3f).toInt64.toUInt64).toInt64).toInt32) fA fB fP (5 : Int32) b22) [])) (fun t k => st1388 _ k) ?_
              refine own_go (B := T1388.setTop (mkF m 257 (LS_JsJsJsJsJsJsJsRIIIIIRuuu q0 q1 q2 q3 q4 q5 (36028797018963967 : Int64) b1 (((q5.toUInt64 >>> ((61 : Int32) &&& 0x3f).toInt64.toUInt64).toInt64).toInt32) fA fB fP z21 b22) [])) (fun t k => by rw [hqhk726] at k; exact k) ?_
              have Z0_v1389 := Nat.le_trans Z0_v30 E22.1
              have Z0_v1390 := Nat.le_trans Z0_v1389 (Nat.le_of_eq W35.size.symm)
              have Z0_v1391 := Nat.le_trans Z0_v1390 (Nat.le_of_eq W41.size.symm)
              have Z0_v1392 := Nat.le_trans Z0_v1391 (Nat.le_of_eq W47.size.symm)
              have Z0_v1393 := Nat.le_trans Z0_v1392 (Nat.le_of_eq W52.size.symm)
              have Z0_v1394 := Nat.le_trans Z0_v1393 (Nat.le_of_eq W57.size.symm)
              have Z0_v1395 := Nat.le_trans Z0_v1394 (Nat.le_of_eq W62.size.symm)
              have Z0_v1396 := Nat.le_trans Z0_v1395 (Nat.le_of_eq W67.size.symm)
              have Z0_v1397 := Nat.le_trans Z0_v1396 (Nat.le_of_eq W1388.size.symm)
              have Vx_v1398 := Vx_v64.other W67 ne38
              have Vx_v1399 := Vx_v1398.other W1388 ne38
              have S_Fp_P0_v1400 := S_Fp_P0.ext E1
              have S_Fp_P0_v1401 := S_Fp_P0_v1400.wr W3
              have S_Fp_P0_v1402 := S_Fp_P0_v1401.wr W5
              have S_Fp_P0_v1403 := S_Fp_P0_v1402.wr W7
              have S_Fp_P0_v1404 := S_Fp_P0_v1403.wr W9
              have S_Fp_P0_v1405 := S_Fp_P0_v1404.wr W11
              have S_Fp_P0_v1406 := S_Fp_P0_v1405.wr W13
              have S_Fp_P0_v1407 := S_Fp_P0_v1406.wr W15
              have S_Fp_P0_v1408 := S_Fp_P0_v1407.ext E22
              have S_Fp_P0_v1409 := S_Fp_P0_v1408.wr W35
              have S_Fp_P0_v1410 := S_Fp_P0_v1409.wr W41
              have S_Fp_P0_v1411 := S_Fp_P0_v1410.wr W47
              have S_Fp_P0_v1412 := S_Fp_P0_v1411.wr W52
              have S_Fp_P0_v1413 := S_Fp_P0_v1412.wr W57
              have S_Fp_P0_v1414 := S_Fp_P0_v1413.wr W62
              have S_Fp_P0_v1415 := S_Fp_P0_v1414.wr W67
              have S_Fp_P0_v1416 := S_Fp_P0_v1415.wr W1388
              have S_Fp_P1_v1417 := S_Fp_P1.ext E1
              have S_Fp_P1_v1418 := S_Fp_P1_v1417.wr W3
              have S_Fp_P1_v1419 := S_Fp_P1_v1418.wr W5
              have S_Fp_P1_v1420 := S_Fp_P1_v1419.wr W7
              have S_Fp_P1_v1421 := S_Fp_P1_v1420.wr W9
              have S_Fp_P1_v1422 := S_Fp_P1_v1421.wr W11
              have S_Fp_P1_v1423 := S_Fp_P1_v1422.wr W13
              have S_Fp_P1_v1424 := S_Fp_P1_v1423.wr W15
              have S_Fp_P1_v1425 := S_Fp_P1_v1424.ext E22
              have S_Fp_P1_v1426 := S_Fp_P1_v1425.wr W35
              have S_Fp_P1_v1427 := S_Fp_P1_v1426.wr W41
              have S_Fp_P1_v1428 := S_Fp_P1_v1427.wr W47
              have S_Fp_P1_v1429 := S_Fp_P1_v1428.wr W52
              have S_Fp_P1_v1430 := S_Fp_P1_v1429.wr W57
              have S_Fp_P1_v1431 := S_Fp_P1_v1430.wr W62
              have S_Fp_P1_v1432 := S_Fp_P1_v1431.wr W67
              have S_Fp_P1_v1433 := S_Fp_P1_v1432.wr W1388
              have S_Fp_P2_v1434 := S_Fp_P2.ext E1
              have S_Fp_P2_v1435 := S_Fp_P2_v1434.wr W3
              have S_Fp_P2_v1436 := S_Fp_P2_v1435.wr W5
              have S_Fp_P2_v1437 := S_Fp_P2_v1436.wr W7
              have S_Fp_P2_v1438 := S_Fp_P2_v1437.wr W9
              have S_Fp_P2_v1439 := S_Fp_P2_v1438.wr W11
              have S_Fp_P2_v1440 := S_Fp_P2_v1439.wr W13
              have S_Fp_P2_v1441 := S_Fp_P2_v1440.wr W15
              have S_Fp_P2_v1442 := S_Fp_P2_v1441.ext E22
              have S_Fp_P2_v1443 := S_Fp_P2_v1442.wr W35
              have S_Fp_P2_v1444 := S_Fp_P2_v1443.wr W41
              have S_Fp_P2_v1445 := S_Fp_P2_v1444.wr W47
              have S_Fp_P2_v1446 := S_Fp_P2_v1445.wr W52
              have S_Fp_P2_v1447 := S_Fp_P2_v1446.wr W57
              have S_Fp_P2_v1448 := S_Fp_P2_v1447.wr W62
              have S_Fp_P2_v1449 := S_Fp_P2_v1448.wr W67
              have S_Fp_P2_v1450 := S_Fp_P2_v1449.wr W1388
              have S_Fp_P3_v1451 := S_Fp_P3.ext E1
              have S_Fp_P3_v1452 := S_Fp_P3_v1451.wr W3
              have S_Fp_P3_v1453 := S_Fp_P3_v1452.wr W5
              have S_Fp_P3_v1454 := S_Fp_P3_v1453.wr W7
              have S_Fp_P3_v1455 := S_Fp_P3_v1454.wr W9
              have S_Fp_P3_v1456 := S_Fp_P3_v1455.wr W11
              have S_Fp_P3_v1457 := S_Fp_P3_v1456.wr W13
              have S_Fp_P3_v1458 := S_Fp_P3_v1457.wr W15
              have S_Fp_P3_v1459 := S_Fp_P3_v1458.ext E22
              have S_Fp_P3_v1460 := S_Fp_P3_v1459.wr W35
              have S_Fp_P3_v1461 := S_Fp_P3_v1460.wr W41
              have S_Fp_P3_v1462 := S_Fp_P3_v1461.wr W47
              have S_Fp_P3_v1463 := S_Fp_P3_v1462.wr W52
              have S_Fp_P3_v1464 := S_Fp_P3_v1463.wr W57
              have S_Fp_P3_v1465 := S_Fp_P3_v1464.wr W62
              have S_Fp_P3_v1466 := S_Fp_P3_v1465.wr W67
              have S_Fp_P3_v1467 := S_Fp_P3_v1466.wr W1388
              have S_Fp_P4_v1468 := S_Fp_P4.ext E1
              have S_Fp_P4_v1469 := S_Fp_P4_v1468.wr W3
              have S_Fp_P4_v1470 := S_Fp_P4_v1469.wr W5
              have S_Fp_P4_v1471 := S_Fp_P4_v1470.wr W7
              have S_Fp_P4_v1472 := S_Fp_P4_v1471.wr W9
              have S_Fp_P4_v1473 := S_Fp_P4_v1472.wr W11
              have S_Fp_P4_v1474 := S_Fp_P4_v1473.wr W13
              have S_Fp_P4_v1475 := S_Fp_P4_v1474.wr W15
              have S_Fp_P4_v1476 := S_Fp_P4_v1475.ext E22
              have S_Fp_P4_v1477 := S_Fp_P4_v1476.wr W35
              have S_Fp_P4_v1478 := S_Fp_P4_v1477.wr W41
              have S_Fp_P4_v1479 := S_Fp_P4_v1478.wr W47
              have S_Fp_P4_v1480 := S_Fp_P4_v1479.wr W52
              have S_Fp_P4_v1481 := S_Fp_P4_v1480.wr W57
              have S_Fp_P4_v1482 := S_Fp_P4_v1481.wr W62
              have S_Fp_P4_v1483 := S_Fp_P4_v1482.wr W67
              have S_Fp_P4_v1484 := S_Fp_P4_v1483.wr W1388
              have S_Fp_P5_v1485 := S_Fp_P5.ext E1
              have S_Fp_P5_v1486 := S_Fp_P5_v1485.wr W3
              have S_Fp_P5_v1487 := S_Fp_P5_v1486.wr W5
              have S_Fp_P5_v1488 := S_Fp_P5_v1487.wr W7
              have S_Fp_P5_v1489 := S_Fp_P5_v1488.wr W9
              have S_Fp_P5_v1490 := S_Fp_P5_v1489.wr W11
              have S_Fp_P5_v1491 := S_Fp_P5_v1490.wr W13
              have S_Fp_P5_v1492 := S_Fp_P5_v1491.wr W15
              have S_Fp_P5_v1493 := S_Fp_P5_v1492.ext E22
              have S_Fp_P5_v1494 := S_Fp_P5_v1493.wr W35
              have S_Fp_P5_v1495 := S_Fp_P5_v1494.wr W41
              have S_Fp_P5_v1496 := S_Fp_P5_v1495.wr W47
              have S_Fp_P5_v1497 := S_Fp_P5_v1496.wr W52
              have S_Fp_P5_v1498 := S_Fp_P5_v1497.wr W57
              have S_Fp_P5_v1499 := S_Fp_P5_v1498.wr W62
              have S_Fp_P5_v1500 := S_Fp_P5_v1499.wr W67
              have S_Fp_P5_v1501 := S_Fp_P5_v1500.wr W1388
              have S_Fp_P6_v1502 := S_Fp_P6.ext E1
              have S_Fp_P6_v1503 := S_Fp_P6_v1502.wr W3
              have S_Fp_P6_v1504 := S_Fp_P6_v1503.wr W5
              have S_Fp_P6_v1505 := S_Fp_P6_v1504.wr W7
              have S_Fp_P6_v1506 := S_Fp_P6_v1505.wr W9
              have S_Fp_P6_v1507 := S_Fp_P6_v1506.wr W11
              have S_Fp_P6_v1508 := S_Fp_P6_v1507.wr W13
              have S_Fp_P6_v1509 := S_Fp_P6_v1508.wr W15
              have S_Fp_P6_v1510 := S_Fp_P6_v1509.ext E22
              have S_Fp_P6_v1511 := S_Fp_P6_v1510.wr W35
              have S_Fp_P6_v1512 := S_Fp_P6_v1511.wr W41
              have S_Fp_P6_v1513 := S_Fp_P6_v1512.wr W47
              have S_Fp_P6_v1514 := S_Fp_P6_v1513.wr W52
              have S_Fp_P6_v1515 := S_Fp_P6_v1514.wr W57
              have S_Fp_P6_v1516 := S_Fp_P6_v1515.wr W62
              have S_Fp_P6_v1517 := S_Fp_P6_v1516.wr W67
              have S_Fp_P6_v1518 := S_Fp_P6_v1517.wr W1388
              exact rest68 () _ _ (own_mono X1388 (by decide) (by decide)) N1388 (by rw [e1388]; exact ⟨x0, x1, x2, x3, x4, (0 : Int64), x6, Z0_v1397, Vx_v1399, V1388, bx0, bx1, bx2, bx3, bx4, ⟨by decide, by decide⟩, bx6, S_Fp_P0_v1416, S_Fp_P1_v1433, S_Fp_P2_v1450, S_Fp_P3_v1467, S_Fp_P4_v1484, S_Fp_P5_v1501, S_Fp_P6_v1518, Or.inr (Or.inr (Or.inr (Or.inr (Or.inr (Or.inr (Or.inl ⟨(phi18.resolve_left hc248_604), hqhk726, rfl, rfl, rfl, rfl, rfl, rfl, rfl⟩))))))⟩)
            · have hqhk726 : z21 = (6 : Int32) := by rw [hz21]; exact hk726
              refine own_go (B := T67.setTop (mkF m 251 (LS_JsJsJsJsJsJsJsRIIIIIRuuu q0 q1 q2 q3 q4 q5 (36028797018963967 : Int64) b1 (((q5.toUInt64 >>> ((61 : Int32) &&& 0x3f).toInt64.toUInt64).toInt64).toInt32) fA fB fP (6 : Int32) b22) [])) (fun t k => by rw [hqhk726]; exact k) ?_
              refine own_go (B := T67.setTop (mkF m 256 (LS_JsJsJsJsJsJsJsRIIIIIRuuu q0 q1 q2 q3 q4 q5 (36028797018963967 : Int64) b1 (((q5.toUInt64 >>> ((61 : Int32) &&& 0x3f).toInt64.toUInt64).toInt64).toInt32) fA fB fP (6 : Int32) b22) [(.long (0 : Int64)), (.int (6 : Int32)), (.ref b22)])) (fun t k => ?_) ?_
              · refine XS.aload X67.here hx rfl (hb hby at_251) rfl rfl ?_
                refine XS.iload X67.here hx rfl (hb hby at_253) rfl ?_
                show Steps p.tables e below (T67.setTop (mkF m 255 (LS_JsJsJsJsJsJsJsRIIIIIRuuu q0 q1 q2 q3 q4 q5 (36028797018963967 : Int64) b1 (((q5.toUInt64 >>> ((61 : Int32) &&& 0x3f).toInt64.toUInt64).toInt64).toInt32) fA fB fP (6 : Int32) b22) [(.int (6 : Int32)), (.ref b22)])) _
                refine XS.lconst X67.here hx rfl (hb hby at_255) ?_
                exact k
              obtain ⟨cl1519, Ar1519, qa1519, Sa1519, Na1519, Ha1519, Ga1519⟩ := id V67
              have hin1520 : ¬ ((6 : Int32) < 0 ∨ cl1519.slots.size ≤ ((6 : Int32)).toNatClampNeg) := inb_of Sa1519 ⟨by decide, by decide⟩
              obtain ⟨T1520, h1520, X1520, e1520, W1520, st1520⟩ := stJ X67 hx hZ e67 Ar1519 (j := (6 : Int32)) hin1520 (g := (mkF m 256 (LS_JsJsJsJsJsJsJsRIIIIIRuuu q0 q1 q2 q3 q4 q5 (36028797018963967 : Int64) b1 (((q5.toUInt64 >>> ((61 : Int32) &&& 0x3f).toInt64.toUInt64).toInt64).toInt32) fA fB fP (6 : Int32) b22) [(.long (0 : Int64)), (.int (6 : Int32)), (.ref b22)])) rfl rfl (hb hby at_256)
              have N1520 := Fr.snoc X1520 N67 g_b22
              have V1520 : Arv Z h1520 b22 k22 .long (7 : Int32) [(.long x0), (.long x1), (.long x2), (.long x3), (.long x4), (.long x5), (.long (0 : Int64))] (.long (0 : Int64)) := Arv.set Ar1519 qa1519 Sa1519 Na1519 Ha1519 Ga1519 rfl W1520 6 rfl (Nat.le_of_ble_eq_true rfl)
              refine own_go (B := T1520.setTop (mkF m 257 (LS_JsJsJsJsJsJsJsRIIIIIRuuu q0 q1 q2 q3 q4 q5 (36028797018963967 : Int64) b1 (((q5.toUInt64 >>> ((61 : Int32) &&& 0x3f).toInt64.toUInt64).toInt64).toInt32) fA fB fP (6 : Int32) b22) [])) (fun t k => st1520 _ k) ?_
              refine own_go (B := T1520.setTop (mkF m 257 (LS_JsJsJsJsJsJsJsRIIIIIRuuu q0 q1 q2 q3 q4 q5 (36028797018963967 : Int64) b1 (((q5.toUInt64 >>> ((61 : Int32) &&& 0x3f).toInt64.toUInt64).toInt64).toInt32) fA fB fP z21 b22) [])) (fun t k => by rw [hqhk726] at k; exact k) ?_
              have Z0_v1521 := Nat.le_trans Z0_v30 E22.1
              have Z0_v1522 := Nat.le_trans Z0_v1521 (Nat.le_of_eq W35.size.symm)
              have Z0_v1523 := Nat.le_trans Z0_v1522 (Nat.le_of_eq W41.size.symm)
              have Z0_v1524 := Nat.le_trans Z0_v1523 (Nat.le_of_eq W47.size.symm)
              have Z0_v1525 := Nat.le_trans Z0_v1524 (Nat.le_of_eq W52.size.symm)
              have Z0_v1526 := Nat.le_trans Z0_v1525 (Nat.le_of_eq W57.size.symm)
              have Z0_v1527 := Nat.le_trans Z0_v1526 (Nat.le_of_eq W62.size.symm)
              have Z0_v1528 := Nat.le_trans Z0_v1527 (Nat.le_of_eq W67.size.symm)
              have Z0_v1529 := Nat.le_trans Z0_v1528 (Nat.le_of_eq W1520.size.symm)
              have Vx_v1530 := Vx_v64.other W67 ne38
              have Vx_v1531 := Vx_v1530.other W1520 ne38
              have S_Fp_P0_v1532 := S_Fp_P0.ext E1
              have S_Fp_P0_v1533 := S_Fp_P0_v1532.wr W3
              have S_Fp_P0_v1534 := S_Fp_P0_v1533.wr W5
              have S_Fp_P0_v1535 := S_Fp_P0_v1534.wr W7
              have S_Fp_P0_v1536 := S_Fp_P0_v1535.wr W9
              have S_Fp_P0_v1537 := S_Fp_P0_v1536.wr W11
              have S_Fp_P0_v1538 := S_Fp_P0_v1537.wr W13
              have S_Fp_P0_v1539 := S_Fp_P0_v1538.wr W15
              have S_Fp_P0_v1540 := S_Fp_P0_v1539.ext E22
              have S_Fp_P0_v1541 := S_Fp_P0_v1540.wr W35
              have S_Fp_P0_v1542 := S_Fp_P0_v1541.wr W41
              have S_Fp_P0_v1543 := S_Fp_P0_v1542.wr W47
              have S_Fp_P0_v1544 := S_Fp_P0_v1543.wr W52
              have S_Fp_P0_v1545 := S_Fp_P0_v1544.wr W57
              have S_Fp_P0_v1546 := S_Fp_P0_v1545.wr W62
              have S_Fp_P0_v1547 := S_Fp_P0_v1546.wr W67
              have S_Fp_P0_v1548 := S_Fp_P0_v1547.wr W1520
              have S_Fp_P1_v1549 := S_Fp_P1.ext E1
              have S_Fp_P1_v1550 := S_Fp_P1_v1549.wr W3
              have S_Fp_P1_v1551 := S_Fp_P1_v1550.wr W5
              have S_Fp_P1_v1552 := S_Fp_P1_v1551.wr W7
              have S_Fp_P1_v1553 := S_Fp_P1_v1552.wr W9
              have S_Fp_P1_v1554 := S_Fp_P1_v1553.wr W11
              have S_Fp_P1_v1555 := S_Fp_P1_v1554.wr W13
              have S_Fp_P1_v1556 := S_Fp_P1_v1555.wr W15
              have S_Fp_P1_v1557 := S_Fp_P1_v1556.ext E22
              have S_Fp_P1_v1558 := S_Fp_P1_v1557.wr W35
              have S_Fp_P1_v1559 := S_Fp_P1_v1558.wr W41
              have S_Fp_P1_v1560 := S_Fp_P1_v1559.wr W47
              have S_Fp_P1_v1561 := S_Fp_P1_v1560.wr W52
              have S_Fp_P1_v1562 := S_Fp_P1_v1561.wr W57
              have S_Fp_P1_v1563 := S_Fp_P1_v1562.wr W62
              have S_Fp_P1_v1564 := S_Fp_P1_v1563.wr W67
              have S_Fp_P1_v1565 := S_Fp_P1_v1564.wr W1520
              have S_Fp_P2_v1566 := S_Fp_P2.ext E1
              have S_Fp_P2_v1567 := S_Fp_P2_v1566.wr W3
              have S_Fp_P2_v1568 := S_Fp_P2_v1567.wr W5
              have S_Fp_P2_v1569 := S_Fp_P2_v1568.wr W7
              have S_Fp_P2_v1570 := S_Fp_P2_v1569.wr W9
              have S_Fp_P2_v1571 := S_Fp_P2_v1570.wr W11
              have S_Fp_P2_v1572 := S_Fp_P2_v1571.wr W13
              have S_Fp_P2_v1573 := S_Fp_P2_v1572.wr W15
              have S_Fp_P2_v1574 := S_Fp_P2_v1573.ext E22
              have S_Fp_P2_v1575 := S_Fp_P2_v1574.wr W35
              have S_Fp_P2_v1576 := S_Fp_P2_v1575.wr W41
              have S_Fp_P2_v1577 := S_Fp_P2_v1576.wr W47
              have S_Fp_P2_v1578 := S_Fp_P2_v1577.wr W52
              have S_Fp_P2_v1579 := S_Fp_P2_v1578.wr W57
              have S_Fp_P2_v1580 := S_Fp_P2_v1579.wr W62
              have S_Fp_P2_v1581 := S_Fp_P2_v1580.wr W67
              have S_Fp_P2_v1582 := S_Fp_P2_v1581.wr W1520
              have S_Fp_P3_v1583 := S_Fp_P3.ext E1
              have S_Fp_P3_v1584 := S_Fp_P3_v1583.wr W3
              have S_Fp_P3_v1585 := S_Fp_P3_v1584.wr W5
              have S_Fp_P3_v1586 := S_Fp_P3_v1585.wr W7
              have S_Fp_P3_v1587 := S_Fp_P3_v1586.wr W9
              have S_Fp_P3_v1588 := S_Fp_P3_v1587.wr W11
              have S_Fp_P3_v1589 := S_Fp_P3_v1588.wr W13
              have S_Fp_P3_v1590 := S_Fp_P3_v1589.wr W15
              have S_Fp_P3_v1591 := S_Fp_P3_v1590.ext E22
              have S_Fp_P3_v1592 := S_Fp_P3_v1591.wr W35
              have S_Fp_P3_v1593 := S_Fp_P3_v1592.wr W41
              have S_Fp_P3_v1594 := S_Fp_P3_v1593.wr W47
              have S_Fp_P3_v1595 := S_Fp_P3_v1594.wr W52
              have S_Fp_P3_v1596 := S_Fp_P3_v1595.wr W57
              have S_Fp_P3_v1597 := S_Fp_P3_v1596.wr W62
              have S_Fp_P3_v1598 := S_Fp_P3_v1597.wr W67
              have S_Fp_P3_v1599 := S_Fp_P3_v1598.wr W1520
              have S_Fp_P4_v1600 := S_Fp_P4.ext E1
              have S_Fp_P4_v1601 := S_Fp_P4_v1600.wr W3
              have S_Fp_P4_v1602 := S_Fp_P4_v1601.wr W5
              have S_Fp_P4_v1603 := S_Fp_P4_v1602.wr W7
              have S_Fp_P4_v1604 := S_Fp_P4_v1603.wr W9
              have S_Fp_P4_v1605 := S_Fp_P4_v1604.wr W11
              have S_Fp_P4_v1606 := S_Fp_P4_v1605.wr W13
              have S_Fp_P4_v1607 := S_Fp_P4_v1606.wr W15
              have S_Fp_P4_v1608 := S_Fp_P4_v1607.ext E22
              have S_Fp_P4_v1609 := S_Fp_P4_v1608.wr W35
              have S_Fp_P4_v1610 := S_Fp_P4_v1609.wr W41
              have S_Fp_P4_v1611 := S_Fp_P4_v1610.wr W47
              have S_Fp_P4_v1612 := S_Fp_P4_v1611.wr W52
              have S_Fp_P4_v1613 := S_Fp_P4_v1612.wr W57
              have S_Fp_P4_v1614 := S_Fp_P4_v1613.wr W62
              have S_Fp_P4_v1615 := S_Fp_P4_v1614.wr W67
              have S_Fp_P4_v1616 := S_Fp_P4_v1615.wr W1520
              have S_Fp_P5_v1617 := S_Fp_P5.ext E1
              have S_Fp_P5_v1618 := S_Fp_P5_v1617.wr W3
              have S_Fp_P5_v1619 := S_Fp_P5_v1618.wr W5
              have S_Fp_P5_v1620 := S_Fp_P5_v1619.wr W7
              have S_Fp_P5_v1621 := S_Fp_P5_v1620.wr W9
              have S_Fp_P5_v1622 := S_Fp_P5_v1621.wr W11
              have S_Fp_P5_v1623 := S_Fp_P5_v1622.wr W13
              have S_Fp_P5_v1624 := S_Fp_P5_v1623.wr W15
              have S_Fp_P5_v1625 := S_Fp_P5_v1624.ext E22
              have S_Fp_P5_v1626 := S_Fp_P5_v1625.wr W35
              have S_Fp_P5_v1627 := S_Fp_P5_v1626.wr W41
              have S_Fp_P5_v1628 := S_Fp_P5_v1627.wr W47
              have S_Fp_P5_v1629 := S_Fp_P5_v1628.wr W52
              have S_Fp_P5_v1630 := S_Fp_P5_v1629.wr W57
              have S_Fp_P5_v1631 := S_Fp_P5_v1630.wr W62
              have S_Fp_P5_v1632 := S_Fp_P5_v1631.wr W67
              have S_Fp_P5_v1633 := S_Fp_P5_v1632.wr W1520
              have S_Fp_P6_v1634 := S_Fp_P6.ext E1
              have S_Fp_P6_v1635 := S_Fp_P6_v1634.wr W3
              have S_Fp_P6_v1636 := S_Fp_P6_v1635.wr W5
              have S_Fp_P6_v1637 := S_Fp_P6_v1636.wr W7
              have S_Fp_P6_v1638 := S_Fp_P6_v1637.wr W9
              have S_Fp_P6_v1639 := S_Fp_P6_v1638.wr W11
              have S_Fp_P6_v1640 := S_Fp_P6_v1639.wr W13
              have S_Fp_P6_v1641 := S_Fp_P6_v1640.wr W15
              have S_Fp_P6_v1642 := S_Fp_P6_v1641.ext E22
              have S_Fp_P6_v1643 := S_Fp_P6_v1642.wr W35
              have S_Fp_P6_v1644 := S_Fp_P6_v1643.wr W41
              have S_Fp_P6_v1645 := S_Fp_P6_v1644.wr W47
              have S_Fp_P6_v1646 := S_Fp_P6_v1645.wr W52
              have S_Fp_P6_v1647 := S_Fp_P6_v1646.wr W57
              have S_Fp_P6_v1648 := S_Fp_P6_v1647.wr W62
              have S_Fp_P6_v1649 := S_Fp_P6_v1648.wr W67
              have S_Fp_P6_v1650 := S_Fp_P6_v1649.wr W1520
              exact rest68 () _ _ (own_mono X1520 (by decide) (by decide)) N1520 (by rw [e1520]; exact ⟨x0, x1, x2, x3, x4, x5, (0 : Int64), Z0_v1529, Vx_v1531, V1520, bx0, bx1, bx2, bx3, bx4, bx5, ⟨by decide, by decide⟩, S_Fp_P0_v1548, S_Fp_P1_v1565, S_Fp_P2_v1582, S_Fp_P3_v1599, S_Fp_P4_v1616, S_Fp_P5_v1633, S_Fp_P6_v1650, Or.inr (Or.inr (Or.inr (Or.inr (Or.inr (Or.inr (Or.inr (⟨(phi18.resolve_left hc248_604), hqhk726, rfl, rfl, rfl, rfl, rfl, rfl, rfl⟩)))))))⟩)
      · intro rest18
        refine own_go (B := T17.setTop (mkF m 160 (LS_JsJsJsJsJsJsJsRIIIuuuuuu q0 q1 q2 q3 q4 q5 (36028797018963967 : Int64) b1 (((q5.toUInt64 >>> ((61 : Int32) &&& 0x3f).toInt64.toUInt64).toInt64).toInt32) fA fB) [(.int ((((q5.toUInt64 >>> ((61 : Int32) &&& 0x3f).toInt64.toUInt64).toInt64).toInt32) &&& (4 : Int32)))])) (fun t k => ?_) ?_
        · refine XS.iload X17.here hx rfl (hb hby at_156) rfl ?_
          refine XS.iconst X17.here hx rfl (hb hby at_158) ?_
          show Steps p.tables e below (T17.setTop (mkF m 159 (LS_JsJsJsJsJsJsJsRIIIuuuuuu q0 q1 q2 q3 q4 q5 (36028797018963967 : Int64) b1 (((q5.toUInt64 >>> ((61 : Int32) &&& 0x3f).toInt64.toUInt64).toInt64).toInt32) fA fB) [(.int (4 : Int32)), (.int (((q5.toUInt64 >>> ((61 : Int32) &&& 0x3f).toInt64.toUInt64).toInt64).toInt32))])) _
          refine XS.iand X17.here hx rfl (hb hby at_159) rfl ?_
          exact k
        by_cases hc160_1651 : ((((q5.toUInt64 >>> ((61 : Int32) &&& 0x3f).toInt64.toUInt64).toInt64).toInt32) &&& (4 : Int32)) = (0 : Int32)
        · refine own_go (B := T17.setTop (mkF m 168 (LS_JsJsJsJsJsJsJsRIIIuuuuuu q0 q1 q2 q3 q4 q5 (36028797018963967 : Int64) b1 (((q5.toUInt64 >>> ((61 : Int32) &&& 0x3f).toInt64.toUInt64).toInt64).toInt32) fA fB) [(.int (0 : Int32))])) (fun t k => ?_) ?_
          · refine XS.ifYes X17.here hx rfl (pc0 := 160) (pc' := 167) rfl (hb hby at_160) rfl ((if0 _ _).trans (teq hc160_1651).1) (by decide) (by decide) ?_
            refine XS.iconst X17.here hx rfl (hb hby at_167) ?_
            exact k
          exact rest18 (0 : Int32) _ _ (own_mono X17 (by decide) (by decide)) N17 ⟨e17, Or.inl rfl⟩
        · refine own_go (B := T17.setTop (mkF m 168 (LS_JsJsJsJsJsJsJsRIIIuuuuuu q0 q1 q2 q3 q4 q5 (36028797018963967 : Int64) b1 (((q5.toUInt64 >>> ((61 : Int32) &&& 0x3f).toInt64.toUInt64).toInt64).toInt32) fA fB) [(.int (1 : Int32))])) (fun t k => ?_) ?_
          · refine XS.ifNo X17.here hx rfl (hb hby at_160) rfl ((if0 _ _).trans (feq hc160_1651).1) ?_
            refine XS.iconst X17.here hx rfl (hb hby at_163) ?_
            show Steps p.tables e below (T17.setTop (mkF m 164 (LS_JsJsJsJsJsJsJsRIIIuuuuuu q0 q1 q2 q3 q4 q5 (36028797018963967 : Int64) b1 (((q5.toUInt64 >>> ((61 : Int32) &&& 0x3f).toInt64.toUInt64).toInt64).toInt32) fA fB) [(.int (1 : Int32))])) _
            refine XS.goto X17.here hx rfl (pc0 := 164) (pc' := 168) rfl (hb hby at_164) (by decide) (by decide) ?_
            exact k
          exact rest18 (1 : Int32) _ _ (own_mono X17 (by decide) (by decide)) N17 ⟨e17, Or.inr rfl⟩
    · intro rest17
      refine own_go (B := T16.setTop (mkF m 146 (LS_JsJsJsJsJsJsJsRIIuuuuuuu q0 q1 q2 q3 q4 q5 (36028797018963967 : Int64) b1 (((q5.toUInt64 >>> ((61 : Int32) &&& 0x3f).toInt64.toUInt64).toInt64).toInt32) fA) [(.int ((((q5.toUInt64 >>> ((61 : Int32) &&& 0x3f).toInt64.toUInt64).toInt64).toInt32) &&& (2 : Int32)))])) (fun t k => ?_) ?_
      · refine XS.iload X16.here hx rfl (hb hby at_142) rfl ?_
        refine XS.iconst X16.here hx rfl (hb hby at_144) ?_
        show Steps p.tables e below (T16.setTop (mkF m 145 (LS_JsJsJsJsJsJsJsRIIuuuuuuu q0 q1 q2 q3 q4 q5 (36028797018963967 : Int64) b1 (((q5.toUInt64 >>> ((61 : Int32) &&& 0x3f).toInt64.toUInt64).toInt64).toInt32) fA) [(.int (2 : Int32)), (.int (((q5.toUInt64 >>> ((61 : Int32) &&& 0x3f).toInt64.toUInt64).toInt64).toInt32))])) _
        refine XS.iand X16.here hx rfl (hb hby at_145) rfl ?_
        exact k
      by_cases hc146_1652 : ((((q5.toUInt64 >>> ((61 : Int32) &&& 0x3f).toInt64.toUInt64).toInt64).toInt32) &&& (2 : Int32)) = (0 : Int32)
      · refine own_go (B := T16.setTop (mkF m 154 (LS_JsJsJsJsJsJsJsRIIuuuuuuu q0 q1 q2 q3 q4 q5 (36028797018963967 : Int64) b1 (((q5.toUInt64 >>> ((61 : Int32) &&& 0x3f).toInt64.toUInt64).toInt64).toInt32) fA) [(.int (0 : Int32))])) (fun t k => ?_) ?_
        · refine XS.ifYes X16.here hx rfl (pc0 := 146) (pc' := 153) rfl (hb hby at_146) rfl ((if0 _ _).trans (teq hc146_1652).1) (by decide) (by decide) ?_
          refine XS.iconst X16.here hx rfl (hb hby at_153) ?_
          exact k
        exact rest17 (0 : Int32) _ _ (own_mono X16 (by decide) (by decide)) N16 ⟨e16, Or.inl rfl⟩
      · refine own_go (B := T16.setTop (mkF m 154 (LS_JsJsJsJsJsJsJsRIIuuuuuuu q0 q1 q2 q3 q4 q5 (36028797018963967 : Int64) b1 (((q5.toUInt64 >>> ((61 : Int32) &&& 0x3f).toInt64.toUInt64).toInt64).toInt32) fA) [(.int (1 : Int32))])) (fun t k => ?_) ?_
        · refine XS.ifNo X16.here hx rfl (hb hby at_146) rfl ((if0 _ _).trans (feq hc146_1652).1) ?_
          refine XS.iconst X16.here hx rfl (hb hby at_149) ?_
          show Steps p.tables e below (T16.setTop (mkF m 150 (LS_JsJsJsJsJsJsJsRIIuuuuuuu q0 q1 q2 q3 q4 q5 (36028797018963967 : Int64) b1 (((q5.toUInt64 >>> ((61 : Int32) &&& 0x3f).toInt64.toUInt64).toInt64).toInt32) fA) [(.int (1 : Int32))])) _
          refine XS.goto X16.here hx rfl (pc0 := 150) (pc' := 154) rfl (hb hby at_150) (by decide) (by decide) ?_
          exact k
        exact rest17 (1 : Int32) _ _ (own_mono X16 (by decide) (by decide)) N16 ⟨e16, Or.inr rfl⟩
  · intro rest16
    refine own_go (B := T15.setTop (mkF m 132 (LS_JsJsJsJsJsJsJsRIuuuuuuuu q0 q1 q2 q3 q4 q5 (36028797018963967 : Int64) b1 (((q5.toUInt64 >>> ((61 : Int32) &&& 0x3f).toInt64.toUInt64).toInt64).toInt32)) [(.int ((((q5.toUInt64 >>> ((61 : Int32) &&& 0x3f).toInt64.toUInt64).toInt64).toInt32) &&& (1 : Int32)))])) (fun t k => ?_) ?_
    · refine XS.iload X15.here hx rfl (hb hby at_128) rfl ?_
      refine XS.iconst X15.here hx rfl (hb hby at_130) ?_
      show Steps p.tables e below (T15.setTop (mkF m 131 (LS_JsJsJsJsJsJsJsRIuuuuuuuu q0 q1 q2 q3 q4 q5 (36028797018963967 : Int64) b1 (((q5.toUInt64 >>> ((61 : Int32) &&& 0x3f).toInt64.toUInt64).toInt64).toInt32)) [(.int (1 : Int32)), (.int (((q5.toUInt64 >>> ((61 : Int32) &&& 0x3f).toInt64.toUInt64).toInt64).toInt32))])) _
      refine XS.iand X15.here hx rfl (hb hby at_131) rfl ?_
      exact k
    by_cases hc132_1653 : ((((q5.toUInt64 >>> ((61 : Int32) &&& 0x3f).toInt64.toUInt64).toInt64).toInt32) &&& (1 : Int32)) = (0 : Int32)
    · refine own_go (B := T15.setTop (mkF m 140 (LS_JsJsJsJsJsJsJsRIuuuuuuuu q0 q1 q2 q3 q4 q5 (36028797018963967 : Int64) b1 (((q5.toUInt64 >>> ((61 : Int32) &&& 0x3f).toInt64.toUInt64).toInt64).toInt32)) [(.int (0 : Int32))])) (fun t k => ?_) ?_
      · refine XS.ifYes X15.here hx rfl (pc0 := 132) (pc' := 139) rfl (hb hby at_132) rfl ((if0 _ _).trans (teq hc132_1653).1) (by decide) (by decide) ?_
        refine XS.iconst X15.here hx rfl (hb hby at_139) ?_
        exact k
      exact rest16 (0 : Int32) _ _ (own_mono X15 (by decide) (by decide)) N15 ⟨e15, Or.inl rfl⟩
    · refine own_go (B := T15.setTop (mkF m 140 (LS_JsJsJsJsJsJsJsRIuuuuuuuu q0 q1 q2 q3 q4 q5 (36028797018963967 : Int64) b1 (((q5.toUInt64 >>> ((61 : Int32) &&& 0x3f).toInt64.toUInt64).toInt64).toInt32)) [(.int (1 : Int32))])) (fun t k => ?_) ?_
      · refine XS.ifNo X15.here hx rfl (hb hby at_132) rfl ((if0 _ _).trans (feq hc132_1653).1) ?_
        refine XS.iconst X15.here hx rfl (hb hby at_135) ?_
        show Steps p.tables e below (T15.setTop (mkF m 136 (LS_JsJsJsJsJsJsJsRIuuuuuuuu q0 q1 q2 q3 q4 q5 (36028797018963967 : Int64) b1 (((q5.toUInt64 >>> ((61 : Int32) &&& 0x3f).toInt64.toUInt64).toInt64).toInt32)) [(.int (1 : Int32))])) _
        refine XS.goto X15.here hx rfl (pc0 := 136) (pc' := 140) rfl (hb hby at_136) (by decide) (by decide) ?_
        exact k
      exact rest16 (1 : Int32) _ _ (own_mono X15 (by decide) (by decide)) N15 ⟨e15, Or.inr rfl⟩
set_option maxRecDepth 65536 in
set_option maxHeartbeats 40000000 in
theorem comes_1 {Post : Tables → Env → Array Value → State → Outcome → State → Prop} (hpost : ∀ tb e args s v u, (limb_1_1.after args s (.returned v) u = true ∧ limb_1_2.after args s (.returned v) u = true ∧ True) → FrameEnd s (.returned v) u (Jvm.fieldLocs frame_1_writes args s ++ Jvm.arrayLocs frame_1_arrays args s ++ Jvm.staticLocs frame_1_statics s) 24 192 → Post tb e args s (.returned v) u) :
    ArmFor flags0 classFile x code maxLocals ret World_1 tables_1 room_1 Calls_1 rest_1 Pre_1 Post := by
  intro l hfl _ _ p e ha hc hk s m args below hf hA hF happ hP
  obtain ⟨hcalls, hrest, hpre⟩ := hP
  obtain ⟨-, -, -, hnamed, -, -, -, hat⟩ := (Spec.applies_iff hf).mp happ
  obtain ⟨hg, hn⟩ := and_e (Cond.before_iff.mp (show (Jvm.Cond.and given_1 narrow_1).before args s = true from hpre))
  obtain ⟨g1, g2⟩ := and_e hg
  obtain ⟨g3, g4⟩ := and_e g2
  obtain ⟨g5, g6⟩ := and_e g4
  obtain ⟨g7, g8⟩ := and_e g6
  obtain ⟨g9, g10⟩ := and_e g8
  obtain ⟨g11, g12⟩ := and_e g10
  obtain ⟨w0, w1, w2, w3, w4, w5, rfl⟩ : ∃ w0 w1 w2 w3 w4 w5 : Value, args = #[w0, w1, w2, w3, w4, w5] := by
    have hs : args.size = 6 := by simpa [Cond.value, given_1] using g1
    obtain ⟨L⟩ := args
    match L, hs with
    | [w0, w1, w2, w3, w4, w5], _ => exact ⟨w0, w1, w2, w3, w4, w5, rfl⟩
  have hw := fun d (hd : d ∈ tables_1) => atoms_spec (ws := Jvm.Cond.code x code maxLocals ret :: tables_1) hat d (List.mem_cons_of_mem _ hd)
  have hfit : Fit s := fun {y c} hc i hi => by
    obtain ⟨ha, rfl⟩ := Array.getElem?_eq_some_iff.mp hc
    have q := List.all_eq_true.mp ((Array.all_eq_true_iff_forall_mem.mp hF) _ (Array.getElem_mem ha)) i (List.mem_range.mpr hi)
    simpa [Array.getElem?_eq_getElem hi] using q
  obtain ⟨i0, ei0⟩ := isL_v g3
  obtain rfl : w0 = (.long i0) := Option.some.inj ei0
  obtain ⟨i1, ei1⟩ := isL_v g5
  obtain rfl : w1 = (.long i1) := Option.some.inj ei1
  obtain ⟨i2, ei2⟩ := isL_v g7
  obtain rfl : w2 = (.long i2) := Option.some.inj ei2
  obtain ⟨i3, ei3⟩ := isL_v g9
  obtain rfl : w3 = (.long i3) := Option.some.inj ei3
  obtain ⟨i4, ei4⟩ := isL_v g11
  obtain rfl : w4 = (.long i4) := Option.some.inj ei4
  obtain ⟨i5, ei5⟩ := isL_v g12
  obtain rfl : w5 = (.long i5) := Option.some.inj ei5
  obtain ⟨g13, g14⟩ := and_e hn
  have ev_Fp_P0 := own_eqJ g13
  have S_Fp_P0 : Sta s s.heap "com/example/barred_rows/barredrows/crypto/Fp" "P0" "J" (.long (35747322042231467 : Int64)) := Sta.start ev_Fp_P0 (Or.inr ⟨(hw _ (List.mem_of_getElem? (i := 22) rfl)), (hw _ (List.mem_of_getElem? (i := 28) rfl))⟩)
  obtain ⟨g15, g16⟩ := and_e g14
  have ev_Fp_P1 := own_eqJ g15
  have S_Fp_P1 : Sta s s.heap "com/example/barred_rows/barredrows/crypto/Fp" "P1" "J" (.long (36025922209447795 : Int64)) := Sta.start ev_Fp_P1 (Or.inr ⟨(hw _ (List.mem_of_getElem? (i := 22) rfl)), (hw _ (List.mem_of_getElem? (i := 31) rfl))⟩)
  obtain ⟨g17, g18⟩ := and_e g16
  have ev_Fp_P2 := own_eqJ g17
  have S_Fp_P2 : Sta s s.heap "com/example/barred_rows/barredrows/crypto/Fp" "P2" "J" (.long (1084959616957103 : Int64)) := Sta.start ev_Fp_P2 (Or.inr ⟨(hw _ (List.mem_of_getElem? (i := 22) rfl)), (hw _ (List.mem_of_getElem? (i := 33) rfl))⟩)
  obtain ⟨g19, g20⟩ := and_e g18
  have ev_Fp_P3 := own_eqJ g19
  have S_Fp_P3 : Sta s s.heap "com/example/barred_rows/barredrows/crypto/Fp" "P3" "J" (.long (7925923977987733 : Int64)) := Sta.start ev_Fp_P3 (Or.inr ⟨(hw _ (List.mem_of_getElem? (i := 22) rfl)), (hw _ (List.mem_of_getElem? (i := 35) rfl))⟩)
  obtain ⟨g21, g22⟩ := and_e g20
  have ev_Fp_P4 := own_eqJ g21
  have S_Fp_P4 : Sta s s.heap "com/example/barred_rows/barredrows/crypto/Fp" "P4" "J" (.long (16551456537884751 : Int64)) := Sta.start ev_Fp_P4 (Or.inr ⟨(hw _ (List.mem_of_getElem? (i := 22) rfl)), (hw _ (List.mem_of_getElem? (i := 37) rfl))⟩)
  obtain ⟨g23, g24⟩ := and_e g22
  have ev_Fp_P5 := own_eqJ g23
  have S_Fp_P5 : Sta s s.heap "com/example/barred_rows/barredrows/crypto/Fp" "P5" "J" (.long (23443114579904617 : Int64)) := Sta.start ev_Fp_P5 (Or.inr ⟨(hw _ (List.mem_of_getElem? (i := 22) rfl)), (hw _ (List.mem_of_getElem? (i := 39) rfl))⟩)
  have ev_Fp_P6 := own_eqJ g24
  have S_Fp_P6 : Sta s s.heap "com/example/barred_rows/barredrows/crypto/Fp" "P6" "J" (.long (1829881462546425 : Int64)) := Sta.start ev_Fp_P6 (Or.inr ⟨(hw _ (List.mem_of_getElem? (i := 22) rfl)), (hw _ (List.mem_of_getElem? (i := 41) rfl))⟩)
  obtain ⟨n, o, h1, h2, h3, _, L, rfl, ⟨rfl, N⟩, hq⟩ := rm0 l s _ hw tables_1 i0 i1 i2 i3 i4 i5  s.heap s.heap.size (Nat.le_refl _) S_Fp_P0 S_Fp_P1 S_Fp_P2 S_Fp_P3 S_Fp_P4 S_Fp_P5 S_Fp_P6 p e ha hc hk s m _ below hf ((Spec.applies_iff_loose hf).mp happ).1 ⟨rfl, State.Warmed39.refl s, rfl⟩ trivial
  refine ⟨n, _, h1, h2, h3, hpost _ _ _ _ _ _ ⟨Cond.after_iff.mpr rfl, Cond.after_iff.mpr (eq_i res_at (Term.int_eval (1)) rfl), trivial⟩ ⟨hq.1, hq.2.1, (hq.2.2.sift fun y hy => Or.inr (N y hy)).mono (by decide) (by decide)⟩⟩
theorem main_1_1 : Claimed_1_1 := comes_1 fun _ _ _ _ _ _ h hF => ⟨h.1, hF⟩
theorem main_1_2 : Claimed_1_2 := comes_1 fun _ _ _ _ _ _ h hF => ⟨h.2.1, hF⟩
end Jvm.Pilot.@@N@@
namespace Jvm.Pilot.@@N@@
open Jvm Jvm.ClassFile Sem Op Lib Jvm.Free Jvm.Stand Jvm.Pilot.@@N@@.Jvm.D
/-! MADE BY PROGRAM (witnessworld.py) out of the Statement's table words and the real class files: 11 classes; the members and pool entries that the words name. The judged class is class 1, her method 1. -/
namespace start1
open Jvm.ClassFile
def u (s : String) : CpInfo := .utf8 (stringToUtf16 s)
/-- a pool by its gaps: so many unusable entries, then the entry; so many at the end -/
def gap : Nat → List CpInfo → List CpInfo
  | 0, r => r
  | n + 1, r => .unusable :: gap n r
def poolList (es : List (Nat × CpInfo)) (last : Nat) : List CpInfo := es.foldr (fun e r => gap e.1 (e.2 :: r)) (gap last [])
def pool (es : List (Nat × CpInfo)) (last : Nat) : Array CpInfo := ⟨poolList es last⟩
def fileOf (pool : Array CpInfo) (this : Nat) (attrs : Array Attribute := #[]) (ms : Array MethodInfo := #[]) (fl : Nat := 33) (sup : Nat := 0) (ifs : Array Nat := #[]) (fds : Array FieldInfo := #[]) : ClassFile where
  minorVersion := 0
  majorVersion := 65
  constantPool := pool
  accessFlags := fl
  thisClass := this
  superClass := sup
  interfaces := ifs
  fields := fds
  methods := ms
  attributes := attrs
def plain (name : String) (sup : Option ClassId) : Class where
  name := name
  kind := .ordinary
  loader := none
  accessFlags := 33
  super := sup
  interfaces := #[]
  cf := none
  fields := #[]
  methods := #[]
  instanceTypes := #[]
  staticTypes := #[]
  resolved := #[]
  callSites := []
  init := .initialized
  statics := none
  mirror := none

def pool0 : Array CpInfo := pool [(5, u "<init>"), (0, u "()V"), (1, .class_ 10), (1, u "java/lang/Object")] 113

def k0m0 : Method := { name := "<init>", desc := "()V", sig := { parameters := [], returnType := none }, accessFlags := 1, code := none }
/-- java/lang/Object -/
def k0 : Class := { plain "java/lang/Object" none with
  accessFlags := 33
  interfaces := #[]
  cf := some (fileOf pool0 8 #[] #[{ accessFlags := 1, nameIndex := 5, descriptorIndex := 6, attributes := #[] }] 33 0 #[] #[])
  fields := #[]
  methods := #[k0m0]
  instanceTypes := #[]
  staticTypes := #[]
  resolved := Array.replicate 124 none
  statics := none }

def pool1 : Array CpInfo := pool [(2, .class_ 4), (1, u "java/lang/Object"), (0, u "<init>"), (0, u "()V"), (0, .long 36028797018963967), (1, .long 63), (1, .long 7), (1, .methodref 14 15), (0, .class_ 16), (0, .nameAndType 17 18), (0, u "com/example/barred_rows/barredrows/crypto/FpEqualPinLaw"), (0, u "prime"), (0, u "()[J"), (0, .methodref 14 20), (0, .nameAndType 21 22), (0, u "below"), (0, u "([J[J)Z"), (0, .methodref 14 24), (0, .nameAndType 25 26), (0, u "place"), (0, u "([JI[J[JZ)V"), (0, .methodref 28 29), (0, .class_ 30), (0, .nameAndType 31 32), (0, u "com/example/barred_rows/barredrows/crypto/Fp"), (0, u "equal"), (0, u "([JI[JI)Z"), (0, .long 13402431016077863595), (1, .long 2210141511517208575), (1, .long 7435674573564081700), (1, .long 7239337960414712511), (1, .long 5412103778470702295), (1, .long 1873798617647539866), (3, u "law"), (0, u "(JJJJJJ)Z")] 5

def k1m0 : Method := { name := "<init>", desc := "()V", sig := { parameters := [], returnType := none }, accessFlags := 1, code := none }
def k1c1 : Code := { maxStack := 8, maxLocals := 24, code := code, exceptionTable := #[], attributes := #[] }
def k1m1 : Method := { name := "law", desc := "(JJJJJJ)Z", sig := { parameters := [.long, .long, .long, .long, .long, .long], returnType := some .boolean }, accessFlags := 9, code := some k1c1 }
def k1c2 : Code := { maxStack := 7, maxLocals := 15, code := method_3_code, exceptionTable := #[], attributes := #[] }
def k1m2 : Method := { name := "prime", desc := "()[J", sig := { parameters := [], returnType := some (.array .long) }, accessFlags := 10, code := some k1c2 }
def k1c3 : Code := { maxStack := 4, maxLocals := 2, code := method_4_code, exceptionTable := #[], attributes := #[] }
def k1m3 : Method := { name := "below", desc := "([J[J)Z", sig := { parameters := [(.array .long), (.array .long)], returnType := some .boolean }, accessFlags := 10, code := some k1c3 }
def k1c4 : Code := { maxStack := 6, maxLocals := 9, code := method_5_code, exceptionTable := #[], attributes := #[] }
def k1m4 : Method := { name := "place", desc := "([JI[J[JZ)V", sig := { parameters := [(.array .long), .int, (.array .long), (.array .long), .boolean], returnType := none }, accessFlags := 10, code := some k1c4 }
/-- com/example/barred_rows/barredrows/crypto/FpEqualPinLaw -/
def k1 : Class := { plain "com/example/barred_rows/barredrows/crypto/FpEqualPinLaw" (some 0) with
  accessFlags := 49
  interfaces := #[]
  cf := some (fileOf pool1 14 #[] #[{ accessFlags := 1, nameIndex := 5, descriptorIndex := 6, attributes := #[] }, { accessFlags := 9, nameIndex := 47, descriptorIndex := 48, attributes := #[] }, { accessFlags := 10, nameIndex := 17, descriptorIndex := 18, attributes := #[] }, { accessFlags := 10, nameIndex := 21, descriptorIndex := 22, attributes := #[] }, { accessFlags := 10, nameIndex := 25, descriptorIndex := 26, attributes := #[] }] 49 2 #[] #[])
  fields := #[]
  methods := #[k1m0, k1m1, k1m2, k1m3, k1m4]
  instanceTypes := #[]
  staticTypes := #[]
  resolved := Array.replicate 54 none
  statics := none }

def pool2 : Array CpInfo := pool [(1, .class_ 2), (0, u "com/example/barred_rows/barredrows/crypto/Fp"), (1, .class_ 6), (1, u "java/lang/Object"), (0, u "<init>"), (0, u "()V"), (12, u "MODULUS"), (0, u "Ljava/math/BigInteger;"), (28, u "R_SQUARED"), (0, u "[J"), (4, .long 36028797018963967), (1, .fieldref 1 60), (0, .nameAndType 61 62), (0, u "P0"), (0, u "J"), (0, .fieldref 1 64), (0, .nameAndType 65 62), (0, u "P1"), (0, .fieldref 1 67), (0, .nameAndType 68 62), (0, u "P2"), (0, .fieldref 1 70), (0, .nameAndType 71 62), (0, u "P3"), (0, .fieldref 1 73), (0, .nameAndType 74 62), (0, u "P4"), (0, .fieldref 1 76), (0, .nameAndType 77 62), (0, u "P5"), (0, .fieldref 1 79), (0, .nameAndType 80 62), (0, u "P6"), (16, u "ZERO"), (7, .methodref 1 106), (0, .nameAndType 107 108), (0, u "canonical"), (0, u "([J[JI)V"), (8, u "TWO_P0"), (2, u "TWO_P1"), (2, u "TWO_P2"), (2, u "TWO_P3"), (2, u "TWO_P4"), (2, u "TWO_P5"), (2, u "TWO_P6"), (0, .long 18446744073709551615), (27, u "PADDING"), (2, u "ONE"), (14, u "INVERSE_EXPONENT"), (0, u "[I"), (6, u "SQRT_EXPONENT"), (2, u "equal"), (0, u "([JI[JI)Z"), (7, u "P_NEGATED_INVERSE"), (2, u "PLAIN_ONE"), (50, .class_ 257), (0, u "com/example/barred_rows/barredrows/crypto/Fp$1"), (3, u "FIELD"), (0, u "Lcom/example/barred_rows/barredrows/crypto/Field;"), (0, u "BYTES"), (0, u "I"), (2, u "LIMBS"), (1, u "LIMB_BITS"), (1, u "LIMB_MASK")] 24

def k2m0 : Method := { name := "<init>", desc := "()V", sig := { parameters := [], returnType := none }, accessFlags := 2, code := none }
def k2c1 : Code := { maxStack := 6, maxLocals := 6, code := prog_7_method_9_code, exceptionTable := #[], attributes := #[] }
def k2m1 : Method := { name := "equal", desc := "([JI[JI)Z", sig := { parameters := [(.array .long), .int, (.array .long), .int], returnType := some .boolean }, accessFlags := 8, code := some k2c1 }
def k2c2 : Code := { maxStack := 10, maxLocals := 21, code := prog_7_method_26_code, exceptionTable := #[], attributes := #[] }
def k2m2 : Method := { name := "canonical", desc := "([J[JI)V", sig := { parameters := [(.array .long), (.array .long), .int], returnType := none }, accessFlags := 10, code := some k2c2 }
/-- com/example/barred_rows/barredrows/crypto/Fp -/
def k2 : Class := { plain "com/example/barred_rows/barredrows/crypto/Fp" (some 0) with
  accessFlags := 48
  interfaces := #[]
  cf := some (fileOf pool2 1 #[.nestMembers #[256]] #[{ accessFlags := 2, nameIndex := 7, descriptorIndex := 8, attributes := #[] }, { accessFlags := 8, nameIndex := 193, descriptorIndex := 194, attributes := #[] }, { accessFlags := 10, nameIndex := 107, descriptorIndex := 108, attributes := #[] }] 48 4 #[] #[{ accessFlags := 24, nameIndex := 21, descriptorIndex := 22, attributes := #[] }, { accessFlags := 24, nameIndex := 263, descriptorIndex := 264, attributes := #[] }, { accessFlags := 24, nameIndex := 267, descriptorIndex := 264, attributes := #[] }, { accessFlags := 26, nameIndex := 269, descriptorIndex := 264, attributes := #[] }, { accessFlags := 26, nameIndex := 271, descriptorIndex := 62, attributes := #[] }, { accessFlags := 26, nameIndex := 61, descriptorIndex := 62, attributes := #[] }, { accessFlags := 26, nameIndex := 65, descriptorIndex := 62, attributes := #[] }, { accessFlags := 26, nameIndex := 68, descriptorIndex := 62, attributes := #[] }, { accessFlags := 26, nameIndex := 71, descriptorIndex := 62, attributes := #[] }, { accessFlags := 26, nameIndex := 74, descriptorIndex := 62, attributes := #[] }, { accessFlags := 26, nameIndex := 77, descriptorIndex := 62, attributes := #[] }, { accessFlags := 26, nameIndex := 80, descriptorIndex := 62, attributes := #[] }, { accessFlags := 26, nameIndex := 117, descriptorIndex := 62, attributes := #[] }, { accessFlags := 26, nameIndex := 120, descriptorIndex := 62, attributes := #[] }, { accessFlags := 26, nameIndex := 123, descriptorIndex := 62, attributes := #[] }, { accessFlags := 26, nameIndex := 126, descriptorIndex := 62, attributes := #[] }, { accessFlags := 26, nameIndex := 129, descriptorIndex := 62, attributes := #[] }, { accessFlags := 26, nameIndex := 132, descriptorIndex := 62, attributes := #[] }, { accessFlags := 26, nameIndex := 135, descriptorIndex := 62, attributes := #[] }, { accessFlags := 26, nameIndex := 202, descriptorIndex := 62, attributes := #[] }, { accessFlags := 26, nameIndex := 164, descriptorIndex := 52, attributes := #[] }, { accessFlags := 26, nameIndex := 51, descriptorIndex := 52, attributes := #[] }, { accessFlags := 26, nameIndex := 205, descriptorIndex := 52, attributes := #[] }, { accessFlags := 24, nameIndex := 97, descriptorIndex := 52, attributes := #[] }, { accessFlags := 24, nameIndex := 167, descriptorIndex := 52, attributes := #[] }, { accessFlags := 26, nameIndex := 182, descriptorIndex := 183, attributes := #[] }, { accessFlags := 26, nameIndex := 190, descriptorIndex := 183, attributes := #[] }, { accessFlags := 24, nameIndex := 261, descriptorIndex := 262, attributes := #[] }])
  fields := #[{ name := "MODULUS", type := (.object "java/math/BigInteger"), accessFlags := 24, slot := 0, constantValue := 0 }, { name := "BYTES", type := .int, accessFlags := 24, slot := 1, constantValue := 0 }, { name := "LIMBS", type := .int, accessFlags := 24, slot := 2, constantValue := 0 }, { name := "LIMB_BITS", type := .int, accessFlags := 26, slot := 3, constantValue := 0 }, { name := "LIMB_MASK", type := .long, accessFlags := 26, slot := 4, constantValue := 0 }, { name := "P0", type := .long, accessFlags := 26, slot := 5, constantValue := 0 }, { name := "P1", type := .long, accessFlags := 26, slot := 6, constantValue := 0 }, { name := "P2", type := .long, accessFlags := 26, slot := 7, constantValue := 0 }, { name := "P3", type := .long, accessFlags := 26, slot := 8, constantValue := 0 }, { name := "P4", type := .long, accessFlags := 26, slot := 9, constantValue := 0 }, { name := "P5", type := .long, accessFlags := 26, slot := 10, constantValue := 0 }, { name := "P6", type := .long, accessFlags := 26, slot := 11, constantValue := 0 }, { name := "TWO_P0", type := .long, accessFlags := 26, slot := 12, constantValue := 0 }, { name := "TWO_P1", type := .long, accessFlags := 26, slot := 13, constantValue := 0 }, { name := "TWO_P2", type := .long, accessFlags := 26, slot := 14, constantValue := 0 }, { name := "TWO_P3", type := .long, accessFlags := 26, slot := 15, constantValue := 0 }, { name := "TWO_P4", type := .long, accessFlags := 26, slot := 16, constantValue := 0 }, { name := "TWO_P5", type := .long, accessFlags := 26, slot := 17, constantValue := 0 }, { name := "TWO_P6", type := .long, accessFlags := 26, slot := 18, constantValue := 0 }, { name := "P_NEGATED_INVERSE", type := .long, accessFlags := 26, slot := 19, constantValue := 0 }, { name := "PADDING", type := (.array .long), accessFlags := 26, slot := 20, constantValue := 0 }, { name := "R_SQUARED", type := (.array .long), accessFlags := 26, slot := 21, constantValue := 0 }, { name := "PLAIN_ONE", type := (.array .long), accessFlags := 26, slot := 22, constantValue := 0 }, { name := "ZERO", type := (.array .long), accessFlags := 24, slot := 23, constantValue := 0 }, { name := "ONE", type := (.array .long), accessFlags := 24, slot := 24, constantValue := 0 }, { name := "INVERSE_EXPONENT", type := (.array .int), accessFlags := 26, slot := 25, constantValue := 0 }, { name := "SQRT_EXPONENT", type := (.array .int), accessFlags := 26, slot := 26, constantValue := 0 }, { name := "FIELD", type := (.object "com/example/barred_rows/barredrows/crypto/Field"), accessFlags := 24, slot := 27, constantValue := 0 }]
  methods := #[k2m0, k2m1, k2m2]
  instanceTypes := #[]
  staticTypes := #[(.object "java/math/BigInteger"), .int, .int, .int, .long, .long, .long, .long, .long, .long, .long, .long, .long, .long, .long, .long, .long, .long, .long, .long, (.array .long), (.array .long), (.array .long), (.array .long), (.array .long), (.array .int), (.array .int), (.object "com/example/barred_rows/barredrows/crypto/Field")]
  resolved := Array.replicate 296 none
  statics := some 0 }

def pool3 : Array CpInfo := pool [(1, u "java/lang/Cloneable"), (0, .class_ 1), (0, u "java/lang/Object"), (0, .class_ 3)] 3

/-- java/lang/Cloneable -/
def k3 : Class := { plain "java/lang/Cloneable" (some 0) with
  accessFlags := 1537
  interfaces := #[]
  cf := some (fileOf pool3 2 #[] #[] 1537 4 #[] #[])
  fields := #[]
  methods := #[]
  instanceTypes := #[]
  staticTypes := #[]
  resolved := Array.replicate 8 none
  statics := none }

def pool4 : Array CpInfo := pool [(1, u "java/io/Serializable"), (0, .class_ 1), (0, u "java/lang/Object"), (0, .class_ 3)] 3

/-- java/io/Serializable -/
def k4 : Class := { plain "java/io/Serializable" (some 0) with
  accessFlags := 1537
  interfaces := #[]
  cf := some (fileOf pool4 2 #[] #[] 1537 4 #[] #[])
  fields := #[]
  methods := #[]
  instanceTypes := #[]
  staticTypes := #[]
  resolved := Array.replicate 8 none
  statics := none }

/-- the primitive byte -/
def k5 : Class := { plain "byte" none with kind := .primitive 'B', accessFlags := 0x411 }
/-- [B -/
def k6 : Class := { plain "[B" (some 0) with kind := .array 5 .byte, interfaces := #[3, 4], accessFlags := 1041 }

/-- the primitive int -/
def k7 : Class := { plain "int" none with kind := .primitive 'I', accessFlags := 0x411 }
/-- [I -/
def k8 : Class := { plain "[I" (some 0) with kind := .array 7 .int, interfaces := #[3, 4], accessFlags := 1041 }

/-- the primitive long -/
def k9 : Class := { plain "long" none with kind := .primitive 'J', accessFlags := 0x411 }
/-- [J -/
def k10 : Class := { plain "[J" (some 0) with kind := .array 9 .long, interfaces := #[3, 4], accessFlags := 1041 }

def heap : Heap := #[{ cls := 2, slots := #[.null, .int 0, .int 0, .int 0, .long 0, .long 35747322042231467, .long 36025922209447795, .long 1084959616957103, .long 7925923977987733, .long 16551456537884751, .long 23443114579904617, .long 1829881462546425, .long 0, .long 0, .long 0, .long 0, .long 0, .long 0, .long 0, .long 0, .null, .null, .null, .null, .null, .null, .null, .null], vm := .statics 2 }]
def classes : Array Class := #[k0, k1, k2, k3, k4, k5, k6, k7, k8, k9, k10]
def interned : List (Array UInt16 × Addr) := []
def slotsUsed : Nat := 28
def theMethod : MethodId := ⟨1, 1⟩
def args0 : Array Value := #[.long 5, .long 6, .long 7, .long 8, .long 9, .long 10]
def aboutOver (below : List Frame) : State where
  vm := { classes := classes, interned := interned.toArray }
  heap := heap
  slotsUsed := slotsUsed
  threads := #[{ frames := .invoking theMethod args0 :: below }]
def below0 : List Frame := [.native { method := ⟨0, 0⟩, args := #[] }]
def about1 : State := aboutOver below0
def p0 : Program := .bare "" "" ""
def e0 : Env := launch0.env 0 0 0
theorem w_frames : about1.frames = Frame.invoking theMethod args0 :: below0 := rfl
set_option maxRecDepth 65536 in
theorem w_args : argsFit about1.vm theMethod args0 = true := by decide +kernel
set_option maxRecDepth 65536 in
theorem w_heap : heapFits about1 = true := by decide +kernel
set_option maxRecDepth 65536 in
theorem w_runnable : about1.curStatus? = some .runnable := by decide +kernel
set_option maxRecDepth 65536 in
theorem w_alone : about1.alone = true := by decide +kernel
set_option maxRecDepth 65536 in
theorem w_named : about1.methodNamed? x = some theMethod := by decide +kernel
set_option maxRecDepth 65536 in
theorem w_hears : about1.hears theMethod below0 = true := by decide +kernel
set_option maxRecDepth 65536 in
theorem w_ripe : about1.ripe theMethod args0 below0 = true := by decide +kernel
theorem w_running : about1.status = .running := rfl
set_option maxRecDepth 65536 in
theorem w_room : about1.hasRoom e0.platform room_1 = true :=
  launch0.hasRoom_least _ room_1 (by decide +kernel) (by decide +kernel) (by decide +kernel) (by decide +kernel) (by decide +kernel) (by decide +kernel)
theorem allAtoms_all (ts : List Jvm.Cond) (a : Array Jvm.Value) (st : Jvm.State) : (allAtoms ts).before a st = ts.all (fun c => c.before a st) := by
  induction ts with
  | nil => rfl
  | cons c t ih =>
    show (Jvm.Cond.and c (allAtoms t)).before a st = _
    rw [Jvm.Cond.before_and, ih, List.all_cons]
def words1 : List Jvm.Cond := Jvm.Cond.code x code maxLocals ret :: tables_1
/-- a 'code' word, met by the world's own term for the bytes: nothing is compared byte by byte -/
theorem code_word {y : MethodName} {bytes : ByteArray} {mx : Nat} {rt : Option FieldType} {a : Array Value} {s : State} {m : MethodId} {meth : Method} {c : Code} (h1 : s.methodNamed? y = some m) (h2 : s.vm.method? m = some meth) (h3 : meth.code = some c) (h4 : c.code = bytes)
    (h5 : (c.maxLocals == mx && c.exceptionTable.isEmpty && decide (c.maxStack ≤ mostOperands) && decide (meth.sig.returnType = rt) && !meth.locks && decide (parseMethodDescriptor y.desc = some meth.sig)) = true) : (Jvm.Cond.code y bytes mx rt).before a s = true := by
  simp only [Bool.and_eq_true, beq_iff_eq, Bool.not_eq_true', decide_eq_true_eq] at h5
  obtain ⟨⟨⟨⟨⟨g1, g2⟩, g3⟩, g4⟩, g5⟩, g6⟩ := h5
  simp [Cond.before, Cond.holds, Cond.value, h1, h2, h3, h4, g1, g2, g3, g4, g5, g6]
def isCode : Jvm.Cond → Bool
  | .code _ _ _ _ => true
  | _ => false
theorem all_split {L : List Jvm.Cond} {P : Jvm.Cond → Bool} (h1 : L.all (fun c => isCode c || P c) = true) (h2 : ∀ c ∈ L.filter isCode, P c = true) : L.all P = true := by
  refine List.all_eq_true.mpr fun c hc => ?_
  have h := List.all_eq_true.mp h1 c hc
  rcases Bool.eq_false_or_eq_true (isCode c) with hi | hi
  · exact h2 c (List.mem_filter.mpr ⟨hc, hi⟩)
  · simpa [hi] using h
set_option maxRecDepth 65536 in
theorem w_c0 : (Jvm.Cond.code x code maxLocals ret).before args0 about1 = true := code_word (m := ⟨1, 1⟩) (meth := k1m1) (c := k1c1) (by decide +kernel) rfl rfl rfl (by decide +kernel)
set_option maxRecDepth 65536 in
theorem w_c1 : (Jvm.Cond.code ({ cls := "com/example/barred_rows/barredrows/crypto/FpEqualPinLaw", name := "prime", desc := "()[J" } : Jvm.MethodName) method_3_code (15 : Nat) (Option.some (Jvm.ClassFile.FieldType.array Jvm.ClassFile.FieldType.long))).before args0 about1 = true := code_word (m := ⟨1, 2⟩) (meth := k1m2) (c := k1c2) (by decide +kernel) rfl rfl rfl (by decide +kernel)
set_option maxRecDepth 65536 in
theorem w_c2 : (Jvm.Cond.code ({ cls := "com/example/barred_rows/barredrows/crypto/FpEqualPinLaw", name := "place", desc := "([JI[J[JZ)V" } : Jvm.MethodName) method_5_code (9 : Nat) (Option.none : Option Jvm.ClassFile.FieldType)).before args0 about1 = true := code_word (m := ⟨1, 4⟩) (meth := k1m4) (c := k1c4) (by decide +kernel) rfl rfl rfl (by decide +kernel)
set_option maxRecDepth 65536 in
theorem w_c3 : (Jvm.Cond.code ({ cls := "com/example/barred_rows/barredrows/crypto/FpEqualPinLaw", name := "below", desc := "([J[J)Z" } : Jvm.MethodName) method_4_code (2 : Nat) (Option.some Jvm.ClassFile.FieldType.boolean)).before args0 about1 = true := code_word (m := ⟨1, 3⟩) (meth := k1m3) (c := k1c3) (by decide +kernel) rfl rfl rfl (by decide +kernel)
set_option maxRecDepth 65536 in
theorem w_c4 : (Jvm.Cond.code ({ cls := "com/example/barred_rows/barredrows/crypto/Fp", name := "equal", desc := "([JI[JI)Z" } : Jvm.MethodName) prog_7_method_9_code (6 : Nat) (Option.some Jvm.ClassFile.FieldType.boolean)).before args0 about1 = true := code_word (m := ⟨2, 1⟩) (meth := k2m1) (c := k2c1) (by decide +kernel) rfl rfl rfl (by decide +kernel)
set_option maxRecDepth 65536 in
theorem w_c5 : (Jvm.Cond.code ({ cls := "com/example/barred_rows/barredrows/crypto/Fp", name := "canonical", desc := "([J[JI)V" } : Jvm.MethodName) prog_7_method_26_code (21 : Nat) (Option.none : Option Jvm.ClassFile.FieldType)).before args0 about1 = true := code_word (m := ⟨2, 2⟩) (meth := k2m2) (c := k2c2) (by decide +kernel) rfl rfl rfl (by decide +kernel)
def codes1 : List Jvm.Cond := [Jvm.Cond.code x code maxLocals ret, Jvm.Cond.code ({ cls := "com/example/barred_rows/barredrows/crypto/FpEqualPinLaw", name := "prime", desc := "()[J" } : Jvm.MethodName) method_3_code (15 : Nat) (Option.some (Jvm.ClassFile.FieldType.array Jvm.ClassFile.FieldType.long)), Jvm.Cond.code ({ cls := "com/example/barred_rows/barredrows/crypto/FpEqualPinLaw", name := "place", desc := "([JI[J[JZ)V" } : Jvm.MethodName) method_5_code (9 : Nat) (Option.none : Option Jvm.ClassFile.FieldType), Jvm.Cond.code ({ cls := "com/example/barred_rows/barredrows/crypto/FpEqualPinLaw", name := "below", desc := "([J[J)Z" } : Jvm.MethodName) method_4_code (2 : Nat) (Option.some Jvm.ClassFile.FieldType.boolean), Jvm.Cond.code ({ cls := "com/example/barred_rows/barredrows/crypto/Fp", name := "equal", desc := "([JI[JI)Z" } : Jvm.MethodName) prog_7_method_9_code (6 : Nat) (Option.some Jvm.ClassFile.FieldType.boolean), Jvm.Cond.code ({ cls := "com/example/barred_rows/barredrows/crypto/Fp", name := "canonical", desc := "([J[JI)V" } : Jvm.MethodName) prog_7_method_26_code (21 : Nat) (Option.none : Option Jvm.ClassFile.FieldType)]
set_option maxRecDepth 65536 in
theorem codes_eq : words1.filter isCode = codes1 := rfl
theorem w_codes : ∀ c ∈ words1.filter isCode, c.before args0 about1 = true := by
  rw [codes_eq]
  intro c hc
  simp only [codes1, List.mem_cons, List.not_mem_nil, or_false] at hc
  rcases hc with rfl | rfl | rfl | rfl | rfl | rfl
  · exact w_c0
  · exact w_c1
  · exact w_c2
  · exact w_c3
  · exact w_c4
  · exact w_c5
set_option maxRecDepth 65536 in
theorem w_t1 : (words1.take 24).all (fun c => isCode c || c.before args0 about1) = true := by decide +kernel
set_option maxRecDepth 65536 in
theorem w_t2 : (words1.drop 24).all (fun c => isCode c || c.before args0 about1) = true := by decide +kernel
theorem w_tables : (allAtoms (Jvm.Cond.code x code maxLocals ret :: tables_1)).before args0 about1 = true := by
  rw [allAtoms_all]
  show words1.all (fun c => c.before args0 about1) = true
  refine all_split ?_ w_codes
  rw [← List.take_append_drop 24 words1, List.all_append, w_t1, w_t2]
  rfl
set_option maxRecDepth 65536 in
theorem w_case : (Jvm.Cond.and given_1 narrow_1).before args0 about1 = true := by decide +kernel
theorem w_applies : (headSpec (Jvm.Cond.code x code maxLocals ret :: tables_1) room_1).applies x e0.platform about1 = true :=
  (Spec.applies_iff w_frames).mpr ⟨w_running, w_runnable, w_alone, w_named, w_hears, w_ripe, w_room, w_tables⟩
theorem atStart : AtStart classFile x code maxLocals ret World_1 tables_1 room_1 Calls_1 rest_1 Pre_1 launch0 p0 e0 about1 theMethod args0 below0 :=
  ⟨lists_1, trivial, launch0.admits_env _ _ _, launch0.least_env, fairChoices_fair.cas, fairChoices_fair.clock, w_frames, w_args, w_heap, w_applies, trivial, trivial, w_case⟩
end start1
theorem witness_1 : WitnessClaimed_1 := ⟨start1.p0, start1.e0, start1.about1, start1.theMethod, start1.args0, start1.below0, start1.atStart⟩
end Jvm.Pilot.@@N@@
