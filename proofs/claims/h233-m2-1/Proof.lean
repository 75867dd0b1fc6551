import JvmDerived
import JvmDerived.Pilot.@@N@@Statement
import JvmDerived.Pilot.@@N@@Code
set_option linter.unusedVariables false
set_option linter.unusedSimpArgs false
@@BLOCK:NumsL.lean.txt@@
namespace Jvm.Pilot.@@N@@
open Jvm Jvm.ClassFile Sem Op Lib Jvm.Free Jvm.Stand Jvm.LawKit Jvm.RoadKit Bundle Jvm.Pilot.@@N@@.Jvm.D
/-- two roads that come together: the rest is shown once, for every state and value with which they come -/
theorem own_join {p : Program} {l : Launch} {e : Env} {R : Room} {s : State} {m : MethodId} {args : Array Value} {below : List Frame} {meth : Method} {c : Code} {T : State} {locs : List Loc} {cells slots n0 : Nat} {A : State} {P : State → Outcome → Prop}
    (X : Stand p l e R s m args below meth c T locs cells slots) (N : Fr n0 locs) {ι : Type} (Φ : ι → State → Prop) (B : ι → JFrame)
    (rest : ∀ i T' locs', Stand p l e R s m args below meth c T' locs' cells slots → Fr n0 locs' → Φ i T' → ∃ s₂ o, Steps p.tables e below (T'.setTop (B i)) s₂ ∧ P s₂ o)
    (come : (∀ i T' locs', Stand p l e R s m args below meth c T' locs' cells slots → Fr n0 locs' → Φ i T' → ∃ s₂ o, Steps p.tables e below (T'.setTop (B i)) s₂ ∧ P s₂ o) → ∃ s₂ o, Steps p.tables e below A s₂ ∧ P s₂ o) : ∃ s₂ o, Steps p.tables e below A s₂ ∧ P s₂ o := come rest
theorem own_joinH {p : Program} {l : Launch} {e : Env} {R : Room} {s : State} {m : MethodId} {args : Array Value} {below : List Frame} {meth : Method} {c : Code} {T : State} {locs : List Loc} {cells slots n0 : Nat} {A : State} {P : State → Outcome → Prop}
    (X : Stand p l e R s m args below meth c T locs cells slots) (N : Fr n0 locs) {ι : Type} (cells' slots' : Nat) (Φ : ι → Heap → Prop) (B : ι → JFrame)
    (rest : ∀ i T' locs', Stand p l e R s m args below meth c T' locs' cells' slots' → Fr n0 locs' → Φ i T'.heap → ∃ s₂ o, Steps p.tables e below (T'.setTop (B i)) s₂ ∧ P s₂ o)
    (come : (∀ i T' locs', Stand p l e R s m args below meth c T' locs' cells' slots' → Fr n0 locs' → Φ i T'.heap → ∃ s₂ o, Steps p.tables e below (T'.setTop (B i)) s₂ ∧ P s₂ o) → ∃ s₂ o, Steps p.tables e below A s₂ ∧ P s₂ o) : ∃ s₂ o, Steps p.tables e below A s₂ ∧ P s₂ o := come rest
theorem own_mono {p : Program} {l : Launch} {e : Env} {R : Room} {s : State} {m : MethodId} {args : Array Value} {below : List Frame} {meth : Method} {c : Code} {T : State} {locs : List Loc} {cells slots cells' slots' : Nat}
    (X : Stand p l e R s m args below meth c T locs cells slots) (h1 : cells ≤ cells') (h2 : slots ≤ slots') : Stand p l e R s m args below meth c T locs cells' slots' := { X with same := X.same.mono h1 h2 }
theorem own_sta_keep {Z : State} {h h' : Heap} {C n d : String} {v : Value} {ws : List Addr} (F : Sta Z h C n d v) (K : Keep h h' ws) (q : ∀ x ∈ ws, ∀ c : Cell, h[x]? = some c → c.vm.isStatics = false) : Sta Z h' C n d v := by
  obtain ⟨cf, i, k, f, st, cell, h1, h2, h3, h4, h5, h6, h7⟩ := F
  refine ⟨cf, i, k, f, st, cell, h1, h2, h3, h4, K.2.1 st cell h5 fun hm => ?_, h6, h7⟩
  rw [q st hm cell h5] at h6
  cases h6
theorem own_arr_keep {Z : State} {h h' : Heap} {a : Addr} {c : Cell} {ty : FieldType} {ws : List Addr} (F : Arr Z h a c ty) (K : Keep h h' ws) (q : a ∉ ws) : Arr Z h' a c ty := ⟨K.2.1 _ _ F.1 q, F.2⟩
theorem own_plain_E {Z : State} {h : Heap} {a : Addr} {C : String} (F : Exa Z h a C) : ∀ c : Cell, h[a]? = some c → c.vm.isStatics = false := by
  obtain ⟨cell, k, h1, h2, h3, h4, h5⟩ := F
  intro c hc
  cases h1.symm.trans hc
  exact h4
theorem own_plain_V {Z : State} {h : Heap} {a : Addr} {k : ClassId} {ty : FieldType} {n : Int32} {vs : List Value} {d : Value} (F : Arv Z h a k ty n vs d) : ∀ c : Cell, h[a]? = some c → c.vm.isStatics = false := by
  obtain ⟨cell, A, -⟩ := F
  intro c hc
  cases A.1.symm.trans hc
  exact A.plain
/-- a stretch of the road, then the rest -/
theorem own_go {tb : Tables} {e : Env} {below : List Frame} {A B : State} {P : State → Outcome → Prop} (h : ∀ t, Steps tb e below B t → Steps tb e below A t) (k : ∃ s₂ o, Steps tb e below B s₂ ∧ P s₂ o) : ∃ s₂ o, Steps tb e below A s₂ ∧ P s₂ o := by
  obtain ⟨s₂, o, h1, h2⟩ := k
  exact ⟨s₂, o, h s₂ h1, h2⟩
theorem own_eqI {args : Array Value} {first s : State} {o : Option Outcome} {idx : List Nat} {t : Term} {k : Int32} (h : (Jvm.Cond.eq t (.int k)).value args first o s idx = some true) : t.eval args first o idx s = some (.int k) := by
  simp only [Jvm.Cond.value, Term.eval] at h
  cases ht : t.eval args first o idx s with
  | none => simp [ht] at h
  | some x => cases x <;> simp [ht] at h ⊢; exact h
theorem own_eqJ {args : Array Value} {first s : State} {o : Option Outcome} {idx : List Nat} {t : Term} {k : Int64} (h : (Jvm.Cond.eq t (.long k)).value args first o s idx = some true) : t.eval args first o idx s = some (.long k) := by
  simp only [Jvm.Cond.value, Term.eval] at h
  cases ht : t.eval args first o idx s with
  | none => simp [ht] at h
  | some x => cases x <;> simp [ht] at h ⊢; exact h
theorem own_eqR {args : Array Value} {first s : State} {o : Option Outcome} {idx : List Nat} {t u : Term} {a : Addr} (h : (Jvm.Cond.eq t u).value args first o s idx = some true) (hu : u.eval args first o idx s = some (.ref a)) : t.eval args first o idx s = some (.ref a) := by
  simp only [Jvm.Cond.value] at h
  cases ht : t.eval args first o idx s with
  | none => simp [ht] at h
  | some x => cases x <;> simp [ht, hu] at h ⊢; exact h
theorem own_loop {p : Program} {l : Launch} {e : Env} {R : Room} {s : State} {m : MethodId} {args : Array Value} {below : List Frame} {meth : Method} {c : Code} {T : State} {locs : List Loc} {cells slots n0 : Nat} {A : State} {P : State → Outcome → Prop}
    (X : Stand p l e R s m args below meth c T locs cells slots) (N : Fr n0 locs) {ι : Type} (μ cs sl : ι → Nat) (Φ : ι → Heap → Prop) (B : ι → JFrame)
    (iter : ∀ i T' L', Stand p l e R s m args below meth c T' L' (cs i) (sl i) → Fr n0 L' → Φ i T'.heap → (∀ j T2 L2, μ j < μ i → Stand p l e R s m args below meth c T2 L2 (cs j) (sl j) → Fr n0 L2 → Φ j T2.heap → ∃ s₂ o, Steps p.tables e below (T2.setTop (B j)) s₂ ∧ P s₂ o) → ∃ s₂ o, Steps p.tables e below (T'.setTop (B i)) s₂ ∧ P s₂ o)
    (start : (∀ i T' L', Stand p l e R s m args below meth c T' L' (cs i) (sl i) → Fr n0 L' → Φ i T'.heap → ∃ s₂ o, Steps p.tables e below (T'.setTop (B i)) s₂ ∧ P s₂ o) → ∃ s₂ o, Steps p.tables e below A s₂ ∧ P s₂ o) : ∃ s₂ o, Steps p.tables e below A s₂ ∧ P s₂ o := by
  refine start ?_
  suffices h : ∀ n i, μ i = n → ∀ T' L', Stand p l e R s m args below meth c T' L' (cs i) (sl i) → Fr n0 L' → Φ i T'.heap → ∃ s₂ o, Steps p.tables e below (T'.setTop (B i)) s₂ ∧ P s₂ o from fun i => h (μ i) i rfl
  intro n
  induction n using Nat.strongRecOn with
  | ind n ih =>
    intro i hi T' L' X' N' hΦ
    exact iter i T' L' X' N' hΦ fun j T2 L2 hj X2 N2 h2 => ih (μ j) (hi ▸ hj) j rfl T2 L2 X2 N2 h2
def own_N (t : Nat) : Int32 := Nat.toInt32 t
theorem own_Ni {t : Nat} (h : t < 1000000) : (own_N t).toInt = t := len_toInt (by omega)
theorem own_Nc {t : Nat} (h : t < 1000000) : (own_N t).toNatClampNeg = t := by
  simp only [Int32.toNatClampNeg, own_Ni h]; rfl
theorem own_Nn {t : Nat} (h : t < 1000000) : ¬ (own_N t < 0) := by
  rw [Int32.lt_iff_toInt_lt, own_Ni h]
  have : (0 : Int32).toInt = 0 := rfl
  omega
theorem own_Nlt {t u : Nat} (h : t < 1000000) (k : u < 1000000) : (own_N t < own_N u) ↔ t < u := by
  rw [Int32.lt_iff_toInt_lt, own_Ni h, own_Ni k]; omega
theorem own_Neq {t u : Nat} (h : t < 1000000) (k : u < 1000000) : (own_N t = own_N u) ↔ t = u := by
  rw [← Int32.toInt_inj, own_Ni h, own_Ni k]; omega
theorem own_Nof {x : Int32} {t : Nat} (h : t < 1000000) (e : x.toInt = t) : x = own_N t := by
  rw [← Int32.toInt_inj, e, own_Ni h]
theorem own_Nadd {t u : Nat} (h : t + u < 1000000) : own_N t + own_N u = own_N (t + u) :=
  own_Nof h (by rw [Jvm.Kit.i32_add (by rw [own_Ni (by omega), own_Ni (by omega)]; omega) (by rw [own_Ni (by omega), own_Ni (by omega)]; omega), own_Ni (by omega), own_Ni (by omega)]; omega)
theorem own_Nsub {t u : Nat} (h : t < 1000000) (k : u ≤ t) : own_N t - own_N u = own_N (t - u) :=
  own_Nof (by omega) (by rw [Jvm.Kit.i32_sub (by rw [own_Ni (by omega), own_Ni (by omega)]; omega) (by rw [own_Ni (by omega), own_Ni (by omega)]; omega), own_Ni (by omega), own_Ni (by omega)]; omega)
theorem own_N2 {t : Nat} (h : t < 1000) : (2 : Int32) * own_N t = own_N (2 * t) :=
  own_Nof (by omega) (by
    have e : (2 : Int32).toInt = 2 := rfl
    rw [Jvm.Kit.i32_mul (by rw [own_Ni (by omega), e]; omega) (by rw [own_Ni (by omega), e]; omega), own_Ni (by omega), e]; omega)
theorem own_N2' {t : Nat} (h : t < 1000) : own_N t * (2 : Int32) = own_N (2 * t) :=
  own_Nof (by omega) (by
    have e : (2 : Int32).toInt = 2 := rfl
    rw [Jvm.Kit.i32_mul (by rw [own_Ni (by omega), e]; omega) (by rw [own_Ni (by omega), e]; omega), own_Ni (by omega), e]; omega)
theorem own_N4 {t : Nat} (h : t = 4) : (4 : Int32) * own_N t = own_N 16 := by subst h; decide
theorem own_N1 {t : Nat} (h : t < 1000) : own_N t + (1 : Int32) = own_N (t + 1) := own_Nadd (u := 1) (by omega)
theorem own_Nm {t : Nat} (h : t < 1000) : (own_N t &&& (8191 : Int32)) = own_N t :=
  own_Nof (by omega) (by rw [Jvm.Kit.i32_mask (own_N t) 8191 (k := 13) (by decide) (by decide), own_Ni (by omega)]; omega)
theorem own_Nmin {t u : Nat} (h : t < 1000000) (k : u < 1000000) : (if own_N u < own_N t then own_N u else own_N t) = own_N (min t u) := by
  by_cases c : u < t
  · rw [if_pos ((own_Nlt k h).mpr c), show min t u = u by omega]
  · rw [if_neg (fun q => c ((own_Nlt k h).mp q)), show min t u = t by omega]
theorem own_Nmax {t u : Nat} (h : t < 1000000) (k : u < 1000000) : (if own_N t < own_N u then own_N u else own_N t) = own_N (max t u) := by
  by_cases c : t < u
  · rw [if_pos ((own_Nlt h k).mpr c), show max t u = u by omega]
  · rw [if_neg (fun q => c ((own_Nlt h k).mp q)), show max t u = t by omega]
def own_V (f : Nat → Int32) (n : Nat) : List Value := (List.range n).map fun i => .int (f i)
theorem own_V_len (f : Nat → Int32) (n : Nat) : (own_V f n).length = n := by simp [own_V]
theorem own_V_get {f : Nat → Int32} {n i : Nat} (h : i < n) : (own_V f n)[i]? = some (.int (f i)) := by simp [own_V, h]
theorem own_V_getD {f : Nat → Int32} {n i : Nat} {dv : Value} (h : i < n) : (own_V f n).getD i dv = .int (f i) := by
  rw [List.getD_eq_getElem?_getD, own_V_get h]; rfl
def own_up (f : Nat → Int32) (i : Nat) (v : Int32) : Nat → Int32 := fun j => if j = i then v else f j
theorem own_V_ext {L : List Value} {f : Nat → Int32} {n : Nat} (hl : L.length = n) (h : ∀ i, i < n → L[i]? = some (.int (f i))) : L = own_V f n := by
  apply List.ext_getElem?
  intro i
  by_cases c : i < n
  · rw [h i c, own_V_get c]
  · rw [List.getElem?_eq_none (by omega), List.getElem?_eq_none (by rw [own_V_len]; omega)]
theorem own_V_set (f : Nat → Int32) (n i : Nat) (v : Int32) : (own_V f n).set i (.int v) = own_V (own_up f i v) n := by
  refine own_V_ext (by rw [List.length_set, own_V_len]) fun j hj => ?_
  rw [List.getElem?_set]
  by_cases c : i = j
  · subst c; rw [if_pos rfl, if_pos (by rw [own_V_len]; exact hj)]; simp [own_up]
  · rw [if_neg c, own_V_get hj, own_up, if_neg (fun q => c q.symm)]
def own_cp (f s : Nat → Int32) (dp sp nn : Nat) : Nat → Int32 := fun j => if dp ≤ j ∧ j < dp + nn then s (sp + (j - dp)) else f j
theorem own_V_cp (f s : Nat → Int32) {dp sp nn nd ns : Nat} (h4 : sp + nn ≤ ns) (h5 : dp + nn ≤ nd) : (own_V f nd).take dp ++ ((List.range nn).map fun i => (own_V s ns).getD (sp + i) (.int 0)) ++ (own_V f nd).drop (dp + nn) = own_V (own_cp f s dp sp nn) nd := by
  refine own_V_ext (by simp [own_V_len]; omega) fun j hj => ?_
  have l1 : ((own_V f nd).take dp).length = dp := by rw [List.length_take, own_V_len]; omega
  have l2 : ((List.range nn).map fun i => (own_V s ns).getD (sp + i) (.int 0)).length = nn := by simp
  by_cases c1 : j < dp
  · rw [List.append_assoc, List.getElem?_append_left (by omega), List.getElem?_take_of_lt c1, own_V_get hj, own_cp, if_neg (by omega)]
  · by_cases c2 : j < dp + nn
    · rw [List.getElem?_append_left (by rw [List.length_append]; omega), List.getElem?_append_right (by omega), l1, own_cp, if_pos ⟨by omega, c2⟩, List.getElem?_map, List.getElem?_range (by omega)]
      show some ((own_V s ns).getD (sp + (j - dp)) (.int 0)) = _
      rw [own_V_getD (by omega)]
    · rw [List.getElem?_append_right (by rw [List.length_append]; omega), List.length_append, l1, l2, List.getElem?_drop, show dp + nn + (j - (dp + nn)) = j by omega, own_V_get hj, own_cp, if_neg (by omega)]
theorem own_inb {c : Cell} {n X : Nat} (S : c.slots.size = (own_N n).toNatClampNeg) (hn : n < 1000) (h : X < n) : ¬ (own_N X < 0 ∨ c.slots.size ≤ (own_N X).toNatClampNeg) := by
  rw [S, own_Nc (by omega), own_Nc (by omega)]
  intro q
  rcases q with q | q
  · exact own_Nn (by omega) q
  · omega
theorem own_getV {f : Nat → Int32} {n X : Nat} {dv : Value} (hn : n < 1000) (h : X < n) : (own_V f n).getD (own_N X).toNatClampNeg dv = .int (f X) := by
  rw [own_Nc (by omega)]; exact own_V_getD h
theorem own_setV {Z : State} {h h' : Heap} {a : Addr} {k : ClassId} {f : Nat → Int32} {n X : Nat} {v : Int32} {dv : Value} {c : Cell} (A : Arr Z h a c .int) (q1 : c.cls = k) (S : c.slots.size = (own_N n).toNatClampNeg) (q3 : ¬ own_N n < 0) (H : Has c (own_V f n) dv) (G : ∀ i, i < c.slots.size → fits .int ((own_V f n).getD i dv) = true) (W : Wr h h' a (own_N X).toNatClampNeg (.int v)) (hn : n < 1000) (hX : X < n) : Arv Z h' a k .int (own_N n) (own_V (own_up f X v) n) dv := by
  have := Arv.set A q1 S q3 H G (v := .int v) rfl W X (own_Nc (by omega)) (by rw [own_V_len]; exact hX)
  rwa [own_V_set] at this
theorem own_newV {Z : State} {h : Heap} {a : Addr} {k : ClassId} {n : Nat} (F : Arv Z h a k .int (own_N n) [] (.int (0 : Int32))) : Arv Z h a k .int (own_N n) (own_V (fun _ => 0) n) (.int (0 : Int32)) := by
  refine F.pad fun i => ?_
  by_cases c : i < n
  · rw [own_V_getD c]; rfl
  · rw [List.getD_eq_getElem?_getD, List.getElem?_eq_none (by rw [own_V_len]; omega)]; rfl
theorem own_neT {Z : State} {h : Heap} {a b : Addr} {k k' : ClassId} {ty ty' : FieldType} {z z' : Int32} {vs vs' : List Value} {d d' : Value} (F : Arv Z h a k ty z vs d) (G : Arv Z h b k' ty' z' vs' d') (q : ty ≠ ty') : a ≠ b := fun e => by
  subst e
  obtain ⟨c, ⟨A1, ⟨_, k1, A2, c1, A3⟩, _⟩, _⟩ := F
  obtain ⟨c', ⟨B1, ⟨_, k2, B2, c2, B3⟩, _⟩, _⟩ := G
  cases A1.symm.trans B1
  cases A2.symm.trans B2
  rw [A3] at B3
  cases B3
  exact q rfl
theorem own_cpA {p : Program} {l : Launch} {e : Env} {R : Room} {s : State} {m : MethodId} {args : Array Value} {below : List Frame} {meth : Method} {c : Code} {T : State} {locs : List Loc} {cells slots : Nat} {Z : State} {h : Heap} {a b : Addr} {k k' : ClassId} {f sf : Nat → Int32} {ns nd sp dp nn n0 : Nat}
    (X : Stand p l e R s m args below meth c T locs cells slots) (hx : p.tables.exec = Jvm.exec) (hZ : Z.Warmed39 s.vm) {a0 : Array Value} {own : String} {index : Nat} (hown : s.vm.findClass own = some m.cls)
    (w1 : (Cond.methodLink own index Jvm.Stand.acN).before a0 Z = true) (w2 : (Cond.native Jvm.Stand.acN).before a0 Z = true) (w3 : (Cond.static Jvm.Stand.acN).before a0 Z = true) (w4 : (Cond.initialized "java/lang/System").before a0 Z = true) (eT : T.heap = h)
    (A : Arv Z h a k .int (own_N ns) (own_V sf ns) (.int (0 : Int32))) (B : Arv Z h b k' .int (own_N nd) (own_V f nd) (.int (0 : Int32))) (b1 : ns < 1000) (b2 : nd < 1000) (h4 : sp + nn ≤ ns) (h5 : dp + nn ≤ nd) (N : Fr n0 locs) (ge : n0 ≤ b)
    {g : JFrame} (hg : g.method = m) (hsize : g.locals.size = c.maxLocals) {rest : List Value} (hs : g.stack = .int (own_N nn) :: .int (own_N dp) :: .ref b :: .int (own_N sp) :: .ref a :: rest) (hd : decode c.code g.pc = .ok (.invokestatic index, 3))
    (hf : 1 ≤ R.frames) {W : Nat} (hW : 2 * g.monitorRoom + (rest.map fun v => v.category).sum ≤ W) (hlo : W + (nativeFrameWords "java/lang/System" "arraycopy" 5 + 11) ≤ R.locals) :
    ∃ T' h' L, Stand p l e R s m args below meth c T' L cells slots ∧ T'.heap = h' ∧ Fr n0 L ∧ Keep h h' [b] ∧ Arv Z h' b k' .int (own_N nd) (own_V (own_cp f sf dp sp nn) nd) (.int (0 : Int32)) ∧
      ∀ target, Steps p.tables e below (T'.setTop { g with pc := g.pc + 3, stack := rest }) target → Steps p.tables e below (T.setTop g) target := by
  have c1 : (own_N sp).toNatClampNeg = sp := own_Nc (by omega)
  have c2 : (own_N dp).toNatClampNeg = dp := own_Nc (by omega)
  have c3 : (own_N nn).toNatClampNeg = nn := own_Nc (by omega)
  have c4 : (own_N ns).toNatClampNeg = ns := own_Nc (by omega)
  have c5 : (own_N nd).toNatClampNeg = nd := own_Nc (by omega)
  obtain ⟨T', h', L, r1, r2, r3, r4, r5, r6⟩ := cpA X hx hZ hown w1 w2 w3 w4 eT A B (Or.inl ⟨rfl, rfl⟩) (own_Nn (by omega)) (own_Nn (by omega)) (own_Nn (by omega)) (by rw [c1, c3, c4]; exact h4) (by rw [c2, c3, c5]; exact h5) rfl (by rw [c2, c3, own_V_len]; exact h5) N ge hg hsize hs hd hf hW hlo
  rw [c1, c2, c3, own_V_cp f sf h4 h5] at r5
  exact ⟨T', h', L, r1, r2, r3, r4, r5, r6⟩
def own_ld (d : Nat → Int32) : Nat → Int32
  | 0 => -1
  | t + 1 => d t
def own_sz (d : Nat → Int32) : Nat → Nat
  | 0 => 0
  | t + 1 => own_sz d t + (if d t = own_ld d t then 0 else 1)
theorem own_sz_new {d : Nat → Int32} {t : Nat} (h : ¬ d t = own_ld d t) : own_sz d (t + 1) = own_sz d t + 1 := by simp only [own_sz, if_neg h]
theorem own_sz_old {d : Nat → Int32} {t : Nat} (h : d t = own_ld d t) : own_sz d (t + 1) = own_sz d t := by simp only [own_sz, if_pos h, Nat.add_zero]
theorem own_sz_le (d : Nat → Int32) {t u : Nat} (h : t ≤ u) : own_sz d t ≤ own_sz d u := by
  induction h with
  | refl => exact Nat.le_refl _
  | step _ ih => exact Nat.le_trans ih (Nat.le_add_right _ _)
theorem own_sz_lt {d : Nat → Int32} {t u : Nat} (h : t < u) (q : ¬ d t = own_ld d t) : own_sz d t + 1 ≤ own_sz d u := by
  have := own_sz_le d (show t + 1 ≤ u from h)
  rw [own_sz_new q] at this
  exact this
def own_H (d en : Nat → Int32) (a : Nat) : Prop := ∀ t, t < a → ¬ d t = own_ld d t → en (2 * own_sz d t + 1) = own_N t
theorem own_H_new {d en : Nat → Int32} {a : Nat} {v : Int32} (H : own_H d en a) (q : ¬ d a = own_ld d a) : own_H d (own_up (own_up en (2 * own_sz d a) v) (2 * own_sz d a + 1) (own_N a)) (a + 1) := fun t ht hq => by
  by_cases c : t = a
  · subst c; simp [own_up]
  · have hl := own_sz_lt (show t < a by omega) hq
    rw [own_up, if_neg (by omega), own_up, if_neg (by omega)]
    exact H t (by omega) hq
theorem own_H_old {d en : Nat → Int32} {a : Nat} (H : own_H d en a) (q : d a = own_ld d a) : own_H d en (a + 1) := fun t ht hq => by
  by_cases c : t = a
  · subst c; exact absurd q hq
  · exact H t (by omega) hq
theorem own_H_grow {d en z : Nat → Int32} {a : Nat} (H : own_H d en a) (q : 2 * own_sz d a = 8) : own_H d (own_cp z en 0 0 8) a := fun t ht hq => by
  have hl := own_sz_lt ht hq
  rw [own_cp, if_pos ⟨by omega, by omega⟩, show 0 + (2 * own_sz d t + 1 - 0) = 2 * own_sz d t + 1 by omega]
  exact H t ht hq
theorem own_over {b f t : Nat} (hb : b < 1000) (h : f ≤ t) (ht : t < 1000) : ¬ (((2147483647 : Int32) - own_N b) < (own_N t - own_N f)) := by
  have e : (2147483647 : Int32).toInt = 2147483647 := rfl
  rw [own_Nsub (by omega) h, Int32.lt_iff_toInt_lt, Jvm.Kit.i32_sub (by rw [e, own_Ni (by omega)]; omega) (by rw [e, own_Ni (by omega)]; omega), e, own_Ni (by omega), own_Ni (by omega)]
  omega
theorem own_pfcp {f ps : Nat → Int32} {b n : Nat} (H : ∀ t, t < b → f t = ps t) : ∀ t, t < b + n → own_cp f ps b b n t = ps t := fun t ht => by
  by_cases c : b ≤ t
  · rw [own_cp, if_pos ⟨c, ht⟩, show b + (t - b) = t by omega]
  · rw [own_cp, if_neg (by omega)]; exact H t (by omega)
theorem own_pfgrow {f z ps : Nat → Int32} {b n : Nat} (H : ∀ t, t < b → f t = ps t) (q : b ≤ n) : ∀ t, t < b → own_cp z f 0 0 n t = ps t := fun t ht => by
  rw [own_cp, if_pos ⟨by omega, by omega⟩, show 0 + (t - 0) = t by omega]; exact H t ht
theorem own_lt {x n : Nat} (hx : x < 1000) (hn : n < 1000) (q : own_N x < own_N n) : x < n := (own_Nlt (by omega) (by omega)).mp q
theorem own_nlt {x n : Nat} (hx : x < 1000) (hn : n < 1000) (q : ¬ own_N x < own_N n) : ¬ x < n := fun h => q ((own_Nlt (by omega) (by omega)).mpr h)
theorem own_eq {x n : Nat} (hx : x < 1000) (hn : n < 1000) (q : own_N x = own_N n) : x = n := (own_Neq (by omega) (by omega)).mp q
theorem own_ltne {x n : Nat} (h : x ≤ n) (hn : n < 1000) (q : ¬ own_N x = own_N n) : x < n := by
  have : ¬ x = n := fun e => q (congrArg own_N e)
  omega
theorem own_ushr (x : UInt32) {n : UInt32} {k : Nat} (hn : n.toNat = k) (h1 : 1 ≤ k) (h2 : k < 32) : 0 ≤ ((x >>> n).toInt32).toInt := by
  have e : (x >>> n).toNat = x.toNat / 2 ^ k := by
    rw [UInt32.toNat_shiftRight, hn, Nat.mod_eq_of_lt h2, Nat.shiftRight_eq_div_pow]
  have hx : x.toNat < 2 ^ 32 := x.toNat_lt
  have hl : (x >>> n).toNat < 2 ^ 31 := by
    rw [e]
    have h2k : 2 ^ 1 ≤ 2 ^ k := Nat.pow_le_pow_right (by decide) h1
    have : x.toNat / 2 ^ k ≤ x.toNat / 2 ^ 1 := Nat.div_le_div_left h2k (by decide)
    omega
  have : ((x >>> n).toInt32).toInt = (x >>> n).toBitVec.toInt := rfl
  rw [this, BitVec.toInt_eq_toNat_of_lt (show 2 * (x >>> n).toBitVec.toNat < 2 ^ 32 from by
    have : (x >>> n).toBitVec.toNat = (x >>> n).toNat := rfl
    omega)]
  omega
theorem own_rem {x : Int32} (h : 0 ≤ x.toInt) {n : Int32} {k : Nat} (hn : n.toInt = k) (hk : 0 < k) (hb : k < 1000) : ∃ c, c < k ∧ (x % n) = own_N c := by
  have e : (x % n).toInt = x.toInt % k := by rw [Int32.toInt_mod, hn]; exact Int.tmod_eq_emod_of_nonneg h
  have r1 := Int.emod_nonneg x.toInt (show (k : Int) ≠ 0 by omega)
  have r2 := Int.emod_lt_of_pos x.toInt (show (0 : Int) < k by omega)
  exact ⟨(x.toInt % k).toNat, by omega, own_Nof (by omega) (by rw [e]; omega)⟩
theorem own_V_congr {f f' : Nat → Int32} {n : Nat} (h : ∀ i, i < n → f i = f' i) : own_V f n = own_V f' n :=
  own_V_ext (own_V_len f n) fun i hi => by rw [own_V_get hi, h i hi]
def own_dn (g j : Int32) : Int32 := (((2 : Int32) * j) + (((g.toUInt32 >>> (j &&& 31).toUInt32).toInt32) &&& (1 : Int32)))
theorem own_dn_int (g : Int32) {j : Nat} (h : j < 100) : (own_dn g (own_N j)).toInt = 2 * j ∨ (own_dn g (own_N j)).toInt = 2 * j + 1 := by
  have hm := Jvm.Kit.i32_mask ((g.toUInt32 >>> (own_N j &&& 31).toUInt32).toInt32) 1 (k := 1) (by decide) (by decide)
  obtain ⟨x, hx⟩ : ∃ x, x = (((g.toUInt32 >>> (own_N j &&& 31).toUInt32).toInt32) &&& (1 : Int32)) := ⟨_, rfl⟩
  rw [← hx] at hm
  have e := own_Ni (t := 2 * j) (by omega)
  rw [own_dn, ← hx, own_N2 (by omega), Jvm.Kit.i32_add (by rw [e]; omega) (by rw [e]; omega), e]
  omega
theorem own_dn_inj (g : Int32) {i j : Nat} (hi : i < 100) (hj : j < 100) (e : own_dn g (own_N i) = own_dn g (own_N j)) : i = j := by
  have a := own_dn_int g hi
  have b := own_dn_int g hj
  rw [e] at a
  omega
def own_wh (c1 c2 c3 c4 k : Nat) : Nat := if k < c1 then 0 else if k < c2 then 1 else if k < c3 then 2 else if k < c4 then 3 else 4
theorem own_wh_le (c1 c2 c3 c4 k : Nat) : own_wh c1 c2 c3 c4 k ≤ 4 := by
  unfold own_wh
  split <;> (try split) <;> (try split) <;> (try split) <;> omega
def own_FF (n j f : Nat) : Prop := (j < n → 1 ≤ f ∧ f ≤ 3) ∧ (¬ j < n → f = 0)
def own_D (g : Int32) (c1 c2 c3 c4 : Nat) : Nat → Int32 := fun k => own_dn g (own_N (own_wh c1 c2 c3 c4 k))
def own_FS (n a b c d e : Nat) : Prop := 1 ≤ n ∧ n ≤ 5 ∧ own_FF n 0 a ∧ own_FF n 1 b ∧ own_FF n 2 c ∧ own_FF n 3 d ∧ own_FF n 4 e
theorem own_wh_0 {n a b c d e : Nat} (F : own_FS n a b c d e) : own_wh a (a + b) (a + b + c) (a + b + c + d) 0 = 0 := by
  have h0 := F.2.2.1
  have n1 := F.1
  unfold own_FF at h0
  rw [own_wh, if_pos (by omega)]
theorem own_wh_s {n a b c d e : Nat} (F : own_FS n a b c d e) {k : Nat} (hk : k + 1 < a + b + c + d + e) : own_wh a (a + b) (a + b + c) (a + b + c + d) (k + 1) = own_wh a (a + b) (a + b + c) (a + b + c + d) k ∨ own_wh a (a + b) (a + b + c) (a + b + c + d) (k + 1) = own_wh a (a + b) (a + b + c) (a + b + c + d) k + 1 := by
  obtain ⟨n1, n5, h0, h1, h2, h3, h4⟩ := F
  unfold own_FF at h0 h1 h2 h3 h4
  unfold own_wh
  by_cases k1 : k + 1 < a
  · rw [if_pos k1, if_pos (show k < a by omega)]; exact Or.inl rfl
  rw [if_neg k1]
  by_cases k2 : k + 1 < a + b
  · rw [if_pos k2]
    by_cases q : k < a
    · rw [if_pos q]; exact Or.inr rfl
    · rw [if_neg q, if_pos (by omega)]; exact Or.inl rfl
  rw [if_neg k2]
  by_cases k3 : k + 1 < a + b + c
  · rw [if_pos k3, if_neg (show ¬ k < a by omega)]
    by_cases q : k < a + b
    · rw [if_pos q]; exact Or.inr rfl
    · rw [if_neg q, if_pos (by omega)]; exact Or.inl rfl
  rw [if_neg k3]
  by_cases k4 : k + 1 < a + b + c + d
  · rw [if_pos k4, if_neg (show ¬ k < a by omega), if_neg (show ¬ k < a + b by omega)]
    by_cases q : k < a + b + c
    · rw [if_pos q]; exact Or.inr rfl
    · rw [if_neg q, if_pos (by omega)]; exact Or.inl rfl
  rw [if_neg k4, if_neg (show ¬ k < a by omega), if_neg (show ¬ k < a + b by omega), if_neg (show ¬ k < a + b + c by omega)]
  by_cases q : k < a + b + c + d
  · rw [if_pos q]; exact Or.inr rfl
  · rw [if_neg q]; exact Or.inl rfl
theorem own_sz_wh {n a b c d e : Nat} (F : own_FS n a b c d e) (g : Int32) : ∀ k, k < a + b + c + d + e → own_sz (own_D g a (a + b) (a + b + c) (a + b + c + d)) (k + 1) = own_wh a (a + b) (a + b + c) (a + b + c + d) k + 1
  | 0, _ => by
    have hn : ¬ own_D g a (a + b) (a + b + c) (a + b + c + d) 0 = own_ld (own_D g a (a + b) (a + b + c) (a + b + c + d)) 0 := fun q => by
      have h := own_dn_int g (j := own_wh a (a + b) (a + b + c) (a + b + c + d) 0) (by have := own_wh_le a (a + b) (a + b + c) (a + b + c + d) 0; omega)
      have q' : own_dn g (own_N (own_wh a (a + b) (a + b + c) (a + b + c + d) 0)) = (-1 : Int32) := q
      rw [q', show (-1 : Int32).toInt = -1 by decide] at h
      omega
    rw [own_sz_new hn, own_wh_0 F]
    rfl
  | k + 1, hk => by
    have ih := own_sz_wh F g k (by omega)
    have l1 := own_wh_le a (a + b) (a + b + c) (a + b + c + d) k
    have l2 := own_wh_le a (a + b) (a + b + c) (a + b + c + d) (k + 1)
    rcases own_wh_s F hk with h | h
    · have ho : own_D g a (a + b) (a + b + c) (a + b + c + d) (k + 1) = own_ld (own_D g a (a + b) (a + b + c) (a + b + c + d)) (k + 1) := by
        show own_dn g (own_N _) = own_dn g (own_N _)
        rw [h]
      rw [own_sz_old ho, ih, h]
    · have hn : ¬ own_D g a (a + b) (a + b + c) (a + b + c + d) (k + 1) = own_ld (own_D g a (a + b) (a + b + c) (a + b + c + d)) (k + 1) := fun q => by
        have := own_dn_inj g (by omega) (by omega) (show own_dn g (own_N (own_wh a (a + b) (a + b + c) (a + b + c + d) (k + 1))) = own_dn g (own_N (own_wh a (a + b) (a + b + c) (a + b + c + d) k)) from q)
        omega
      rw [own_sz_new hn, ih, h]
theorem own_ent {n a b c d e : Nat} (F : own_FS n a b c d e) (g : Int32) {en : Nat → Int32} (H : own_H (own_D g a (a + b) (a + b + c) (a + b + c + d)) en (a + b + c + d + e)) {k j : Nat} (hk : k < a + b + c + d + e) (h1 : own_wh a (a + b) (a + b + c) (a + b + c + d) k = j) (h2 : (k = 0 ∧ j = 0) ∨ (1 ≤ k ∧ own_wh a (a + b) (a + b + c) (a + b + c + d) (k - 1) + 1 = j)) : en (2 * j + 1) = own_N k := by
  have hs : own_sz (own_D g a (a + b) (a + b + c) (a + b + c + d)) k = j := by
    rcases h2 with ⟨rfl, rfl⟩ | ⟨h3, h4⟩
    · rfl
    · have := own_sz_wh F g (k - 1) (by omega)
      rw [show k - 1 + 1 = k by omega] at this
      omega
  have hn : ¬ own_D g a (a + b) (a + b + c) (a + b + c + d) k = own_ld (own_D g a (a + b) (a + b + c) (a + b + c + d)) k := fun q => by
    have h5 := own_sz_wh F g k hk
    rw [own_sz_old q] at h5
    omega
  have := H k hk hn
  rwa [hs] at this
theorem own_ents {n a b c d e : Nat} (F : own_FS n a b c d e) (g : Int32) {en : Nat → Int32} (H : own_H (own_D g a (a + b) (a + b + c) (a + b + c + d)) en (a + b + c + d + e)) : en 1 = own_N 0 ∧ (1 < n → en 3 = own_N a) ∧ (2 < n → en 5 = own_N (a + b)) ∧ (3 < n → en 7 = own_N (a + b + c)) ∧ (4 < n → en 9 = own_N (a + b + c + d)) := by
  obtain ⟨n1, n5, h0, h1, h2, h3, h4⟩ := id F
  unfold own_FF at h0 h1 h2 h3 h4
  refine ⟨own_ent F g H (k := 0) (j := 0) (by omega) (own_wh_0 F) (Or.inl ⟨rfl, rfl⟩), fun q => own_ent F g H (k := a) (j := 1) (by omega) ?_ (Or.inr ⟨by omega, ?_⟩), fun q => own_ent F g H (k := a + b) (j := 2) (by omega) ?_ (Or.inr ⟨by omega, ?_⟩), fun q => own_ent F g H (k := a + b + c) (j := 3) (by omega) ?_ (Or.inr ⟨by omega, ?_⟩), fun q => own_ent F g H (k := a + b + c + d) (j := 4) (by omega) ?_ (Or.inr ⟨by omega, ?_⟩)⟩
  · rw [own_wh, if_neg (by omega), if_pos (by omega)]
  · rw [own_wh, if_pos (by omega)]
  · rw [own_wh, if_neg (by omega), if_neg (by omega), if_pos (by omega)]
  · rw [own_wh, if_neg (by omega), if_pos (by omega)]
  · rw [own_wh, if_neg (by omega), if_neg (by omega), if_neg (by omega), if_pos (by omega)]
  · rw [own_wh, if_neg (by omega), if_neg (by omega), if_pos (by omega)]
  · rw [own_wh, if_neg (by omega), if_neg (by omega), if_neg (by omega), if_neg (by omega)]
  · rw [own_wh, if_neg (by omega), if_neg (by omega), if_neg (by omega), if_pos (by omega)]
theorem own_tot {n a b c d e : Nat} (F : own_FS n a b c d e) (g : Int32) : own_sz (own_D g a (a + b) (a + b + c) (a + b + c + d)) (a + b + c + d + e) = n := by
  obtain ⟨n1, n5, h0, h1, h2, h3, h4⟩ := id F
  unfold own_FF at h0 h1 h2 h3 h4
  have h := own_sz_wh F g (a + b + c + d + e - 1) (by omega)
  rw [show a + b + c + d + e - 1 + 1 = a + b + c + d + e by omega] at h
  rw [h]
  rcases (show n = 1 ∨ n = 2 ∨ n = 3 ∨ n = 4 ∨ n = 5 by omega) with rfl | rfl | rfl | rfl | rfl
  · rw [own_wh, if_pos (by omega)]
  · rw [own_wh, if_neg (by omega), if_pos (by omega)]
  · rw [own_wh, if_neg (by omega), if_neg (by omega), if_pos (by omega)]
  · rw [own_wh, if_neg (by omega), if_neg (by omega), if_neg (by omega), if_pos (by omega)]
  · rw [own_wh, if_neg (by omega), if_neg (by omega), if_neg (by omega), if_neg (by omega)]
theorem own_FSb {n a b c d e : Nat} (F : own_FS n a b c d e) : 1 ≤ a + b + c + d + e ∧ a + b + c + d + e ≤ 15 := by
  obtain ⟨n1, n5, h0, h1, h2, h3, h4⟩ := F
  unfold own_FF at h0 h1 h2 h3 h4
  omega
theorem own_Db (g : Int32) (c1 c2 c3 c4 : Nat) (n : Nat) : ∀ t, t < n → ¬ own_D g c1 c2 c3 c4 t < 0 ∧ own_D g c1 c2 c3 c4 t < (10 : Int32) := fun t _ => by
  have l := own_wh_le c1 c2 c3 c4 t
  have h := own_dn_int g (j := own_wh c1 c2 c3 c4 t) (by omega)
  have h0 : (0 : Int32).toInt = 0 := rfl
  have h1 : (10 : Int32).toInt = 10 := rfl
  show ¬ own_dn g _ < 0 ∧ own_dn g _ < 10
  rw [Int32.lt_iff_toInt_lt, Int32.lt_iff_toInt_lt, h0, h1]
  omega
theorem own_n5 (x : Int32) : ∃ n, (1 ≤ n ∧ n ≤ 5) ∧ (((x &&& (2147483647 : Int32)) % (5 : Int32)) + (1 : Int32)) = own_N n := by
  obtain ⟨c, hc, e⟩ := own_rem (x := (x &&& (2147483647 : Int32))) (by have := Jvm.Kit.i32_mask x 2147483647 (k := 31) (by decide) (by decide); omega) (n := (5 : Int32)) (k := 5) rfl (by decide) (by decide)
  exact ⟨c + 1, ⟨by omega, by omega⟩, by rw [e, own_N1 (by omega)]⟩
theorem own_fq (x : Int32) : ∃ f, (1 ≤ f ∧ f ≤ 3) ∧ (((x &&& (3 : Int32)) % (3 : Int32)) + (1 : Int32)) = own_N f := by
  obtain ⟨c, hc, e⟩ := own_rem (x := (x &&& (3 : Int32))) (by have := Jvm.Kit.i32_mask x 3 (k := 2) (by decide) (by decide); omega) (n := (3 : Int32)) (k := 3) rfl (by decide) (by decide)
  exact ⟨c + 1, ⟨by omega, by omega⟩, by rw [e, own_N1 (by omega)]⟩
theorem own_ct (x : Int32) {t : Nat} (ht : t ≤ 15) : ∃ c, c ≤ t ∧ ((x &&& (2147483647 : Int32)) % own_N (t + 1)) = own_N c := by
  obtain ⟨c, hc, e⟩ := own_rem (x := (x &&& (2147483647 : Int32))) (by have := Jvm.Kit.i32_mask x 2147483647 (k := 31) (by decide) (by decide); omega) (n := own_N (t + 1)) (k := t + 1) (own_Ni (by omega)) (by omega) (by omega)
  exact ⟨c, by omega, e⟩
theorem own_nz {t : Nat} (ht : t < 900) : ¬ own_N (t + 1) = (0 : Int32) := fun q => by
  have := own_eq (x := t + 1) (n := 0) (by omega) (by decide) q
  omega
theorem own_fill {f D : Nat → Int32} {k : Nat} {v : Int32} (h : ∀ i, i < k → f i = D i) (e : v = D k) : ∀ i, i < k + 1 → own_up f k v i = D i := fun i hi => by
  by_cases c : i = k
  · subst c; rw [own_up, if_pos rfl]; exact e
  · rw [own_up, if_neg c]; exact h i (by omega)
/-- the list of the written places, from here on under a name -/
theorem own_hide {p : Program} {l : Launch} {e : Env} {R : Room} {s : State} {m : MethodId} {args : Array Value} {below : List Frame} {meth : Method} {c : Code} {T : State} {locs : List Loc} {cells slots n0 : Nat} {G : Prop}
    (X : Stand p l e R s m args below meth c T locs cells slots) (N : Fr n0 locs) (k : ∀ lc, Stand p l e R s m args below meth c T lc cells slots → Fr n0 lc → G) : G := k locs X N
theorem ef_max (m : MethodId) (p0 : Int32) (p1 : Int32) : entryFrame m #[(.int p0), (.int p1)] 2 = mkF m 0 #[.val (.int p0), .val (.int p1)] [] := by first | (simp [entryFrame, mkF, argsToLocals, Value.category]; done) | rfl
theorem pn_9 : plainFor (⟨"java/lang/Math", "max", "(II)I"⟩ : MethodName) = true := by decide +kernel
abbrev LS_II (a0 : Int32) (a1 : Int32) : Array Slot := #[.val (.int a0), .val (.int a1)]
theorem d9_0 : decode jdk_29_method_65_code 0 = .ok (.iload_n 0, 1) := by decide +kernel
theorem d9_1 : decode jdk_29_method_65_code 1 = .ok (.iload_n 1, 1) := by decide +kernel
theorem d9_2 : decode jdk_29_method_65_code 2 = .ok (.if_icmp .lt 7, 3) := by decide +kernel
theorem d9_9 : decode jdk_29_method_65_code 9 = .ok (.iload_n 1, 1) := by decide +kernel
theorem d9_10 : decode jdk_29_method_65_code 10 = .ok (.ireturn, 1) := by decide +kernel
theorem d9_5 : decode jdk_29_method_65_code 5 = .ok (.iload_n 0, 1) := by decide +kernel
theorem d9_6 : decode jdk_29_method_65_code 6 = .ok (.goto 4, 3) := by decide +kernel
def Qmax (Z : State) (p0 : Int32) (p1 : Int32) (h0 : Heap) (n0 : Nat) (v : Option Value) (h : Heap) (L : List Loc) : Prop := v = some (.int (if p0 < p1 then p1 else p0)) ∧ Fr n0 L ∧ h = h0
set_option maxRecDepth 65536 in
set_option maxHeartbeats 40000000 in
theorem rmmax (l : Launch) (Z : State) (a0 : Array Value) (hw : ∀ d ∈ tables_1, d.before a0 Z = true) (ws : List Jvm.Cond) (p0 : Int32) (p1 : Int32) (h0 : Heap) (n0 : Nat) (Z0 : n0 ≤ h0.size) :
    MetFree l (⟨"java/lang/Math", "max", "(II)I"⟩ : MethodName) (head1 (Jvm.Cond.code (⟨"java/lang/Math", "max", "(II)I"⟩ : MethodName) jdk_29_method_65_code 2 (some .int) :: ws) ({ frames := 0, cells := 0, slots := 0, locals := 0 } : Room)) (fun a U => a = #[(.int p0), (.int p1)] ∧ Z.Warmed39 U.vm ∧ U.heap = h0) (fun _ _ _ _ _ => True) (fun _ U o U' => ∃ v L, o = .returned v ∧ Qmax Z p0 p1 h0 n0 v U'.heap L ∧ FrameEnd U o U' L ({ frames := 0, cells := 0, slots := 0, locals := 0 } : Room).cells ({ frames := 0, cells := 0, slots := 0, locals := 0 } : Room).slots) := by
  refine MetFree.of_bodySF (Jvm.Free.JP.mathPlain rfl (by decide +kernel)) hisR ?_
  intro p e s m args below meth c s₁ Bd hml0 hP hK
  obtain ⟨rfl, hZ, hh⟩ := hP
  have hx := Bd.exec
  have hby := Bd.bytes
  have hml : c.maxLocals = 2 := hml0
  have hown : s.vm.findClass "java/lang/Math" = some m.cls := findClass_of_methodNamed Bd.named
  have hnm := (name_of_methodNamed Bd.named Bd.method).1
  have X0 : Stand p l e ({ frames := 0, cells := 0, slots := 0, locals := 0 } : Room) s m #[(.int p0), (.int p1)] below meth c s₁ [] 0 0 := Stand.of_body Bd
  have e0 : s₁.heap = h0 := by rw [← hh, Bd.state]; rfl
  have N0 := Fr.nil n0
  refine own_go (B := s₁.setTop (mkF m 0 (LS_II p0 p1) [])) (fun t k => castTop (ef_max m p0 p1) k) ?_
  refine own_go (B := s₁.setTop (mkF m 2 (LS_II p0 p1) [(.int p1), (.int p0)])) (fun t k => ?_) ?_
  · show Steps p.tables e below (s₁.setTop (mkF m 0 (LS_II p0 p1) [])) _
    refine XS.iloadN X0.here hx rfl (hb hby d9_0) rfl ?_
    show Steps p.tables e below (s₁.setTop (mkF m 1 (LS_II p0 p1) [(.int p0)])) _
    refine XS.iloadN X0.here hx rfl (hb hby d9_1) rfl ?_
    exact k
  by_cases hc2_1 : p0 < p1
  · refine own_go (B := s₁.setTop (mkF m 10 (LS_II p0 p1) [(.int p1)])) (fun t k => ?_) ?_
    · show Steps p.tables e below (s₁.setTop (mkF m 2 (LS_II p0 p1) [(.int p1), (.int p0)])) _
      refine XS.icmpYes X0.here hx rfl (pc0 := 2) (pc' := 9) rfl (hb hby d9_2) rfl (tlt hc2_1).1 (by decide) (by decide) ?_
      show Steps p.tables e below (s₁.setTop (mkF m 9 (LS_II p0 p1) [])) _
      refine XS.iloadN X0.here hx rfl (hb hby d9_9) rfl ?_
      exact k
    obtain ⟨fs, hr, hrun, hended, hW, hsame⟩ := X0.leave (v := some (.int p1)) (fun h => by rw [Bd.returns] at h; cases h) (BodyLoose.notSynchronized Bd)
    refine ⟨_, _, ?_, hrun, hended, _, _, rfl, ?_, ⟨_, rfl⟩, hW, hsame.mono (by decide) (by decide)⟩
    · show Steps p.tables e below (s₁.setTop (mkF m 10 (LS_II p0 p1) [(.int p1)])) _
      exact retOut X0 hx Bd.returns rfl (Or.inl ⟨rfl, Or.inl rfl, _, rfl⟩) (hb hby d9_10) hr
    · show Qmax Z p0 p1 h0 n0 _ s₁.heap _
      rw [e0]
      exact ⟨by rw [if_pos hc2_1], N0, rfl⟩
  · refine own_go (B := s₁.setTop (mkF m 10 (LS_II p0 p1) [(.int p0)])) (fun t k => ?_) ?_
    · show Steps p.tables e below (s₁.setTop (mkF m 2 (LS_II p0 p1) [(.int p1), (.int p0)])) _
      refine XS.icmpNo X0.here hx rfl (hb hby d9_2) rfl (flt hc2_1).1 ?_
      show Steps p.tables e below (s₁.setTop (mkF m 5 (LS_II p0 p1) [])) _
      refine XS.iloadN X0.here hx rfl (hb hby d9_5) rfl ?_
      show Steps p.tables e below (s₁.setTop (mkF m 6 (LS_II p0 p1) [(.int p0)])) _
      refine XS.goto X0.here hx rfl (pc0 := 6) (pc' := 10) rfl (hb hby d9_6) (by decide) (by decide) ?_
      exact k
    obtain ⟨fs, hr, hrun, hended, hW, hsame⟩ := X0.leave (v := some (.int p0)) (fun h => by rw [Bd.returns] at h; cases h) (BodyLoose.notSynchronized Bd)
    refine ⟨_, _, ?_, hrun, hended, _, _, rfl, ?_, ⟨_, rfl⟩, hW, hsame.mono (by decide) (by decide)⟩
    · show Steps p.tables e below (s₁.setTop (mkF m 10 (LS_II p0 p1) [(.int p0)])) _
      exact retOut X0 hx Bd.returns rfl (Or.inl ⟨rfl, Or.inl rfl, _, rfl⟩) (hb hby d9_10) hr
    · show Qmax Z p0 p1 h0 n0 _ s₁.heap _
      rw [e0]
      exact ⟨by rw [if_neg hc2_1], N0, rfl⟩
theorem ef_min (m : MethodId) (p0 : Int32) (p1 : Int32) : entryFrame m #[(.int p0), (.int p1)] 2 = mkF m 0 #[.val (.int p0), .val (.int p1)] [] := by first | (simp [entryFrame, mkF, argsToLocals, Value.category]; done) | rfl
theorem pn_8 : plainFor (⟨"java/lang/Math", "min", "(II)I"⟩ : MethodName) = true := by decide +kernel
theorem d8_0 : decode jdk_29_method_69_code 0 = .ok (.iload_n 0, 1) := by decide +kernel
theorem d8_1 : decode jdk_29_method_69_code 1 = .ok (.iload_n 1, 1) := by decide +kernel
theorem d8_2 : decode jdk_29_method_69_code 2 = .ok (.if_icmp .gt 7, 3) := by decide +kernel
theorem d8_9 : decode jdk_29_method_69_code 9 = .ok (.iload_n 1, 1) := by decide +kernel
theorem d8_10 : decode jdk_29_method_69_code 10 = .ok (.ireturn, 1) := by decide +kernel
theorem d8_5 : decode jdk_29_method_69_code 5 = .ok (.iload_n 0, 1) := by decide +kernel
theorem d8_6 : decode jdk_29_method_69_code 6 = .ok (.goto 4, 3) := by decide +kernel
def Qmin (Z : State) (p0 : Int32) (p1 : Int32) (h0 : Heap) (n0 : Nat) (v : Option Value) (h : Heap) (L : List Loc) : Prop := v = some (.int (if p1 < p0 then p1 else p0)) ∧ Fr n0 L ∧ h = h0
set_option maxRecDepth 65536 in
set_option maxHeartbeats 40000000 in
theorem rmmin (l : Launch) (Z : State) (a0 : Array Value) (hw : ∀ d ∈ tables_1, d.before a0 Z = true) (ws : List Jvm.Cond) (p0 : Int32) (p1 : Int32) (h0 : Heap) (n0 : Nat) (Z0 : n0 ≤ h0.size) :
    MetFree l (⟨"java/lang/Math", "min", "(II)I"⟩ : MethodName) (head1 (Jvm.Cond.code (⟨"java/lang/Math", "min", "(II)I"⟩ : MethodName) jdk_29_method_69_code 2 (some .int) :: ws) ({ frames := 0, cells := 0, slots := 0, locals := 0 } : Room)) (fun a U => a = #[(.int p0), (.int p1)] ∧ Z.Warmed39 U.vm ∧ U.heap = h0) (fun _ _ _ _ _ => True) (fun _ U o U' => ∃ v L, o = .returned v ∧ Qmin Z p0 p1 h0 n0 v U'.heap L ∧ FrameEnd U o U' L ({ frames := 0, cells := 0, slots := 0, locals := 0 } : Room).cells ({ frames := 0, cells := 0, slots := 0, locals := 0 } : Room).slots) := by
  refine MetFree.of_bodySF (Jvm.Free.JP.mathPlain rfl (by decide +kernel)) hisR ?_
  intro p e s m args below meth c s₁ Bd hml0 hP hK
  obtain ⟨rfl, hZ, hh⟩ := hP
  have hx := Bd.exec
  have hby := Bd.bytes
  have hml : c.maxLocals = 2 := hml0
  have hown : s.vm.findClass "java/lang/Math" = some m.cls := findClass_of_methodNamed Bd.named
  have hnm := (name_of_methodNamed Bd.named Bd.method).1
  have X0 : Stand p l e ({ frames := 0, cells := 0, slots := 0, locals := 0 } : Room) s m #[(.int p0), (.int p1)] below meth c s₁ [] 0 0 := Stand.of_body Bd
  have e0 : s₁.heap = h0 := by rw [← hh, Bd.state]; rfl
  have N0 := Fr.nil n0
  refine own_go (B := s₁.setTop (mkF m 0 (LS_II p0 p1) [])) (fun t k => castTop (ef_min m p0 p1) k) ?_
  refine own_go (B := s₁.setTop (mkF m 2 (LS_II p0 p1) [(.int p1), (.int p0)])) (fun t k => ?_) ?_
  · show Steps p.tables e below (s₁.setTop (mkF m 0 (LS_II p0 p1) [])) _
    refine XS.iloadN X0.here hx rfl (hb hby d8_0) rfl ?_
    show Steps p.tables e below (s₁.setTop (mkF m 1 (LS_II p0 p1) [(.int p0)])) _
    refine XS.iloadN X0.here hx rfl (hb hby d8_1) rfl ?_
    exact k
  by_cases hc2_1 : p1 < p0
  · refine own_go (B := s₁.setTop (mkF m 10 (LS_II p0 p1) [(.int p1)])) (fun t k => ?_) ?_
    · show Steps p.tables e below (s₁.setTop (mkF m 2 (LS_II p0 p1) [(.int p1), (.int p0)])) _
      refine XS.icmpYes X0.here hx rfl (pc0 := 2) (pc' := 9) rfl (hb hby d8_2) rfl (tlt hc2_1).2.2.1 (by decide) (by decide) ?_
      show Steps p.tables e below (s₁.setTop (mkF m 9 (LS_II p0 p1) [])) _
      refine XS.iloadN X0.here hx rfl (hb hby d8_9) rfl ?_
      exact k
    obtain ⟨fs, hr, hrun, hended, hW, hsame⟩ := X0.leave (v := some (.int p1)) (fun h => by rw [Bd.returns] at h; cases h) (BodyLoose.notSynchronized Bd)
    refine ⟨_, _, ?_, hrun, hended, _, _, rfl, ?_, ⟨_, rfl⟩, hW, hsame.mono (by decide) (by decide)⟩
    · show Steps p.tables e below (s₁.setTop (mkF m 10 (LS_II p0 p1) [(.int p1)])) _
      exact retOut X0 hx Bd.returns rfl (Or.inl ⟨rfl, Or.inl rfl, _, rfl⟩) (hb hby d8_10) hr
    · show Qmin Z p0 p1 h0 n0 _ s₁.heap _
      rw [e0]
      exact ⟨by rw [if_pos hc2_1], N0, rfl⟩
  · refine own_go (B := s₁.setTop (mkF m 10 (LS_II p0 p1) [(.int p0)])) (fun t k => ?_) ?_
    · show Steps p.tables e below (s₁.setTop (mkF m 2 (LS_II p0 p1) [(.int p1), (.int p0)])) _
      refine XS.icmpNo X0.here hx rfl (hb hby d8_2) rfl (flt hc2_1).2.2.1 ?_
      show Steps p.tables e below (s₁.setTop (mkF m 5 (LS_II p0 p1) [])) _
      refine XS.iloadN X0.here hx rfl (hb hby d8_5) rfl ?_
      show Steps p.tables e below (s₁.setTop (mkF m 6 (LS_II p0 p1) [(.int p0)])) _
      refine XS.goto X0.here hx rfl (pc0 := 6) (pc' := 10) rfl (hb hby d8_6) (by decide) (by decide) ?_
      exact k
    obtain ⟨fs, hr, hrun, hended, hW, hsame⟩ := X0.leave (v := some (.int p0)) (fun h => by rw [Bd.returns] at h; cases h) (BodyLoose.notSynchronized Bd)
    refine ⟨_, _, ?_, hrun, hended, _, _, rfl, ?_, ⟨_, rfl⟩, hW, hsame.mono (by decide) (by decide)⟩
    · show Steps p.tables e below (s₁.setTop (mkF m 10 (LS_II p0 p1) [(.int p0)])) _
      exact retOut X0 hx Bd.returns rfl (Or.inl ⟨rfl, Or.inl rfl, _, rfl⟩) (hb hby d8_10) hr
    · show Qmin Z p0 p1 h0 n0 _ s₁.heap _
      rw [e0]
      exact ⟨by rw [if_neg hc2_1], N0, rfl⟩
theorem ef_cpy (m : MethodId) (r0 : Addr) : entryFrame m #[(.ref r0), (.int (own_N nr))] 3 = mkF m 0 #[.val (.ref r0), .val (.int (own_N nr)), .unset] [] := by first | (simp [entryFrame, mkF, argsToLocals, Value.category]; done) | rfl
theorem pn_12 : plainName "java/util/Arrays" = true := by first | (simp [plainName, overriddenIn]; done) | decide +kernel
abbrev LS_RIu (a0 : Addr) (a1 : Int32) : Array Slot := #[.val (.ref a0), .val (.int a1), .unset]
theorem d12_0 : decode jdk_65_method_123_code 0 = .ok (.iload_n 1, 1) := by decide +kernel
theorem d12_1 : decode jdk_65_method_123_code 1 = .ok (.aload_n 0, 1) := by decide +kernel
theorem d12_2 : decode jdk_65_method_123_code 2 = .ok (.arraylength, 1) := by decide +kernel
theorem d12_3 : decode jdk_65_method_123_code 3 = .ok (.if_icmp .ne 11, 3) := by decide +kernel
theorem d12_14 : decode jdk_65_method_123_code 14 = .ok (.iload_n 1, 1) := by decide +kernel
theorem d12_15 : decode jdk_65_method_123_code 15 = .ok (.newarray .int, 2) := by decide +kernel
theorem d12_17 : decode jdk_65_method_123_code 17 = .ok (.astore_n 2, 1) := by decide +kernel
abbrev LS_RIR (a0 : Addr) (a1 : Int32) (a2 : Addr) : Array Slot := #[.val (.ref a0), .val (.int a1), .val (.ref a2)]
theorem d12_18 : decode jdk_65_method_123_code 18 = .ok (.aload_n 0, 1) := by decide +kernel
theorem d12_19 : decode jdk_65_method_123_code 19 = .ok (.iconst 0, 1) := by decide +kernel
theorem d12_20 : decode jdk_65_method_123_code 20 = .ok (.aload_n 2, 1) := by decide +kernel
theorem d12_21 : decode jdk_65_method_123_code 21 = .ok (.iconst 0, 1) := by decide +kernel
theorem d12_22 : decode jdk_65_method_123_code 22 = .ok (.aload_n 0, 1) := by decide +kernel
theorem d12_23 : decode jdk_65_method_123_code 23 = .ok (.arraylength, 1) := by decide +kernel
theorem d12_24 : decode jdk_65_method_123_code 24 = .ok (.iload_n 1, 1) := by decide +kernel
theorem d12_25 : decode jdk_65_method_123_code 25 = .ok (.invokestatic 304, 3) := by decide +kernel
theorem pd__II_I : parseMethodDescriptor "(II)I" = some ⟨[.int, .int], some .int⟩ := by decide +kernel
theorem d12_28 : decode jdk_65_method_123_code 28 = .ok (.invokestatic 150, 3) := by decide +kernel
theorem d12_31 : decode jdk_65_method_123_code 31 = .ok (.aload_n 2, 1) := by decide +kernel
theorem d12_32 : decode jdk_65_method_123_code 32 = .ok (.areturn, 1) := by decide +kernel
def Qcpy (Z : State) (r0 : Addr) (kr : ClassId) (fr : Nat → Int32) (mr nr : Nat) (h0 : Heap) (n0 : Nat) (v : Option Value) (h : Heap) (L : List Loc) : Prop := ∃ (r : Addr) (k : ClassId), v = some (.ref r) ∧ Fr n0 L ∧ Keep h0 h [] ∧ h0.size ≤ r ∧ Exa Z h r "[I" ∧ Arv Z h r k .int (own_N nr) (own_V (own_cp (fun _ => 0) fr 0 0 mr) nr) (.int (0 : Int32))
set_option maxRecDepth 65536 in
set_option maxHeartbeats 40000000 in
theorem rmcpy (l : Launch) (Z : State) (a0 : Array Value) (hw : ∀ d ∈ tables_1, d.before a0 Z = true) (ws : List Jvm.Cond) (r0 : Addr) (kr : ClassId) (fr : Nat → Int32) (mr nr : Nat) (h0 : Heap) (n0 : Nat) (Z0 : n0 ≤ h0.size) (Vr : Arv Z h0 r0 kr .int (own_N mr) (own_V fr mr) (.int (0 : Int32))) (hmn : mr < nr) (hnr : nr ≤ 32) :
    MetFree l (⟨"java/util/Arrays", "copyOf", "([II)[I"⟩ : MethodName) (head1 (Jvm.Cond.code (⟨"java/util/Arrays", "copyOf", "([II)[I"⟩ : MethodName) jdk_65_method_123_code 3 (some (.array .int)) :: ws) ({ frames := 1, cells := 1, slots := 32, locals := 40 } : Room)) (fun a U => a = #[(.ref r0), (.int (own_N nr))] ∧ Z.Warmed39 U.vm ∧ U.heap = h0) (fun _ _ _ _ _ => True) (fun _ U o U' => ∃ v L, o = .returned v ∧ Qcpy Z r0 kr fr mr nr h0 n0 v U'.heap L ∧ FrameEnd U o U' L ({ frames := 1, cells := 1, slots := 32, locals := 40 } : Room).cells ({ frames := 1, cells := 1, slots := 32, locals := 40 } : Room).slots) := by
  refine MetFree.of_bodySF (plainFor_of_name pn_12) hisR ?_
  intro p e s m args below meth c s₁ Bd hml0 hP hK
  obtain ⟨rfl, hZ, hh⟩ := hP
  have hx := Bd.exec
  have hby := Bd.bytes
  have hml : c.maxLocals = 3 := hml0
  have hown : s.vm.findClass "java/util/Arrays" = some m.cls := findClass_of_methodNamed Bd.named
  have hnm := (name_of_methodNamed Bd.named Bd.method).1
  have X0 : Stand p l e ({ frames := 1, cells := 1, slots := 32, locals := 40 } : Room) s m #[(.ref r0), (.int (own_N nr))] below meth c s₁ [] 0 0 := Stand.of_body Bd
  have e0 : s₁.heap = h0 := by rw [← hh, Bd.state]; rfl
  have N0 := Fr.nil n0
  refine own_go (B := s₁.setTop (mkF m 0 (LS_RIu r0 (own_N nr)) [])) (fun t k => castTop (ef_cpy m r0) k) ?_
  have K0 : Keep h0 h0 [] := Keep.refl _ _
  obtain ⟨cl1, Ar1, qa1, Sa1, Na1, Ha1, Ga1⟩ := id Vr
  refine own_go (B := s₁.setTop (mkF m 15 (LS_RIu r0 (own_N nr)) [(.int (own_N nr))])) (fun t k => ?_) ?_
  · show Steps p.tables e below (s₁.setTop (mkF m 0 (LS_RIu r0 (own_N nr)) [])) _
    refine XS.iloadN X0.here hx rfl (hb hby d12_0) rfl ?_
    show Steps p.tables e below (s₁.setTop (mkF m 1 (LS_RIu r0 (own_N nr)) [(.int (own_N nr))])) _
    refine XS.aloadN X0.here hx rfl (hb hby d12_1) rfl rfl ?_
    show Steps p.tables e below (s₁.setTop (mkF m 2 (LS_RIu r0 (own_N nr)) [(.ref r0), (.int (own_N nr))])) _
    refine X0.arraylength hx (by rw [e0]; exact Ar1.1) (State.isArrayOf_alike hZ.alike Ar1.2.1) (g := (mkF m 2 (LS_RIu r0 (own_N nr)) [(.ref r0), (.int (own_N nr))])) rfl rfl (hb hby d12_2) _ ?_
    rw [len_of Sa1 Na1]
    show Steps p.tables e below (s₁.setTop (mkF m 3 (LS_RIu r0 (own_N nr)) [(.int (own_N mr)), (.int (own_N nr))])) _
    refine XS.icmpYes X0.here hx rfl (pc0 := 3) (pc' := 14) rfl (hb hby d12_3) rfl (feq (fun q => by have := (own_Neq (by omega) (by omega)).mp q; omega)).2 (by decide) (by decide) ?_
    show Steps p.tables e below (s₁.setTop (mkF m 14 (LS_RIu r0 (own_N nr)) [])) _
    refine XS.iloadN X0.here hx rfl (hb hby d12_14) rfl ?_
    exact k
  obtain ⟨T2, h2, k2, X2, e2, E2, A2, Ex2, st2⟩ := newPE X0 hx hZ (hw _ (List.mem_of_getElem? (i := 5) rfl)) e0 (g := (mkF m 15 (LS_RIu r0 (own_N nr)) [(.int (own_N nr))])) rfl (hb hby d12_15) rfl (own_Nn (by omega)) (cap := 32) (by rw [own_Nc (by omega)]; exact hnr) (by decide) (by decide) (by decide) (ad := "[I") rfl
  obtain ⟨b2, g2⟩ : ∃ z, z = h0.size := ⟨_, rfl⟩
  rw [← g2] at A2 Ex2 st2
  have g_b2 : n0 ≤ b2 := Nat.le_trans Z0 (Nat.le_of_eq g2.symm)
  have sz_b2 : h0.size ≤ b2 := Nat.le_trans K0.1 (Nat.le_of_eq g2.symm)
  have V2 : Arv Z h2 b2 k2 .int (own_N nr) (own_V (fun _ => 0) nr) (.int (0 : Int32)) := own_newV (Arv.new A2 (own_Nn (by omega)))
  refine own_go (B := T2.setTop (mkF m 17 (LS_RIu r0 (own_N nr)) [(.ref b2)])) (fun t k => st2 _ k) ?_
  have Vr_v4 := Vr.ext E2
  obtain ⟨cl3, Ar3, qa3, Sa3, Na3, Ha3, Ga3⟩ := id Vr_v4
  refine own_go (B := T2.setTop (mkF m 25 (LS_RIR r0 (own_N nr) b2) [(.int (own_N nr)), (.int (own_N mr)), (.int (0 : Int32)), (.ref b2), (.int (0 : Int32)), (.ref r0)])) (fun t k => ?_) ?_
  · show Steps p.tables e below (T2.setTop (mkF m 17 (LS_RIu r0 (own_N nr)) [(.ref b2)])) _
    refine XS.astoreN X2.here hx rfl (hb hby d12_17) rfl rfl (l' := (LS_RIR r0 (own_N nr) b2)) rfl ?_
    show Steps p.tables e below (T2.setTop (mkF m 18 (LS_RIR r0 (own_N nr) b2) [])) _
    refine XS.aloadN X2.here hx rfl (hb hby d12_18) rfl rfl ?_
    show Steps p.tables e below (T2.setTop (mkF m 19 (LS_RIR r0 (own_N nr) b2) [(.ref r0)])) _
    refine XS.iconst X2.here hx rfl (hb hby d12_19) ?_
    show Steps p.tables e below (T2.setTop (mkF m 20 (LS_RIR r0 (own_N nr) b2) [(.int (0 : Int32)), (.ref r0)])) _
    refine XS.aloadN X2.here hx rfl (hb hby d12_20) rfl rfl ?_
    show Steps p.tables e below (T2.setTop (mkF m 21 (LS_RIR r0 (own_N nr) b2) [(.ref b2), (.int (0 : Int32)), (.ref r0)])) _
    refine XS.iconst X2.here hx rfl (hb hby d12_21) ?_
    show Steps p.tables e below (T2.setTop (mkF m 22 (LS_RIR r0 (own_N nr) b2) [(.int (0 : Int32)), (.ref b2), (.int (0 : Int32)), (.ref r0)])) _
    refine XS.aloadN X2.here hx rfl (hb hby d12_22) rfl rfl ?_
    show Steps p.tables e below (T2.setTop (mkF m 23 (LS_RIR r0 (own_N nr) b2) [(.ref r0), (.int (0 : Int32)), (.ref b2), (.int (0 : Int32)), (.ref r0)])) _
    refine X2.arraylength hx (by rw [e2]; exact Ar3.1) (State.isArrayOf_alike hZ.alike Ar3.2.1) (g := (mkF m 23 (LS_RIR r0 (own_N nr) b2) [(.ref r0), (.int (0 : Int32)), (.ref b2), (.int (0 : Int32)), (.ref r0)])) rfl rfl (hb hby d12_23) _ ?_
    rw [len_of Sa3 Na3]
    show Steps p.tables e below (T2.setTop (mkF m 24 (LS_RIR r0 (own_N nr) b2) [(.int (own_N mr)), (.int (0 : Int32)), (.ref b2), (.int (0 : Int32)), (.ref r0)])) _
    refine XS.iloadN X2.here hx rfl (hb hby d12_24) rfl ?_
    exact k
  have Z0_v5 := Nat.le_trans Z0 E2.1
  obtain ⟨_, _, ⟨T6, L6, k6, n6⟩, -, X6, ⟨Lc6, hQ6, l6, y6, z6⟩, st6⟩ := Jvm.LawKit.callS X2 hx (y := (⟨"java/lang/Math", "min", "(II)I"⟩ : MethodName)) hown (mvT hZ (hw _ (List.mem_of_getElem? (i := 77) rfl))) (mvT hZ (hw _ (List.mem_of_getElem? (i := 51) rfl))) (mvT hZ (hw _ (List.mem_of_getElem? (i := 52) rfl))) (mvT hZ (hw _ (List.mem_of_getElem? (i := 53) rfl))) (by decide) (backOf (W := 4) (rmmin l Z a0 hw [] (own_N mr) (own_N nr) h2 n0 Z0_v5) hZ (hw _ (List.mem_of_getElem? (i := 53) rfl)) (hw _ (List.mem_of_getElem? (i := 52) rfl)) (by decide) (by decide)) (g := (mkF m 25 (LS_RIR r0 (own_N nr) b2) [(.int (own_N nr)), (.int (own_N mr)), (.int (0 : Int32)), (.ref b2), (.int (0 : Int32)), (.ref r0)])) rfl (by rw [hml]; rfl) (argsL := [(.int (own_N mr)), (.int (own_N nr))]) (rest := [(.int (0 : Int32)), (.ref b2), (.int (0 : Int32)), (.ref r0)]) (lenOf pd__II_I rfl) rfl (by show 2 * 0 + _ ≤ _; exact Nat.le_of_eq rfl) (hb hby d12_25) (fun _ _ => ⟨rfl, e2, (by decide : 1 + 0 ≤ _), (by decide : 32 + 0 ≤ _)⟩)
  dsimp only [Pt.U, Pt.locs, Pt.cells, Pt.slots] at X6 l6 y6 z6 st6 hQ6
  subst l6 y6 z6
  obtain ⟨rfl, N6q, e6⟩ := hQ6
  have N6 := Fr.app N0 N6q
  refine own_go (B := T6.setTop (mkF m 28 (LS_RIR r0 (own_N nr) b2) [(.int (if (own_N nr) < (own_N mr) then (own_N nr) else (own_N mr))), (.int (0 : Int32)), (.ref b2), (.int (0 : Int32)), (.ref r0)])) (fun t k => st6 _ k) ?_
  refine own_go (B := T6.setTop (mkF m 28 (LS_RIR r0 (own_N nr) b2) [(.int (own_N mr)), (.int (0 : Int32)), (.ref b2), (.int (0 : Int32)), (.ref r0)])) (fun t k => ?_) ?_
  · change Steps p.tables e below (T6.setTop (mkF m 28 (LS_RIR r0 (own_N nr) b2) [(.int (if (own_N nr) < (own_N mr) then (own_N nr) else (own_N mr))), (.int (0 : Int32)), (.ref b2), (.int (0 : Int32)), (.ref r0)])) _
    rw [show (if (own_N nr) < (own_N mr) then (own_N nr) else (own_N mr)) = (own_N mr) from (own_Nmin (by omega) (by omega)).trans (by rw [Nat.min_eq_left (by omega)])]
    exact k
  obtain ⟨T7, h7, L7, X7, e7, N7, K7, V7, st7⟩ := own_cpA (sp := 0) (dp := 0) (nn := mr) X6 hx hZ hown (hw _ (List.mem_of_getElem? (i := 78) rfl)) (hw _ (List.mem_of_getElem? (i := 62) rfl)) (hw _ (List.mem_of_getElem? (i := 60) rfl)) (hw _ (List.mem_of_getElem? (i := 61) rfl)) e6 Vr_v4 V2 (by omega) (by omega) (by omega) (by omega) N6 g_b2 (g := (mkF m 28 (LS_RIR r0 (own_N nr) b2) [(.int (own_N mr)), (.int (0 : Int32)), (.ref b2), (.int (0 : Int32)), (.ref r0)])) rfl (by rw [hml]; rfl) rfl (hb hby d12_28) (by decide) (W := 0) (by show 2 * 0 + _ ≤ _; exact Nat.le_of_eq rfl) (by decide)
  refine own_go (B := T7.setTop (mkF m 31 (LS_RIR r0 (own_N nr) b2) [])) (fun t k => st7 _ k) ?_
  refine own_go (B := T7.setTop (mkF m 32 (LS_RIR r0 (own_N nr) b2) [(.ref b2)])) (fun t k => ?_) ?_
  · show Steps p.tables e below (T7.setTop (mkF m 31 (LS_RIR r0 (own_N nr) b2) [])) _
    refine XS.aloadN X7.here hx rfl (hb hby d12_31) rfl rfl ?_
    exact k
  obtain ⟨fs, hr, hrun, hended, hW, hsame⟩ := X7.leave (v := some (.ref b2)) (fun h => by rw [Bd.returns] at h; cases h) (BodyLoose.notSynchronized Bd)
  refine ⟨_, _, ?_, hrun, hended, _, _, rfl, ?_, ⟨_, rfl⟩, hW, hsame.mono (by decide) (by decide)⟩
  · show Steps p.tables e below (T7.setTop (mkF m 32 (LS_RIR r0 (own_N nr) b2) [(.ref b2)])) _
    exact retOut X7 hx Bd.returns rfl (Or.inr (Or.inr (Or.inr (Or.inr ⟨rfl, rfl, rfl⟩)))) (hb hby d12_32) hr
  · show Qcpy Z r0 kr fr mr nr h0 n0 _ T7.heap _
    rw [e7]
    have K0_v8 := K0.ext E2
    have K0_v9 := K0_v8.trans K7 (allS (Or.inr sz_b2) all0)
    have Ex2_v10 := Ex2.keep K7
    exact ⟨b2, k2, rfl, N7, K0_v9, sz_b2, Ex2_v10, V7⟩
theorem ef_ini (m : MethodId) (r0 : Addr) : entryFrame m #[(.ref r0)] 1 = mkF m 0 #[.val (.ref r0)] [] := by first | (simp [entryFrame, mkF, argsToLocals, Value.category]; done) | rfl
theorem pn_5 : plainName "com/example/terms_to_scores/termstoscores/index/Postings" = true := by first | (simp [plainName, overriddenIn]; done) | decide +kernel
abbrev LS_R (a0 : Addr) : Array Slot := #[.val (.ref a0)]
theorem d5_0 : decode prog_33_method_1_code 0 = .ok (.aload_n 0, 1) := by decide +kernel
theorem d5_1 : decode prog_33_method_1_code 1 = .ok (.invokespecial 3, 3) := by decide +kernel
theorem d5_4 : decode prog_33_method_1_code 4 = .ok (.aload_n 0, 1) := by decide +kernel
theorem d5_5 : decode prog_33_method_1_code 5 = .ok (.bipush 8, 2) := by decide +kernel
theorem d5_7 : decode prog_33_method_1_code 7 = .ok (.newarray .int, 2) := by decide +kernel
theorem d5_9 : decode prog_33_method_1_code 9 = .ok (.putfield 9, 3) := by decide +kernel
theorem d5_12 : decode prog_33_method_1_code 12 = .ok (.aload_n 0, 1) := by decide +kernel
theorem d5_13 : decode prog_33_method_1_code 13 = .ok (.iconst (-1), 1) := by decide +kernel
theorem d5_14 : decode prog_33_method_1_code 14 = .ok (.putfield 13, 3) := by decide +kernel
theorem d5_17 : decode prog_33_method_1_code 17 = .ok (.aload_n 0, 1) := by decide +kernel
theorem d5_18 : decode prog_33_method_1_code 18 = .ok (.sipush 255, 3) := by decide +kernel
theorem d5_21 : decode prog_33_method_1_code 21 = .ok (.putfield 17, 3) := by decide +kernel
theorem d5_24 : decode prog_33_method_1_code 24 = .ok (.aload_n 0, 1) := by decide +kernel
theorem d5_25 : decode prog_33_method_1_code 25 = .ok (.iconst 1, 1) := by decide +kernel
theorem d5_26 : decode prog_33_method_1_code 26 = .ok (.anewarray 20, 3) := by decide +kernel
theorem d5_29 : decode prog_33_method_1_code 29 = .ok (.putfield 21, 3) := by decide +kernel
theorem d5_32 : decode prog_33_method_1_code 32 = .ok (.aload_n 0, 1) := by decide +kernel
theorem d5_33 : decode prog_33_method_1_code 33 = .ok (.iconst 4, 1) := by decide +kernel
theorem d5_34 : decode prog_33_method_1_code 34 = .ok (.newarray .int, 2) := by decide +kernel
theorem d5_36 : decode prog_33_method_1_code 36 = .ok (.putfield 25, 3) := by decide +kernel
theorem d5_39 : decode prog_33_method_1_code 39 = .ok (.aload_n 0, 1) := by decide +kernel
theorem d5_40 : decode prog_33_method_1_code 40 = .ok (.getfield 21, 3) := by decide +kernel
theorem d5_43 : decode prog_33_method_1_code 43 = .ok (.iconst 0, 1) := by decide +kernel
theorem d5_44 : decode prog_33_method_1_code 44 = .ok (.aload_n 0, 1) := by decide +kernel
theorem d5_45 : decode prog_33_method_1_code 45 = .ok (.getfield 25, 3) := by decide +kernel
theorem d5_48 : decode prog_33_method_1_code 48 = .ok (.aastore, 1) := by decide +kernel
theorem d5_49 : decode prog_33_method_1_code 49 = .ok (.return_, 1) := by decide +kernel
def Qini (Z : State) (r0 : Addr) (h0 : Heap) (n0 : Nat) (v : Option Value) (h : Heap) (L : List Loc) : Prop := ∃ (e q pg : Addr) (ke kq kg : ClassId), v = none ∧ Fr n0 L ∧ Keep h0 h [r0] ∧ h0.size ≤ e ∧ h0.size ≤ q ∧ h0.size ≤ pg ∧ Fld Z h r0 "com/example/terms_to_scores/termstoscores/index/Postings" "entries" "[I" (.ref e) ∧ Fld Z h r0 "com/example/terms_to_scores/termstoscores/index/Postings" "size" "I" (.int (own_N 0)) ∧ Fld Z h r0 "com/example/terms_to_scores/termstoscores/index/Postings" "lastDoc" "I" (.int (-1 : Int32)) ∧ Fld Z h r0 "com/example/terms_to_scores/termstoscores/index/Postings" "lastFreq" "I" (.int (0 : Int32)) ∧ Fld Z h r0 "com/example/terms_to_scores/termstoscores/index/Postings" "maxFreq" "I" (.int (0 : Int32)) ∧ Fld Z h r0 "com/example/terms_to_scores/termstoscores/index/Postings" "shortestLength" "I" (.int (255 : Int32)) ∧ Fld Z h r0 "com/example/terms_to_scores/termstoscores/index/Postings" "positionCount" "I" (.int (own_N 0)) ∧ Fld Z h r0 "com/example/terms_to_scores/termstoscores/index/Postings" "pages" "[[I" (.ref pg) ∧ Fld Z h r0 "com/example/terms_to_scores/termstoscores/index/Postings" "page" "[I" (.ref q) ∧ Arv Z h e ke .int (own_N 8) (own_V (fun _ => 0) 8) (.int (0 : Int32)) ∧ Arv Z h q kq .int (own_N 4) (own_V (fun _ => 0) 4) (.int (0 : Int32)) ∧ Exa Z h q "[I" ∧ Arv Z h pg kg (.array .int) (1 : Int32) [.ref q] .null ∧ OvrA Z kg .int "[I" ∧ e ≠ q
set_option maxRecDepth 65536 in
set_option maxHeartbeats 40000000 in
theorem rmini (l : Launch) (Z : State) (a0 : Array Value) (hw : ∀ d ∈ tables_1, d.before a0 Z = true) (ws : List Jvm.Cond) (r0 : Addr) (h0 : Heap) (n0 : Nat) (Z0 : n0 ≤ h0.size) (E0 : Exa Z h0 r0 "com/example/terms_to_scores/termstoscores/index/Postings") (F0 : Fld Z h0 r0 "com/example/terms_to_scores/termstoscores/index/Postings" "entries" "[I" .null) (F1 : Fld Z h0 r0 "com/example/terms_to_scores/termstoscores/index/Postings" "size" "I" (.int (0 : Int32))) (F2 : Fld Z h0 r0 "com/example/terms_to_scores/termstoscores/index/Postings" "lastDoc" "I" (.int (0 : Int32))) (F3 : Fld Z h0 r0 "com/example/terms_to_scores/termstoscores/index/Postings" "lastFreq" "I" (.int (0 : Int32))) (F4 : Fld Z h0 r0 "com/example/terms_to_scores/termstoscores/index/Postings" "maxFreq" "I" (.int (0 : Int32))) (F5 : Fld Z h0 r0 "com/example/terms_to_scores/termstoscores/index/Postings" "shortestLength" "I" (.int (0 : Int32))) (F6 : Fld Z h0 r0 "com/example/terms_to_scores/termstoscores/index/Postings" "positionCount" "I" (.int (0 : Int32))) (F7 : Fld Z h0 r0 "com/example/terms_to_scores/termstoscores/index/Postings" "pages" "[[I" .null) (F8 : Fld Z h0 r0 "com/example/terms_to_scores/termstoscores/index/Postings" "page" "[I" .null) (g_r0 : n0 ≤ r0) :
    MetFree l (⟨"com/example/terms_to_scores/termstoscores/index/Postings", "<init>", "()V"⟩ : MethodName) (head1 (Jvm.Cond.code (⟨"com/example/terms_to_scores/termstoscores/index/Postings", "<init>", "()V"⟩ : MethodName) prog_33_method_1_code 1 none :: ws) ({ frames := 1, cells := 3, slots := 13, locals := 24 } : Room)) (fun a U => a = #[(.ref r0)] ∧ Z.Warmed39 U.vm ∧ U.heap = h0) (fun _ _ _ _ _ => True) (fun _ U o U' => ∃ v L, o = .returned v ∧ Qini Z r0 h0 n0 v U'.heap L ∧ FrameEnd U o U' L ({ frames := 1, cells := 3, slots := 13, locals := 24 } : Room).cells ({ frames := 1, cells := 3, slots := 13, locals := 24 } : Room).slots) := by
  refine MetFree.of_bodySF (plainFor_of_name pn_5) hisR ?_
  intro p e s m args below meth c s₁ Bd hml0 hP hK
  obtain ⟨rfl, hZ, hh⟩ := hP
  have hx := Bd.exec
  have hby := Bd.bytes
  have hml : c.maxLocals = 1 := hml0
  have hown : s.vm.findClass "com/example/terms_to_scores/termstoscores/index/Postings" = some m.cls := findClass_of_methodNamed Bd.named
  have hnm := (name_of_methodNamed Bd.named Bd.method).1
  have X0 : Stand p l e ({ frames := 1, cells := 3, slots := 13, locals := 24 } : Room) s m #[(.ref r0)] below meth c s₁ [] 0 0 := Stand.of_body Bd
  have e0 : s₁.heap = h0 := by rw [← hh, Bd.state]; rfl
  have N0 := Fr.nil n0
  refine own_go (B := s₁.setTop (mkF m 0 (LS_R r0) [])) (fun t k => castTop (ef_ini m r0) k) ?_
  have K0 : Keep h0 h0 [r0] := Keep.refl _ _
  refine own_go (B := s₁.setTop (mkF m 1 (LS_R r0) [(.ref r0)])) (fun t k => ?_) ?_
  · show Steps p.tables e below (s₁.setTop (mkF m 0 (LS_R r0) [])) _
    refine XS.aloadN X0.here hx rfl (hb hby d5_0) rfl rfl ?_
    exact k
  obtain ⟨T1, X1, e1, st1⟩ := initO X0 hx hZ hown (hw _ (List.mem_of_getElem? (i := 22) rfl)) (hw _ (List.mem_of_getElem? (i := 23) rfl)) (hw _ (List.mem_of_getElem? (i := 24) rfl)) e0 (g := (mkF m 1 (LS_R r0) [(.ref r0)])) rfl (by rw [hml]; rfl) rfl (hb hby d5_1) (by decide) (W := 0) (by show 2 * 0 + _ ≤ _; exact Nat.le_of_eq rfl) (by decide)
  refine own_go (B := T1.setTop (mkF m 4 (LS_R r0) [])) (fun t k => st1 _ k) ?_
  refine own_go (B := T1.setTop (mkF m 7 (LS_R r0) [(.int (8 : Int32)), (.ref r0)])) (fun t k => ?_) ?_
  · show Steps p.tables e below (T1.setTop (mkF m 4 (LS_R r0) [])) _
    refine XS.aloadN X1.here hx rfl (hb hby d5_4) rfl rfl ?_
    show Steps p.tables e below (T1.setTop (mkF m 5 (LS_R r0) [(.ref r0)])) _
    refine XS.bipush X1.here hx rfl (hb hby d5_5) ?_
    exact k
  obtain ⟨T2, h2, k2, X2, e2, E2, A2, Ex2, st2⟩ := newPE X1 hx hZ (hw _ (List.mem_of_getElem? (i := 5) rfl)) e1 (g := (mkF m 7 (LS_R r0) [(.int (8 : Int32)), (.ref r0)])) rfl (hb hby d5_7) rfl (by decide) (cap := 8) (by decide) (by decide) (by decide) (by decide) (ad := "[I") rfl
  obtain ⟨b2, g2⟩ : ∃ z, z = h0.size := ⟨_, rfl⟩
  rw [← g2] at A2 Ex2 st2
  have g_b2 : n0 ≤ b2 := Nat.le_trans Z0 (Nat.le_of_eq g2.symm)
  have sz_b2 : h0.size ≤ b2 := Nat.le_trans K0.1 (Nat.le_of_eq g2.symm)
  have V2 : Arv Z h2 b2 k2 .int (own_N 8) (own_V (fun _ => 0) 8) (.int (0 : Int32)) := own_newV (Arv.new A2 (by decide))
  refine own_go (B := T2.setTop (mkF m 9 (LS_R r0) [(.ref b2), (.ref r0)])) (fun t k => st2 _ k) ?_
  have E0_v3 := E0.ext E2
  have F0_v4 := F0.ext E2
  obtain ⟨T5, h5, X5, e5, W5, st5⟩ := putF X2 hx hZ hown (host := "") (Or.inl (hw _ (List.mem_of_getElem? (i := 25) rfl))) Via.refl e2 F0_v4 E0_v3 (Or.inl (hw _ (List.mem_of_getElem? (i := 26) rfl))) (hw _ (List.mem_of_getElem? (i := 17) rfl)) (ty := (.array .int)) (by decide) rfl rfl (g := (mkF m 9 (LS_R r0) [(.ref b2), (.ref r0)])) rfl rfl (hb hby d5_9)
  have N5 := Fr.snoc X5 N0 g_r0
  have Fw5 := F0_v4.same W5
  refine own_go (B := T5.setTop (mkF m 12 (LS_R r0) [])) (fun t k => st5 _ k) ?_
  refine own_go (B := T5.setTop (mkF m 14 (LS_R r0) [(.int (-1 : Int32)), (.ref r0)])) (fun t k => ?_) ?_
  · show Steps p.tables e below (T5.setTop (mkF m 12 (LS_R r0) [])) _
    refine XS.aloadN X5.here hx rfl (hb hby d5_12) rfl rfl ?_
    show Steps p.tables e below (T5.setTop (mkF m 13 (LS_R r0) [(.ref r0)])) _
    refine XS.iconst X5.here hx rfl (hb hby d5_13) ?_
    exact k
  have E0_v6 := E0_v3.wr W5
  have F2_v7 := F2.ext E2
  have F2_v8 := F2_v7.other W5 (Or.inr (slot_ne (Or.inl (hw _ (List.mem_of_getElem? (i := 28) rfl))) (Or.inl (hw _ (List.mem_of_getElem? (i := 26) rfl))) (by decide) (t := .int) (t' := (.array .int)) (by decide) (by decide)))
  obtain ⟨T9, h9, X9, e9, W9, st9⟩ := putF X5 hx hZ hown (host := "") (Or.inl (hw _ (List.mem_of_getElem? (i := 27) rfl))) Via.refl e5 F2_v8 E0_v6 (Or.inl (hw _ (List.mem_of_getElem? (i := 28) rfl))) (hw _ (List.mem_of_getElem? (i := 17) rfl)) (ty := .int) (by decide) rfl rfl (g := (mkF m 14 (LS_R r0) [(.int (-1 : Int32)), (.ref r0)])) rfl rfl (hb hby d5_14)
  have N9 := Fr.snoc X9 N5 g_r0
  have Fw9 := F2_v8.same W9
  refine own_go (B := T9.setTop (mkF m 17 (LS_R r0) [])) (fun t k => st9 _ k) ?_
  refine own_go (B := T9.setTop (mkF m 21 (LS_R r0) [(.int (255 : Int32)), (.ref r0)])) (fun t k => ?_) ?_
  · show Steps p.tables e below (T9.setTop (mkF m 17 (LS_R r0) [])) _
    refine XS.aloadN X9.here hx rfl (hb hby d5_17) rfl rfl ?_
    show Steps p.tables e below (T9.setTop (mkF m 18 (LS_R r0) [(.ref r0)])) _
    refine XS.sipush X9.here hx rfl (hb hby d5_18) ?_
    exact k
  have E0_v10 := E0_v6.wr W9
  have F5_v11 := F5.ext E2
  have F5_v12 := F5_v11.other W5 (Or.inr (slot_ne (Or.inl (hw _ (List.mem_of_getElem? (i := 30) rfl))) (Or.inl (hw _ (List.mem_of_getElem? (i := 26) rfl))) (by decide) (t := .int) (t' := (.array .int)) (by decide) (by decide)))
  have F5_v13 := F5_v12.other W9 (Or.inr (slot_ne (Or.inl (hw _ (List.mem_of_getElem? (i := 30) rfl))) (Or.inl (hw _ (List.mem_of_getElem? (i := 28) rfl))) (by decide) (t := .int) (t' := .int) (by decide) (by decide)))
  obtain ⟨T14, h14, X14, e14, W14, st14⟩ := putF X9 hx hZ hown (host := "") (Or.inl (hw _ (List.mem_of_getElem? (i := 29) rfl))) Via.refl e9 F5_v13 E0_v10 (Or.inl (hw _ (List.mem_of_getElem? (i := 30) rfl))) (hw _ (List.mem_of_getElem? (i := 17) rfl)) (ty := .int) (by decide) rfl rfl (g := (mkF m 21 (LS_R r0) [(.int (255 : Int32)), (.ref r0)])) rfl rfl (hb hby d5_21)
  have N14 := Fr.snoc X14 N9 g_r0
  have Fw14 := F5_v13.same W14
  refine own_go (B := T14.setTop (mkF m 24 (LS_R r0) [])) (fun t k => st14 _ k) ?_
  refine own_go (B := T14.setTop (mkF m 26 (LS_R r0) [(.int (1 : Int32)), (.ref r0)])) (fun t k => ?_) ?_
  · show Steps p.tables e below (T14.setTop (mkF m 24 (LS_R r0) [])) _
    refine XS.aloadN X14.here hx rfl (hb hby d5_24) rfl rfl ?_
    show Steps p.tables e below (T14.setTop (mkF m 25 (LS_R r0) [(.ref r0)])) _
    refine XS.iconst X14.here hx rfl (hb hby d5_25) ?_
    exact k
  obtain ⟨T15, h15, k15, X15, e15, E15, A15, Ex15, O15, st15⟩ := newRA X14 hx hZ (ty := .int) hown (C := "[I") rfl (hw _ (List.mem_of_getElem? (i := 31) rfl)) (hw _ (List.mem_of_getElem? (i := 32) rfl)) e14 (g := (mkF m 26 (LS_R r0) [(.int (1 : Int32)), (.ref r0)])) rfl (hb hby d5_26) rfl (by decide) (cap := 1) (by decide) (by decide) (by decide) (by decide) (ad := "[[I") rfl
  obtain ⟨b15, g15⟩ : ∃ z, z = h14.size := ⟨_, rfl⟩
  rw [← g15] at A15 Ex15 st15
  have Z0_v16 := Nat.le_trans Z0 E2.1
  have Z0_v17 := Nat.le_trans Z0_v16 (Nat.le_of_eq W5.size.symm)
  have Z0_v18 := Nat.le_trans Z0_v17 (Nat.le_of_eq W9.size.symm)
  have Z0_v19 := Nat.le_trans Z0_v18 (Nat.le_of_eq W14.size.symm)
  have g_b15 : n0 ≤ b15 := Nat.le_trans Z0_v19 (Nat.le_of_eq g15.symm)
  have K0_v20 := K0.ext E2
  have K0_v21 := K0_v20.wr W5 (Or.inl (List.mem_of_getElem? (i := 0) rfl))
  have K0_v22 := K0_v21.wr W9 (Or.inl (List.mem_of_getElem? (i := 0) rfl))
  have K0_v23 := K0_v22.wr W14 (Or.inl (List.mem_of_getElem? (i := 0) rfl))
  have sz_b15 : h0.size ≤ b15 := Nat.le_trans K0_v23.1 (Nat.le_of_eq g15.symm)
  have V15 : Arv Z h15 b15 k15 (.array .int) (1 : Int32) [.null] .null := (Arv.new A15 (by decide)).pad (pad_rep [] .null 1)
  refine own_go (B := T15.setTop (mkF m 29 (LS_R r0) [(.ref b15), (.ref r0)])) (fun t k => st15 _ k) ?_
  have E0_v24 := E0_v10.wr W14
  have E0_v25 := E0_v24.ext E15
  have F7_v26 := F7.ext E2
  have F7_v27 := F7_v26.other W5 (Or.inr (slot_ne (Or.inl (hw _ (List.mem_of_getElem? (i := 34) rfl))) (Or.inl (hw _ (List.mem_of_getElem? (i := 26) rfl))) (by decide) (t := (.array (.array .int))) (t' := (.array .int)) (by decide) (by decide)))
  have F7_v28 := F7_v27.other W9 (Or.inr (slot_ne (Or.inl (hw _ (List.mem_of_getElem? (i := 34) rfl))) (Or.inl (hw _ (List.mem_of_getElem? (i := 28) rfl))) (by decide) (t := (.array (.array .int))) (t' := .int) (by decide) (by decide)))
  have F7_v29 := F7_v28.other W14 (Or.inr (slot_ne (Or.inl (hw _ (List.mem_of_getElem? (i := 34) rfl))) (Or.inl (hw _ (List.mem_of_getElem? (i := 30) rfl))) (by decide) (t := (.array (.array .int))) (t' := .int) (by decide) (by decide)))
  have F7_v30 := F7_v29.ext E15
  obtain ⟨T31, h31, X31, e31, W31, st31⟩ := putF X15 hx hZ hown (host := "") (Or.inl (hw _ (List.mem_of_getElem? (i := 33) rfl))) Via.refl e15 F7_v30 E0_v25 (Or.inl (hw _ (List.mem_of_getElem? (i := 34) rfl))) (hw _ (List.mem_of_getElem? (i := 17) rfl)) (ty := (.array (.array .int))) (by decide) rfl rfl (g := (mkF m 29 (LS_R r0) [(.ref b15), (.ref r0)])) rfl rfl (hb hby d5_29)
  have N31 := Fr.snoc X31 N14 g_r0
  have Fw31 := F7_v30.same W31
  refine own_go (B := T31.setTop (mkF m 32 (LS_R r0) [])) (fun t k => st31 _ k) ?_
  refine own_go (B := T31.setTop (mkF m 34 (LS_R r0) [(.int (4 : Int32)), (.ref r0)])) (fun t k => ?_) ?_
  · show Steps p.tables e below (T31.setTop (mkF m 32 (LS_R r0) [])) _
    refine XS.aloadN X31.here hx rfl (hb hby d5_32) rfl rfl ?_
    show Steps p.tables e below (T31.setTop (mkF m 33 (LS_R r0) [(.ref r0)])) _
    refine XS.iconst X31.here hx rfl (hb hby d5_33) ?_
    exact k
  obtain ⟨T32, h32, k32, X32, e32, E32, A32, Ex32, st32⟩ := newPE X31 hx hZ (hw _ (List.mem_of_getElem? (i := 5) rfl)) e31 (g := (mkF m 34 (LS_R r0) [(.int (4 : Int32)), (.ref r0)])) rfl (hb hby d5_34) rfl (by decide) (cap := 4) (by decide) (by decide) (by decide) (by decide) (ad := "[I") rfl
  obtain ⟨b32, g32⟩ : ∃ z, z = h31.size := ⟨_, rfl⟩
  rw [← g32] at A32 Ex32 st32
  have Z0_v33 := Nat.le_trans Z0_v19 E15.1
  have Z0_v34 := Nat.le_trans Z0_v33 (Nat.le_of_eq W31.size.symm)
  have g_b32 : n0 ≤ b32 := Nat.le_trans Z0_v34 (Nat.le_of_eq g32.symm)
  have K0_v35 := K0_v23.ext E15
  have K0_v36 := K0_v35.wr W31 (Or.inl (List.mem_of_getElem? (i := 0) rfl))
  have sz_b32 : h0.size ≤ b32 := Nat.le_trans K0_v36.1 (Nat.le_of_eq g32.symm)
  have V32 : Arv Z h32 b32 k32 .int (own_N 4) (own_V (fun _ => 0) 4) (.int (0 : Int32)) := own_newV (Arv.new A32 (by decide))
  refine own_go (B := T32.setTop (mkF m 36 (LS_R r0) [(.ref b32), (.ref r0)])) (fun t k => st32 _ k) ?_
  have E0_v37 := E0_v25.wr W31
  have E0_v38 := E0_v37.ext E32
  have F8_v39 := F8.ext E2
  have F8_v40 := F8_v39.other W5 (Or.inr (slot_ne (Or.inl (hw _ (List.mem_of_getElem? (i := 36) rfl))) (Or.inl (hw _ (List.mem_of_getElem? (i := 26) rfl))) (by decide) (t := (.array .int)) (t' := (.array .int)) (by decide) (by decide)))
  have F8_v41 := F8_v40.other W9 (Or.inr (slot_ne (Or.inl (hw _ (List.mem_of_getElem? (i := 36) rfl))) (Or.inl (hw _ (List.mem_of_getElem? (i := 28) rfl))) (by decide) (t := (.array .int)) (t' := .int) (by decide) (by decide)))
  have F8_v42 := F8_v41.other W14 (Or.inr (slot_ne (Or.inl (hw _ (List.mem_of_getElem? (i := 36) rfl))) (Or.inl (hw _ (List.mem_of_getElem? (i := 30) rfl))) (by decide) (t := (.array .int)) (t' := .int) (by decide) (by decide)))
  have F8_v43 := F8_v42.ext E15
  have F8_v44 := F8_v43.other W31 (Or.inr (slot_ne (Or.inl (hw _ (List.mem_of_getElem? (i := 36) rfl))) (Or.inl (hw _ (List.mem_of_getElem? (i := 34) rfl))) (by decide) (t := (.array .int)) (t' := (.array (.array .int))) (by decide) (by decide)))
  have F8_v45 := F8_v44.ext E32
  obtain ⟨T46, h46, X46, e46, W46, st46⟩ := putF X32 hx hZ hown (host := "") (Or.inl (hw _ (List.mem_of_getElem? (i := 35) rfl))) Via.refl e32 F8_v45 E0_v38 (Or.inl (hw _ (List.mem_of_getElem? (i := 36) rfl))) (hw _ (List.mem_of_getElem? (i := 17) rfl)) (ty := (.array .int)) (by decide) rfl rfl (g := (mkF m 36 (LS_R r0) [(.ref b32), (.ref r0)])) rfl rfl (hb hby d5_36)
  have N46 := Fr.snoc X46 N31 g_r0
  have Fw46 := F8_v45.same W46
  refine own_go (B := T46.setTop (mkF m 39 (LS_R r0) [])) (fun t k => st46 _ k) ?_
  have Fw31_v47 := Fw31.ext E32
  have Fw31_v48 := Fw31_v47.other W46 (Or.inr (slot_ne (Or.inl (hw _ (List.mem_of_getElem? (i := 34) rfl))) (Or.inl (hw _ (List.mem_of_getElem? (i := 36) rfl))) (by decide) (t := (.array (.array .int))) (t' := (.array .int)) (by decide) (by decide)))
  refine own_go (B := T46.setTop (mkF m 40 (LS_R r0) [(.ref r0)])) (fun t k => ?_) ?_
  · show Steps p.tables e below (T46.setTop (mkF m 39 (LS_R r0) [])) _
    refine XS.aloadN X46.here hx rfl (hb hby d5_39) rfl rfl ?_
    exact k
  obtain ⟨T49, X49, e49, st49⟩ := getF X46 hx hZ hown (host := "") (Or.inl (hw _ (List.mem_of_getElem? (i := 33) rfl))) Via.refl e46 Fw31_v48 (g := (mkF m 40 (LS_R r0) [(.ref r0)])) rfl rfl (hb hby d5_40)
  refine own_go (B := T49.setTop (mkF m 43 (LS_R r0) [(.ref b15)])) (fun t k => st49 _ k) ?_
  refine own_go (B := T49.setTop (mkF m 45 (LS_R r0) [(.ref r0), (.int (0 : Int32)), (.ref b15)])) (fun t k => ?_) ?_
  · show Steps p.tables e below (T49.setTop (mkF m 43 (LS_R r0) [(.ref b15)])) _
    refine XS.iconst X49.here hx rfl (hb hby d5_43) ?_
    show Steps p.tables e below (T49.setTop (mkF m 44 (LS_R r0) [(.int (0 : Int32)), (.ref b15)])) _
    refine XS.aloadN X49.here hx rfl (hb hby d5_44) rfl rfl ?_
    exact k
  obtain ⟨T50, X50, e50, st50⟩ := getF X49 hx hZ hown (host := "") (Or.inl (hw _ (List.mem_of_getElem? (i := 35) rfl))) Via.refl e49 Fw46 (g := (mkF m 45 (LS_R r0) [(.ref r0), (.int (0 : Int32)), (.ref b15)])) rfl rfl (hb hby d5_45)
  refine own_go (B := T50.setTop (mkF m 48 (LS_R r0) [(.ref b32), (.int (0 : Int32)), (.ref b15)])) (fun t k => st50 _ k) ?_
  have ne53 : r0 ≠ b15 := Exa.neArv E0_v25 V15 (hw _ (List.mem_of_getElem? (i := 17) rfl))
  have V15_v52 := V15.other W31 (Ne.symm ne53)
  have V15_v54 := V15_v52.ext E32
  have V15_v55 := V15_v54.other W46 (Ne.symm ne53)
  obtain ⟨cl51, Ar51, qa51, Sa51, Na51, Ha51, Ga51⟩ := id V15_v55
  have hin56 : ¬ ((0 : Int32) < 0 ∨ cl51.slots.size ≤ ((0 : Int32)).toNatClampNeg) := inb_of Sa51 ⟨by decide, by decide⟩
  have Ex32_v57 := Ex32.wr W46
  obtain ⟨T56, h56, X56, e56, W56, st56⟩ := stR X50 hx hZ e50 Ar51 (j := (0 : Int32)) hin56 rfl (Sto.ofVA Ar51 qa51 O15 (Ins.self Ex32_v57)) (g := (mkF m 48 (LS_R r0) [(.ref b32), (.int (0 : Int32)), (.ref b15)])) rfl rfl (hb hby d5_48)
  have N56 := Fr.snoc X56 N46 g_b15
  have V56 : Arv Z h56 b15 k15 (.array .int) (1 : Int32) [(.ref b32)] .null := Arv.set Ar51 qa51 Sa51 Na51 Ha51 Ga51 rfl W56 0 rfl (Nat.le_of_ble_eq_true rfl)
  refine own_go (B := T56.setTop (mkF m 49 (LS_R r0) [])) (fun t k => st56 _ k) ?_
  obtain ⟨fs, hr, hrun, hended, hW, hsame⟩ := X56.leave (v := none) (fun _ => rfl) (BodyLoose.notSynchronized Bd)
  refine ⟨_, _, ?_, hrun, hended, _, _, rfl, ?_, ⟨_, rfl⟩, hW, hsame.mono (by decide) (by decide)⟩
  · show Steps p.tables e below (T56.setTop (mkF m 49 (LS_R r0) [])) _
    exact X56.returnOut hx Bd.returns (hb hby d5_49) hr
  · show Qini Z r0 h0 n0 _ T56.heap _
    rw [e56]
    have K0_v58 := K0_v36.ext E32
    have K0_v59 := K0_v58.wr W46 (Or.inl (List.mem_of_getElem? (i := 0) rfl))
    have K0_v60 := K0_v59.wr W56 (Or.inr sz_b15)
    have Fw5_v61 := Fw5.other W9 (Or.inr (slot_ne (Or.inl (hw _ (List.mem_of_getElem? (i := 26) rfl))) (Or.inl (hw _ (List.mem_of_getElem? (i := 28) rfl))) (by decide) (t := (.array .int)) (t' := .int) (by decide) (by decide)))
    have Fw5_v62 := Fw5_v61.other W14 (Or.inr (slot_ne (Or.inl (hw _ (List.mem_of_getElem? (i := 26) rfl))) (Or.inl (hw _ (List.mem_of_getElem? (i := 30) rfl))) (by decide) (t := (.array .int)) (t' := .int) (by decide) (by decide)))
    have Fw5_v63 := Fw5_v62.ext E15
    have Fw5_v64 := Fw5_v63.other W31 (Or.inr (slot_ne (Or.inl (hw _ (List.mem_of_getElem? (i := 26) rfl))) (Or.inl (hw _ (List.mem_of_getElem? (i := 34) rfl))) (by decide) (t := (.array .int)) (t' := (.array (.array .int))) (by decide) (by decide)))
    have Fw5_v65 := Fw5_v64.ext E32
    have Fw5_v66 := Fw5_v65.other W46 (Or.inr (slot_ne (Or.inl (hw _ (List.mem_of_getElem? (i := 26) rfl))) (Or.inl (hw _ (List.mem_of_getElem? (i := 36) rfl))) (by decide) (t := (.array .int)) (t' := (.array .int)) (by decide) (by decide)))
    have Fw5_v67 := Fw5_v66.other W56 (Or.inl ne53)
    have F1_v68 := F1.ext E2
    have F1_v69 := F1_v68.other W5 (Or.inr (slot_ne (Or.inl (hw _ (List.mem_of_getElem? (i := 47) rfl))) (Or.inl (hw _ (List.mem_of_getElem? (i := 26) rfl))) (by decide) (t := .int) (t' := (.array .int)) (by decide) (by decide)))
    have F1_v70 := F1_v69.other W9 (Or.inr (slot_ne (Or.inl (hw _ (List.mem_of_getElem? (i := 47) rfl))) (Or.inl (hw _ (List.mem_of_getElem? (i := 28) rfl))) (by decide) (t := .int) (t' := .int) (by decide) (by decide)))
    have F1_v71 := F1_v70.other W14 (Or.inr (slot_ne (Or.inl (hw _ (List.mem_of_getElem? (i := 47) rfl))) (Or.inl (hw _ (List.mem_of_getElem? (i := 30) rfl))) (by decide) (t := .int) (t' := .int) (by decide) (by decide)))
    have F1_v72 := F1_v71.ext E15
    have F1_v73 := F1_v72.other W31 (Or.inr (slot_ne (Or.inl (hw _ (List.mem_of_getElem? (i := 47) rfl))) (Or.inl (hw _ (List.mem_of_getElem? (i := 34) rfl))) (by decide) (t := .int) (t' := (.array (.array .int))) (by decide) (by decide)))
    have F1_v74 := F1_v73.ext E32
    have F1_v75 := F1_v74.other W46 (Or.inr (slot_ne (Or.inl (hw _ (List.mem_of_getElem? (i := 47) rfl))) (Or.inl (hw _ (List.mem_of_getElem? (i := 36) rfl))) (by decide) (t := .int) (t' := (.array .int)) (by decide) (by decide)))
    have F1_v76 := F1_v75.other W56 (Or.inl ne53)
    have Fw9_v77 := Fw9.other W14 (Or.inr (slot_ne (Or.inl (hw _ (List.mem_of_getElem? (i := 28) rfl))) (Or.inl (hw _ (List.mem_of_getElem? (i := 30) rfl))) (by decide) (t := .int) (t' := .int) (by decide) (by decide)))
    have Fw9_v78 := Fw9_v77.ext E15
    have Fw9_v79 := Fw9_v78.other W31 (Or.inr (slot_ne (Or.inl (hw _ (List.mem_of_getElem? (i := 28) rfl))) (Or.inl (hw _ (List.mem_of_getElem? (i := 34) rfl))) (by decide) (t := .int) (t' := (.array (.array .int))) (by decide) (by decide)))
    have Fw9_v80 := Fw9_v79.ext E32
    have Fw9_v81 := Fw9_v80.other W46 (Or.inr (slot_ne (Or.inl (hw _ (List.mem_of_getElem? (i := 28) rfl))) (Or.inl (hw _ (List.mem_of_getElem? (i := 36) rfl))) (by decide) (t := .int) (t' := (.array .int)) (by decide) (by decide)))
    have Fw9_v82 := Fw9_v81.other W56 (Or.inl ne53)
    have F3_v83 := F3.ext E2
    have F3_v84 := F3_v83.other W5 (Or.inr (slot_ne (Or.inl (hw _ (List.mem_of_getElem? (i := 49) rfl))) (Or.inl (hw _ (List.mem_of_getElem? (i := 26) rfl))) (by decide) (t := .int) (t' := (.array .int)) (by decide) (by decide)))
    have F3_v85 := F3_v84.other W9 (Or.inr (slot_ne (Or.inl (hw _ (List.mem_of_getElem? (i := 49) rfl))) (Or.inl (hw _ (List.mem_of_getElem? (i := 28) rfl))) (by decide) (t := .int) (t' := .int) (by decide) (by decide)))
    have F3_v86 := F3_v85.other W14 (Or.inr (slot_ne (Or.inl (hw _ (List.mem_of_getElem? (i := 49) rfl))) (Or.inl (hw _ (List.mem_of_getElem? (i := 30) rfl))) (by decide) (t := .int) (t' := .int) (by decide) (by decide)))
    have F3_v87 := F3_v86.ext E15
    have F3_v88 := F3_v87.other W31 (Or.inr (slot_ne (Or.inl (hw _ (List.mem_of_getElem? (i := 49) rfl))) (Or.inl (hw _ (List.mem_of_getElem? (i := 34) rfl))) (by decide) (t := .int) (t' := (.array (.array .int))) (by decide) (by decide)))
    have F3_v89 := F3_v88.ext E32
    have F3_v90 := F3_v89.other W46 (Or.inr (slot_ne (Or.inl (hw _ (List.mem_of_getElem? (i := 49) rfl))) (Or.inl (hw _ (List.mem_of_getElem? (i := 36) rfl))) (by decide) (t := .int) (t' := (.array .int)) (by decide) (by decide)))
    have F3_v91 := F3_v90.other W56 (Or.inl ne53)
    have F4_v92 := F4.ext E2
    have F4_v93 := F4_v92.other W5 (Or.inr (slot_ne (Or.inl (hw _ (List.mem_of_getElem? (i := 55) rfl))) (Or.inl (hw _ (List.mem_of_getElem? (i := 26) rfl))) (by decide) (t := .int) (t' := (.array .int)) (by decide) (by decide)))
    have F4_v94 := F4_v93.other W9 (Or.inr (slot_ne (Or.inl (hw _ (List.mem_of_getElem? (i := 55) rfl))) (Or.inl (hw _ (List.mem_of_getElem? (i := 28) rfl))) (by decide) (t := .int) (t' := .int) (by decide) (by decide)))
    have F4_v95 := F4_v94.other W14 (Or.inr (slot_ne (Or.inl (hw _ (List.mem_of_getElem? (i := 55) rfl))) (Or.inl (hw _ (List.mem_of_getElem? (i := 30) rfl))) (by decide) (t := .int) (t' := .int) (by decide) (by decide)))
    have F4_v96 := F4_v95.ext E15
    have F4_v97 := F4_v96.other W31 (Or.inr (slot_ne (Or.inl (hw _ (List.mem_of_getElem? (i := 55) rfl))) (Or.inl (hw _ (List.mem_of_getElem? (i := 34) rfl))) (by decide) (t := .int) (t' := (.array (.array .int))) (by decide) (by decide)))
    have F4_v98 := F4_v97.ext E32
    have F4_v99 := F4_v98.other W46 (Or.inr (slot_ne (Or.inl (hw _ (List.mem_of_getElem? (i := 55) rfl))) (Or.inl (hw _ (List.mem_of_getElem? (i := 36) rfl))) (by decide) (t := .int) (t' := (.array .int)) (by decide) (by decide)))
    have F4_v100 := F4_v99.other W56 (Or.inl ne53)
    have Fw14_v101 := Fw14.ext E15
    have Fw14_v102 := Fw14_v101.other W31 (Or.inr (slot_ne (Or.inl (hw _ (List.mem_of_getElem? (i := 30) rfl))) (Or.inl (hw _ (List.mem_of_getElem? (i := 34) rfl))) (by decide) (t := .int) (t' := (.array (.array .int))) (by decide) (by decide)))
    have Fw14_v103 := Fw14_v102.ext E32
    have Fw14_v104 := Fw14_v103.other W46 (Or.inr (slot_ne (Or.inl (hw _ (List.mem_of_getElem? (i := 30) rfl))) (Or.inl (hw _ (List.mem_of_getElem? (i := 36) rfl))) (by decide) (t := .int) (t' := (.array .int)) (by decide) (by decide)))
    have Fw14_v105 := Fw14_v104.other W56 (Or.inl ne53)
    have F6_v106 := F6.ext E2
    have F6_v107 := F6_v106.other W5 (Or.inr (slot_ne (Or.inl (hw _ (List.mem_of_getElem? (i := 45) rfl))) (Or.inl (hw _ (List.mem_of_getElem? (i := 26) rfl))) (by decide) (t := .int) (t' := (.array .int)) (by decide) (by decide)))
    have F6_v108 := F6_v107.other W9 (Or.inr (slot_ne (Or.inl (hw _ (List.mem_of_getElem? (i := 45) rfl))) (Or.inl (hw _ (List.mem_of_getElem? (i := 28) rfl))) (by decide) (t := .int) (t' := .int) (by decide) (by decide)))
    have F6_v109 := F6_v108.other W14 (Or.inr (slot_ne (Or.inl (hw _ (List.mem_of_getElem? (i := 45) rfl))) (Or.inl (hw _ (List.mem_of_getElem? (i := 30) rfl))) (by decide) (t := .int) (t' := .int) (by decide) (by decide)))
    have F6_v110 := F6_v109.ext E15
    have F6_v111 := F6_v110.other W31 (Or.inr (slot_ne (Or.inl (hw _ (List.mem_of_getElem? (i := 45) rfl))) (Or.inl (hw _ (List.mem_of_getElem? (i := 34) rfl))) (by decide) (t := .int) (t' := (.array (.array .int))) (by decide) (by decide)))
    have F6_v112 := F6_v111.ext E32
    have F6_v113 := F6_v112.other W46 (Or.inr (slot_ne (Or.inl (hw _ (List.mem_of_getElem? (i := 45) rfl))) (Or.inl (hw _ (List.mem_of_getElem? (i := 36) rfl))) (by decide) (t := .int) (t' := (.array .int)) (by decide) (by decide)))
    have F6_v114 := F6_v113.other W56 (Or.inl ne53)
    have Fw31_v115 := Fw31_v48.other W56 (Or.inl ne53)
    have Fw46_v116 := Fw46.other W56 (Or.inl ne53)
    have ne118 : b2 ≠ r0 := Exa.ne Ex2 E0_v3 (by decide)
    have V2_v117 := V2.other W5 ne118
    have V2_v119 := V2_v117.other W9 ne118
    have V2_v120 := V2_v119.other W14 ne118
    have V2_v121 := V2_v120.ext E15
    have V2_v122 := V2_v121.other W31 ne118
    have V2_v123 := V2_v122.ext E32
    have V2_v124 := V2_v123.other W46 ne118
    have ne126 : b2 ≠ b15 := own_neT V2_v121 V15 (by decide)
    have V2_v125 := V2_v124.other W56 ne126
    have ne128 : b32 ≠ r0 := Exa.ne Ex32 E0_v38 (by decide)
    have V32_v127 := V32.other W46 ne128
    have V15_v131 := V15.other W31 (Ne.symm ne53)
    have V15_v132 := V15_v131.ext E32
    have ne130 : b32 ≠ b15 := own_neT V32 V15_v132 (by decide)
    have V32_v129 := V32_v127.other W56 ne130
    have Ex32_v133 := Ex32_v57.wr W56
    have ne134 : b2 ≠ b32 := Nat.ne_of_lt (Nat.lt_of_lt_of_le V2_v122.lt (Nat.le_of_eq g32.symm))
    exact ⟨b2, b32, b15, k2, k32, k15, rfl, N56, K0_v60, sz_b2, sz_b32, sz_b15, Fw5_v67, F1_v76, Fw9_v82, F3_v91, F4_v100, Fw14_v105, F6_v114, Fw31_v115, Fw46_v116, V2_v125, V32_v129, Ex32_v133, V56, O15, ne134⟩
theorem ef_add (m : MethodId) (r0 : Addr) (r1 : Addr) (r2 : Addr) (r5 : Addr) (f0 : Nat) (t0 : Nat) : entryFrame m #[(.ref r0), (.ref r1), (.ref r2), (.int (own_N f0)), (.int (own_N t0)), (.ref r5)] 9 = mkF m 0 #[.val (.ref r0), .val (.ref r1), .val (.ref r2), .val (.int (own_N f0)), .val (.int (own_N t0)), .val (.ref r5), .unset, .unset, .unset] [] := by first | (simp [entryFrame, mkF, argsToLocals, Value.category]; done) | rfl
theorem pn_7 : plainName "com/example/terms_to_scores/termstoscores/index/Postings" = true := by first | (simp [plainName, overriddenIn]; done) | decide +kernel
abbrev LS_RRRIIRuuu (a0 : Addr) (a1 : Addr) (a2 : Addr) (a3 : Int32) (a4 : Int32) (a5 : Addr) : Array Slot := #[.val (.ref a0), .val (.ref a1), .val (.ref a2), .val (.int a3), .val (.int a4), .val (.ref a5), .unset, .unset, .unset]
theorem d7_0 : decode prog_33_method_2_code 0 = .ok (.iload 4, 2) := by decide +kernel
theorem d7_2 : decode prog_33_method_2_code 2 = .ok (.iload_n 3, 1) := by decide +kernel
theorem d7_3 : decode prog_33_method_2_code 3 = .ok (.isub, 1) := by decide +kernel
theorem d7_4 : decode prog_33_method_2_code 4 = .ok (.ldc 30, 2) := by decide +kernel
theorem d7_6 : decode prog_33_method_2_code 6 = .ok (.aload_n 0, 1) := by decide +kernel
theorem d7_7 : decode prog_33_method_2_code 7 = .ok (.getfield 31, 3) := by decide +kernel
theorem d7_10 : decode prog_33_method_2_code 10 = .ok (.isub, 1) := by decide +kernel
theorem d7_11 : decode prog_33_method_2_code 11 = .ok (.if_icmp .le 13, 3) := by decide +kernel
theorem d7_24 : decode prog_33_method_2_code 24 = .ok (.iload_n 3, 1) := by decide +kernel
theorem d7_25 : decode prog_33_method_2_code 25 = .ok (.istore 6, 2) := by decide +kernel
abbrev LS_RRRIIRIuu (a0 : Addr) (a1 : Addr) (a2 : Addr) (a3 : Int32) (a4 : Int32) (a5 : Addr) (a6 : Int32) : Array Slot := #[.val (.ref a0), .val (.ref a1), .val (.ref a2), .val (.int a3), .val (.int a4), .val (.ref a5), .val (.int a6), .unset, .unset]
abbrev LS_RRRIIRIWu (a0 : Addr) (a1 : Addr) (a2 : Addr) (a3 : Int32) (a4 : Int32) (a5 : Addr) (a6 : Int32) (a7 : Slot) : Array Slot := #[.val (.ref a0), .val (.ref a1), .val (.ref a2), .val (.int a3), .val (.int a4), .val (.ref a5), .val (.int a6), a7, .unset]
theorem d7_27 : decode prog_33_method_2_code 27 = .ok (.iload 6, 2) := by decide +kernel
theorem d7_29 : decode prog_33_method_2_code 29 = .ok (.iload 4, 2) := by decide +kernel
theorem d7_31 : decode prog_33_method_2_code 31 = .ok (.if_icmp .ge 153, 3) := by decide +kernel
theorem d7_34 : decode prog_33_method_2_code 34 = .ok (.aload_n 1, 1) := by decide +kernel
theorem d7_35 : decode prog_33_method_2_code 35 = .ok (.iload 6, 2) := by decide +kernel
theorem d7_37 : decode prog_33_method_2_code 37 = .ok (.iaload, 1) := by decide +kernel
theorem d7_38 : decode prog_33_method_2_code 38 = .ok (.istore 7, 2) := by decide +kernel
abbrev LS_RRRIIRIIu (a0 : Addr) (a1 : Addr) (a2 : Addr) (a3 : Int32) (a4 : Int32) (a5 : Addr) (a6 : Int32) (a7 : Int32) : Array Slot := #[.val (.ref a0), .val (.ref a1), .val (.ref a2), .val (.int a3), .val (.int a4), .val (.ref a5), .val (.int a6), .val (.int a7), .unset]
theorem d7_40 : decode prog_33_method_2_code 40 = .ok (.iload 7, 2) := by decide +kernel
theorem d7_42 : decode prog_33_method_2_code 42 = .ok (.aload_n 0, 1) := by decide +kernel
theorem d7_43 : decode prog_33_method_2_code 43 = .ok (.getfield 13, 3) := by decide +kernel
theorem d7_46 : decode prog_33_method_2_code 46 = .ok (.if_icmp .eq 110, 3) := by decide +kernel
theorem d7_156 : decode prog_33_method_2_code 156 = .ok (.aload_n 0, 1) := by decide +kernel
theorem d7_157 : decode prog_33_method_2_code 157 = .ok (.aload_n 0, 1) := by decide +kernel
theorem d7_158 : decode prog_33_method_2_code 158 = .ok (.getfield 59, 3) := by decide +kernel
theorem d7_161 : decode prog_33_method_2_code 161 = .ok (.aload_n 0, 1) := by decide +kernel
theorem d7_162 : decode prog_33_method_2_code 162 = .ok (.dup, 1) := by decide +kernel
theorem d7_163 : decode prog_33_method_2_code 163 = .ok (.getfield 50, 3) := by decide +kernel
theorem d7_166 : decode prog_33_method_2_code 166 = .ok (.iconst 1, 1) := by decide +kernel
theorem d7_167 : decode prog_33_method_2_code 167 = .ok (.iadd, 1) := by decide +kernel
theorem d7_168 : decode prog_33_method_2_code 168 = .ok (.dup_x1, 1) := by decide +kernel
theorem d7_169 : decode prog_33_method_2_code 169 = .ok (.putfield 50, 3) := by decide +kernel
theorem d7_172 : decode prog_33_method_2_code 172 = .ok (.invokestatic 62, 3) := by decide +kernel
theorem d7_175 : decode prog_33_method_2_code 175 = .ok (.putfield 59, 3) := by decide +kernel
theorem d7_178 : decode prog_33_method_2_code 178 = .ok (.iinc 6 1, 3) := by decide +kernel
theorem d7_181 : decode prog_33_method_2_code 181 = .ok (.goto (-154), 3) := by decide +kernel
theorem d7_49 : decode prog_33_method_2_code 49 = .ok (.iconst 2, 1) := by decide +kernel
theorem d7_50 : decode prog_33_method_2_code 50 = .ok (.aload_n 0, 1) := by decide +kernel
theorem d7_51 : decode prog_33_method_2_code 51 = .ok (.getfield 41, 3) := by decide +kernel
theorem d7_54 : decode prog_33_method_2_code 54 = .ok (.imul, 1) := by decide +kernel
theorem d7_55 : decode prog_33_method_2_code 55 = .ok (.aload_n 0, 1) := by decide +kernel
theorem d7_56 : decode prog_33_method_2_code 56 = .ok (.getfield 9, 3) := by decide +kernel
theorem d7_59 : decode prog_33_method_2_code 59 = .ok (.arraylength, 1) := by decide +kernel
theorem d7_60 : decode prog_33_method_2_code 60 = .ok (.if_icmp .ne 20, 3) := by decide +kernel
theorem d7_63 : decode prog_33_method_2_code 63 = .ok (.aload_n 0, 1) := by decide +kernel
theorem d7_64 : decode prog_33_method_2_code 64 = .ok (.aload_n 0, 1) := by decide +kernel
theorem d7_65 : decode prog_33_method_2_code 65 = .ok (.getfield 9, 3) := by decide +kernel
theorem d7_68 : decode prog_33_method_2_code 68 = .ok (.iconst 4, 1) := by decide +kernel
theorem d7_69 : decode prog_33_method_2_code 69 = .ok (.aload_n 0, 1) := by decide +kernel
theorem d7_70 : decode prog_33_method_2_code 70 = .ok (.getfield 41, 3) := by decide +kernel
theorem d7_73 : decode prog_33_method_2_code 73 = .ok (.imul, 1) := by decide +kernel
theorem d7_74 : decode prog_33_method_2_code 74 = .ok (.invokestatic 44, 3) := by decide +kernel
theorem pd___II__I : parseMethodDescriptor "([II)[I" = some ⟨[(.array .int), .int], some (.array .int)⟩ := by decide +kernel
theorem d7_77 : decode prog_33_method_2_code 77 = .ok (.putfield 9, 3) := by decide +kernel
theorem d7_80 : decode prog_33_method_2_code 80 = .ok (.aload_n 0, 1) := by decide +kernel
theorem d7_81 : decode prog_33_method_2_code 81 = .ok (.getfield 9, 3) := by decide +kernel
theorem d7_84 : decode prog_33_method_2_code 84 = .ok (.iconst 2, 1) := by decide +kernel
theorem d7_85 : decode prog_33_method_2_code 85 = .ok (.aload_n 0, 1) := by decide +kernel
theorem d7_86 : decode prog_33_method_2_code 86 = .ok (.getfield 41, 3) := by decide +kernel
theorem d7_89 : decode prog_33_method_2_code 89 = .ok (.imul, 1) := by decide +kernel
theorem d7_90 : decode prog_33_method_2_code 90 = .ok (.iload 7, 2) := by decide +kernel
theorem d7_92 : decode prog_33_method_2_code 92 = .ok (.iastore, 1) := by decide +kernel
theorem d7_93 : decode prog_33_method_2_code 93 = .ok (.aload_n 0, 1) := by decide +kernel
theorem d7_94 : decode prog_33_method_2_code 94 = .ok (.getfield 9, 3) := by decide +kernel
theorem d7_97 : decode prog_33_method_2_code 97 = .ok (.iconst 2, 1) := by decide +kernel
theorem d7_98 : decode prog_33_method_2_code 98 = .ok (.aload_n 0, 1) := by decide +kernel
theorem d7_99 : decode prog_33_method_2_code 99 = .ok (.getfield 41, 3) := by decide +kernel
theorem d7_102 : decode prog_33_method_2_code 102 = .ok (.imul, 1) := by decide +kernel
theorem d7_103 : decode prog_33_method_2_code 103 = .ok (.iconst 1, 1) := by decide +kernel
theorem d7_104 : decode prog_33_method_2_code 104 = .ok (.iadd, 1) := by decide +kernel
theorem d7_105 : decode prog_33_method_2_code 105 = .ok (.aload_n 0, 1) := by decide +kernel
theorem d7_106 : decode prog_33_method_2_code 106 = .ok (.getfield 31, 3) := by decide +kernel
theorem d7_109 : decode prog_33_method_2_code 109 = .ok (.iload 6, 2) := by decide +kernel
theorem d7_111 : decode prog_33_method_2_code 111 = .ok (.iadd, 1) := by decide +kernel
theorem d7_112 : decode prog_33_method_2_code 112 = .ok (.iload_n 3, 1) := by decide +kernel
theorem d7_113 : decode prog_33_method_2_code 113 = .ok (.isub, 1) := by decide +kernel
theorem d7_114 : decode prog_33_method_2_code 114 = .ok (.iastore, 1) := by decide +kernel
theorem d7_115 : decode prog_33_method_2_code 115 = .ok (.aload_n 0, 1) := by decide +kernel
theorem d7_116 : decode prog_33_method_2_code 116 = .ok (.dup, 1) := by decide +kernel
theorem d7_117 : decode prog_33_method_2_code 117 = .ok (.getfield 41, 3) := by decide +kernel
theorem d7_120 : decode prog_33_method_2_code 120 = .ok (.iconst 1, 1) := by decide +kernel
theorem d7_121 : decode prog_33_method_2_code 121 = .ok (.iadd, 1) := by decide +kernel
theorem d7_122 : decode prog_33_method_2_code 122 = .ok (.putfield 41, 3) := by decide +kernel
theorem d7_125 : decode prog_33_method_2_code 125 = .ok (.aload_n 0, 1) := by decide +kernel
theorem d7_126 : decode prog_33_method_2_code 126 = .ok (.iload 7, 2) := by decide +kernel
theorem d7_128 : decode prog_33_method_2_code 128 = .ok (.putfield 13, 3) := by decide +kernel
theorem d7_131 : decode prog_33_method_2_code 131 = .ok (.aload_n 0, 1) := by decide +kernel
theorem d7_132 : decode prog_33_method_2_code 132 = .ok (.iconst 0, 1) := by decide +kernel
theorem d7_133 : decode prog_33_method_2_code 133 = .ok (.putfield 50, 3) := by decide +kernel
theorem d7_136 : decode prog_33_method_2_code 136 = .ok (.aload_n 0, 1) := by decide +kernel
theorem d7_137 : decode prog_33_method_2_code 137 = .ok (.aload_n 0, 1) := by decide +kernel
theorem d7_138 : decode prog_33_method_2_code 138 = .ok (.getfield 17, 3) := by decide +kernel
theorem d7_141 : decode prog_33_method_2_code 141 = .ok (.aload 5, 2) := by decide +kernel
theorem d7_143 : decode prog_33_method_2_code 143 = .ok (.iload 7, 2) := by decide +kernel
theorem d7_145 : decode prog_33_method_2_code 145 = .ok (.baload, 1) := by decide +kernel
theorem d7_146 : decode prog_33_method_2_code 146 = .ok (.sipush 255, 3) := by decide +kernel
theorem d7_149 : decode prog_33_method_2_code 149 = .ok (.iand, 1) := by decide +kernel
theorem d7_150 : decode prog_33_method_2_code 150 = .ok (.invokestatic 53, 3) := by decide +kernel
theorem d7_153 : decode prog_33_method_2_code 153 = .ok (.putfield 17, 3) := by decide +kernel
theorem d7_184 : decode prog_33_method_2_code 184 = .ok (.iload_n 3, 1) := by decide +kernel
theorem d7_185 : decode prog_33_method_2_code 185 = .ok (.istore 6, 2) := by decide +kernel
abbrev LS_RRRIIRIWW (a0 : Addr) (a1 : Addr) (a2 : Addr) (a3 : Int32) (a4 : Int32) (a5 : Addr) (a6 : Int32) (a7 : Slot) (a8 : Slot) : Array Slot := #[.val (.ref a0), .val (.ref a1), .val (.ref a2), .val (.int a3), .val (.int a4), .val (.ref a5), .val (.int a6), a7, a8]
theorem d7_187 : decode prog_33_method_2_code 187 = .ok (.iload 6, 2) := by decide +kernel
theorem d7_189 : decode prog_33_method_2_code 189 = .ok (.iload 4, 2) := by decide +kernel
theorem d7_191 : decode prog_33_method_2_code 191 = .ok (.if_icmp .ge 190, 3) := by decide +kernel
theorem d7_194 : decode prog_33_method_2_code 194 = .ok (.aload_n 0, 1) := by decide +kernel
theorem d7_195 : decode prog_33_method_2_code 195 = .ok (.getfield 31, 3) := by decide +kernel
theorem d7_198 : decode prog_33_method_2_code 198 = .ok (.sipush 8191, 3) := by decide +kernel
theorem d7_201 : decode prog_33_method_2_code 201 = .ok (.iand, 1) := by decide +kernel
theorem d7_202 : decode prog_33_method_2_code 202 = .ok (.istore 7, 2) := by decide +kernel
abbrev LS_RRRIIRIIW (a0 : Addr) (a1 : Addr) (a2 : Addr) (a3 : Int32) (a4 : Int32) (a5 : Addr) (a6 : Int32) (a7 : Int32) (a8 : Slot) : Array Slot := #[.val (.ref a0), .val (.ref a1), .val (.ref a2), .val (.int a3), .val (.int a4), .val (.ref a5), .val (.int a6), .val (.int a7), a8]
theorem d7_204 : decode prog_33_method_2_code 204 = .ok (.iload 7, 2) := by decide +kernel
theorem d7_206 : decode prog_33_method_2_code 206 = .ok (.ifCond .ne 70, 3) := by decide +kernel
theorem d7_209 : decode prog_33_method_2_code 209 = .ok (.aload_n 0, 1) := by decide +kernel
theorem d7_210 : decode prog_33_method_2_code 210 = .ok (.getfield 31, 3) := by decide +kernel
theorem d7_213 : decode prog_33_method_2_code 213 = .ok (.ifCond .le 63, 3) := by decide +kernel
theorem d7_276 : decode prog_33_method_2_code 276 = .ok (.iload 7, 2) := by decide +kernel
theorem d7_278 : decode prog_33_method_2_code 278 = .ok (.aload_n 0, 1) := by decide +kernel
theorem d7_279 : decode prog_33_method_2_code 279 = .ok (.getfield 25, 3) := by decide +kernel
theorem d7_282 : decode prog_33_method_2_code 282 = .ok (.arraylength, 1) := by decide +kernel
theorem d7_283 : decode prog_33_method_2_code 283 = .ok (.if_icmp .ne 45, 3) := by decide +kernel
theorem d7_286 : decode prog_33_method_2_code 286 = .ok (.aload_n 0, 1) := by decide +kernel
theorem d7_287 : decode prog_33_method_2_code 287 = .ok (.aload_n 0, 1) := by decide +kernel
theorem d7_288 : decode prog_33_method_2_code 288 = .ok (.getfield 25, 3) := by decide +kernel
theorem d7_291 : decode prog_33_method_2_code 291 = .ok (.iload 7, 2) := by decide +kernel
theorem d7_293 : decode prog_33_method_2_code 293 = .ok (.iconst 2, 1) := by decide +kernel
theorem d7_294 : decode prog_33_method_2_code 294 = .ok (.imul, 1) := by decide +kernel
theorem d7_295 : decode prog_33_method_2_code 295 = .ok (.iload 7, 2) := by decide +kernel
theorem d7_297 : decode prog_33_method_2_code 297 = .ok (.iload 4, 2) := by decide +kernel
theorem d7_299 : decode prog_33_method_2_code 299 = .ok (.iadd, 1) := by decide +kernel
theorem d7_300 : decode prog_33_method_2_code 300 = .ok (.iload 6, 2) := by decide +kernel
theorem d7_302 : decode prog_33_method_2_code 302 = .ok (.isub, 1) := by decide +kernel
theorem d7_303 : decode prog_33_method_2_code 303 = .ok (.invokestatic 62, 3) := by decide +kernel
theorem d7_306 : decode prog_33_method_2_code 306 = .ok (.sipush 8192, 3) := by decide +kernel
theorem d7_309 : decode prog_33_method_2_code 309 = .ok (.invokestatic 53, 3) := by decide +kernel
theorem d7_312 : decode prog_33_method_2_code 312 = .ok (.invokestatic 44, 3) := by decide +kernel
theorem d7_315 : decode prog_33_method_2_code 315 = .ok (.putfield 25, 3) := by decide +kernel
theorem d7_318 : decode prog_33_method_2_code 318 = .ok (.aload_n 0, 1) := by decide +kernel
theorem d7_319 : decode prog_33_method_2_code 319 = .ok (.getfield 21, 3) := by decide +kernel
theorem d7_322 : decode prog_33_method_2_code 322 = .ok (.iconst 0, 1) := by decide +kernel
theorem d7_323 : decode prog_33_method_2_code 323 = .ok (.aload_n 0, 1) := by decide +kernel
theorem d7_324 : decode prog_33_method_2_code 324 = .ok (.getfield 25, 3) := by decide +kernel
theorem d7_327 : decode prog_33_method_2_code 327 = .ok (.aastore, 1) := by decide +kernel
theorem d7_328 : decode prog_33_method_2_code 328 = .ok (.iload 4, 2) := by decide +kernel
theorem d7_330 : decode prog_33_method_2_code 330 = .ok (.iload 6, 2) := by decide +kernel
theorem d7_332 : decode prog_33_method_2_code 332 = .ok (.isub, 1) := by decide +kernel
theorem d7_333 : decode prog_33_method_2_code 333 = .ok (.aload_n 0, 1) := by decide +kernel
theorem d7_334 : decode prog_33_method_2_code 334 = .ok (.getfield 25, 3) := by decide +kernel
theorem d7_337 : decode prog_33_method_2_code 337 = .ok (.arraylength, 1) := by decide +kernel
theorem d7_338 : decode prog_33_method_2_code 338 = .ok (.iload 7, 2) := by decide +kernel
theorem d7_340 : decode prog_33_method_2_code 340 = .ok (.isub, 1) := by decide +kernel
theorem d7_341 : decode prog_33_method_2_code 341 = .ok (.invokestatic 53, 3) := by decide +kernel
theorem d7_344 : decode prog_33_method_2_code 344 = .ok (.istore 8, 2) := by decide +kernel
abbrev LS_RRRIIRIII (a0 : Addr) (a1 : Addr) (a2 : Addr) (a3 : Int32) (a4 : Int32) (a5 : Addr) (a6 : Int32) (a7 : Int32) (a8 : Int32) : Array Slot := #[.val (.ref a0), .val (.ref a1), .val (.ref a2), .val (.int a3), .val (.int a4), .val (.ref a5), .val (.int a6), .val (.int a7), .val (.int a8)]
theorem d7_346 : decode prog_33_method_2_code 346 = .ok (.aload_n 2, 1) := by decide +kernel
theorem d7_347 : decode prog_33_method_2_code 347 = .ok (.iload 6, 2) := by decide +kernel
theorem d7_349 : decode prog_33_method_2_code 349 = .ok (.aload_n 0, 1) := by decide +kernel
theorem d7_350 : decode prog_33_method_2_code 350 = .ok (.getfield 25, 3) := by decide +kernel
theorem d7_353 : decode prog_33_method_2_code 353 = .ok (.iload 7, 2) := by decide +kernel
theorem d7_355 : decode prog_33_method_2_code 355 = .ok (.iload 8, 2) := by decide +kernel
theorem d7_357 : decode prog_33_method_2_code 357 = .ok (.invokestatic 69, 3) := by decide +kernel
theorem d7_360 : decode prog_33_method_2_code 360 = .ok (.aload_n 0, 1) := by decide +kernel
theorem d7_361 : decode prog_33_method_2_code 361 = .ok (.dup, 1) := by decide +kernel
theorem d7_362 : decode prog_33_method_2_code 362 = .ok (.getfield 31, 3) := by decide +kernel
theorem d7_365 : decode prog_33_method_2_code 365 = .ok (.iload 8, 2) := by decide +kernel
theorem d7_367 : decode prog_33_method_2_code 367 = .ok (.iadd, 1) := by decide +kernel
theorem d7_368 : decode prog_33_method_2_code 368 = .ok (.putfield 31, 3) := by decide +kernel
theorem d7_371 : decode prog_33_method_2_code 371 = .ok (.iload 6, 2) := by decide +kernel
theorem d7_373 : decode prog_33_method_2_code 373 = .ok (.iload 8, 2) := by decide +kernel
theorem d7_375 : decode prog_33_method_2_code 375 = .ok (.iadd, 1) := by decide +kernel
theorem d7_376 : decode prog_33_method_2_code 376 = .ok (.istore 6, 2) := by decide +kernel
theorem d7_378 : decode prog_33_method_2_code 378 = .ok (.goto (-191), 3) := by decide +kernel
theorem d7_381 : decode prog_33_method_2_code 381 = .ok (.return_, 1) := by decide +kernel
def Qadd (Z : State) (r0 : Addr) (r1 : Addr) (r2 : Addr) (r5 : Addr) (d ps : Nat → Int32) (nd np : Nat) (kd kp kl : ClassId) (zl : Int32) (f0 : Nat) (t0 : Nat) (eo qo pg : Addr) (ke kq kg : ClassId) (en pf : Nat → Int32) (ze zp : Nat) (lf mf sl : Int32) (h0 : Heap) (n0 : Nat) (v : Option Value) (h : Heap) (L : List Loc) : Prop := ∃ (ea qa : Addr) (kea kqa : ClassId) (ena pfa : Nat → Int32) (zea zpa : Nat) (lfa mfa sla : Int32), v = none ∧ Fr n0 L ∧ Keep h0 h [r0, eo, qo, pg] ∧ Fld Z h r0 "com/example/terms_to_scores/termstoscores/index/Postings" "entries" "[I" (.ref ea) ∧ Fld Z h r0 "com/example/terms_to_scores/termstoscores/index/Postings" "size" "I" (.int (own_N (own_sz d t0))) ∧ Fld Z h r0 "com/example/terms_to_scores/termstoscores/index/Postings" "lastDoc" "I" (.int (own_ld d t0)) ∧ Fld Z h r0 "com/example/terms_to_scores/termstoscores/index/Postings" "lastFreq" "I" (.int lfa) ∧ Fld Z h r0 "com/example/terms_to_scores/termstoscores/index/Postings" "maxFreq" "I" (.int mfa) ∧ Fld Z h r0 "com/example/terms_to_scores/termstoscores/index/Postings" "shortestLength" "I" (.int sla) ∧ Fld Z h r0 "com/example/terms_to_scores/termstoscores/index/Postings" "positionCount" "I" (.int (own_N t0)) ∧ Fld Z h r0 "com/example/terms_to_scores/termstoscores/index/Postings" "pages" "[[I" (.ref pg) ∧ Fld Z h r0 "com/example/terms_to_scores/termstoscores/index/Postings" "page" "[I" (.ref qa) ∧ Arv Z h ea kea .int (own_N zea) (own_V ena zea) (.int (0 : Int32)) ∧ Arv Z h qa kqa .int (own_N zpa) (own_V pfa zpa) (.int (0 : Int32)) ∧ Exa Z h qa "[I" ∧ Arv Z h pg kg (.array .int) (1 : Int32) [.ref qa] .null ∧ (ea ∈ [r0, eo, qo, pg] ∨ h0.size ≤ ea) ∧ (qa ∈ [r0, eo, qo, pg] ∨ h0.size ≤ qa) ∧ n0 ≤ ea ∧ n0 ≤ qa ∧ ea ≠ qa ∧ ea ≠ r1 ∧ ea ≠ r2 ∧ qa ≠ r1 ∧ qa ≠ r2 ∧ (zea = 8 ∨ zea = 16) ∧ 2 * own_sz d t0 ≤ zea ∧ own_H d ena t0 ∧ (4 ≤ zpa ∧ t0 ≤ zpa ∧ zpa ≤ 30) ∧ (∀ t, t < t0 → pfa t = ps t)
set_option maxRecDepth 65536 in
set_option maxHeartbeats 40000000 in
theorem rmadd (l : Launch) (Z : State) (a0 : Array Value) (hw : ∀ d ∈ tables_1, d.before a0 Z = true) (ws : List Jvm.Cond) (r0 : Addr) (r1 : Addr) (r2 : Addr) (r5 : Addr) (d ps : Nat → Int32) (nd np : Nat) (kd kp kl : ClassId) (zl : Int32) (f0 : Nat) (t0 : Nat) (eo qo pg : Addr) (ke kq kg : ClassId) (en pf : Nat → Int32) (ze zp : Nat) (lf mf sl : Int32) (h0 : Heap) (n0 : Nat) (Z0 : n0 ≤ h0.size) (E0 : Exa Z h0 r0 "com/example/terms_to_scores/termstoscores/index/Postings") (F_entries : Fld Z h0 r0 "com/example/terms_to_scores/termstoscores/index/Postings" "entries" "[I" (.ref eo)) (F_size : Fld Z h0 r0 "com/example/terms_to_scores/termstoscores/index/Postings" "size" "I" (.int (own_N (own_sz d f0)))) (F_lastDoc : Fld Z h0 r0 "com/example/terms_to_scores/termstoscores/index/Postings" "lastDoc" "I" (.int (own_ld d f0))) (F_lastFreq : Fld Z h0 r0 "com/example/terms_to_scores/termstoscores/index/Postings" "lastFreq" "I" (.int lf)) (F_maxFreq : Fld Z h0 r0 "com/example/terms_to_scores/termstoscores/index/Postings" "maxFreq" "I" (.int mf)) (F_shortestLength : Fld Z h0 r0 "com/example/terms_to_scores/termstoscores/index/Postings" "shortestLength" "I" (.int sl)) (F_positionCount : Fld Z h0 r0 "com/example/terms_to_scores/termstoscores/index/Postings" "positionCount" "I" (.int (own_N f0))) (F_pages : Fld Z h0 r0 "com/example/terms_to_scores/termstoscores/index/Postings" "pages" "[[I" (.ref pg)) (F_page : Fld Z h0 r0 "com/example/terms_to_scores/termstoscores/index/Postings" "page" "[I" (.ref qo)) (Ve : Arv Z h0 eo ke .int (own_N ze) (own_V en ze) (.int (0 : Int32))) (Vq : Arv Z h0 qo kq .int (own_N zp) (own_V pf zp) (.int (0 : Int32))) (Exq : Exa Z h0 qo "[I") (Vg : Arv Z h0 pg kg (.array .int) (1 : Int32) [.ref qo] .null) (Og : OvrA Z kg .int "[I") (Vd : Arv Z h0 r1 kd .int (own_N nd) (own_V d nd) (.int (0 : Int32))) (Vp : Arv Z h0 r2 kp .int (own_N np) (own_V ps np) (.int (0 : Int32))) (Vl : Arv Z h0 r5 kl .byte zl [] (.int (0 : Int32))) (g_r0 : n0 ≤ r0) (g_eo : n0 ≤ eo) (g_qo : n0 ≤ qo) (g_pg : n0 ≤ pg) (neq : eo ≠ qo) (nee1 : eo ≠ r1) (nee2 : eo ≠ r2) (nqq1 : qo ≠ r1) (nqq2 : qo ≠ r2) (hze : ze = 8 ∨ ze = 16) (hsz : 2 * own_sz d f0 ≤ ze) (hH : own_H d en f0) (hzp : 4 ≤ zp ∧ f0 ≤ zp ∧ zp ≤ 30) (hpf : ∀ t, t < f0 → pf t = ps t) (hft : f0 ≤ t0) (ht : t0 ≤ 15) (hnd : t0 ≤ nd ∧ nd ≤ 15) (hnp : t0 ≤ np ∧ np ≤ 15) (hs6 : own_sz d t0 ≤ 6) (hdl : ∀ t, t < t0 → ¬ d t < 0 ∧ d t < zl) :
    MetFree l (⟨"com/example/terms_to_scores/termstoscores/index/Postings", "add", "([I[III[B)V"⟩ : MethodName) (head1 (Jvm.Cond.code (⟨"com/example/terms_to_scores/termstoscores/index/Postings", "add", "([I[III[B)V"⟩ : MethodName) prog_33_method_2_code 9 none :: ws) ({ frames := 2, cells := 2, slots := 64, locals := 90 } : Room)) (fun a U => a = #[(.ref r0), (.ref r1), (.ref r2), (.int (own_N f0)), (.int (own_N t0)), (.ref r5)] ∧ Z.Warmed39 U.vm ∧ U.heap = h0) (fun _ _ _ _ _ => True) (fun _ U o U' => ∃ v L, o = .returned v ∧ Qadd Z r0 r1 r2 r5 d ps nd np kd kp kl zl f0 t0 eo qo pg ke kq kg en pf ze zp lf mf sl h0 n0 v U'.heap L ∧ FrameEnd U o U' L ({ frames := 2, cells := 2, slots := 64, locals := 90 } : Room).cells ({ frames := 2, cells := 2, slots := 64, locals := 90 } : Room).slots) := by
  refine MetFree.of_bodySF (plainFor_of_name pn_7) hisR ?_
  intro p e s m args below meth c s₁ Bd hml0 hP hK
  obtain ⟨rfl, hZ, hh⟩ := hP
  have hx := Bd.exec
  have hby := Bd.bytes
  have hml : c.maxLocals = 9 := hml0
  have hown : s.vm.findClass "com/example/terms_to_scores/termstoscores/index/Postings" = some m.cls := findClass_of_methodNamed Bd.named
  have hnm := (name_of_methodNamed Bd.named Bd.method).1
  have X0 : Stand p l e ({ frames := 2, cells := 2, slots := 64, locals := 90 } : Room) s m #[(.ref r0), (.ref r1), (.ref r2), (.int (own_N f0)), (.int (own_N t0)), (.ref r5)] below meth c s₁ [] 0 0 := Stand.of_body Bd
  have e0 : s₁.heap = h0 := by rw [← hh, Bd.state]; rfl
  have N0 := Fr.nil n0
  refine own_go (B := s₁.setTop (mkF m 0 (LS_RRRIIRuuu r0 r1 r2 (own_N f0) (own_N t0) r5) [])) (fun t k => castTop (ef_add m r0 r1 r2 r5 f0 t0) k) ?_
  have K0 : Keep h0 h0 [r0, eo, qo, pg] := Keep.refl _ _
  refine own_go (B := s₁.setTop (mkF m 7 (LS_RRRIIRuuu r0 r1 r2 (own_N f0) (own_N t0) r5) [(.ref r0), (.int (2147483647 : Int32)), (.int ((own_N t0) - (own_N f0)))])) (fun t k => ?_) ?_
  · refine XS.iload X0.here hx rfl (hb hby d7_0) rfl ?_
    refine XS.iloadN X0.here hx rfl (hb hby d7_2) rfl ?_
    show Steps p.tables e below (s₁.setTop (mkF m 3 (LS_RRRIIRuuu r0 r1 r2 (own_N f0) (own_N t0) r5) [(.int (own_N f0)), (.int (own_N t0))])) _
    refine XS.isub X0.here hx rfl (hb hby d7_3) rfl ?_
    refine X0.ldcInt hx hown (mvT hZ (hw _ (List.mem_of_getElem? (i := 43) rfl))) (g := (mkF m 4 (LS_RRRIIRuuu r0 r1 r2 (own_N f0) (own_N t0) r5) [(.int ((own_N t0) - (own_N f0)))])) rfl (hb hby d7_4) _ ?_
    refine XS.aloadN X0.here hx rfl (hb hby d7_6) rfl rfl ?_
    exact k
  obtain ⟨T1, X1, e1, st1⟩ := getF X0 hx hZ hown (host := "") (Or.inl (hw _ (List.mem_of_getElem? (i := 44) rfl))) Via.refl e0 F_positionCount (g := (mkF m 7 (LS_RRRIIRuuu r0 r1 r2 (own_N f0) (own_N t0) r5) [(.ref r0), (.int (2147483647 : Int32)), (.int ((own_N t0) - (own_N f0)))])) rfl rfl (hb hby d7_7)
  refine own_go (B := T1.setTop (mkF m 10 (LS_RRRIIRuuu r0 r1 r2 (own_N f0) (own_N t0) r5) [(.int (own_N f0)), (.int (2147483647 : Int32)), (.int ((own_N t0) - (own_N f0)))])) (fun t k => st1 _ k) ?_
  refine own_go (B := T1.setTop (mkF m 27 (LS_RRRIIRIuu r0 r1 r2 (own_N f0) (own_N t0) r5 (own_N f0)) [])) (fun t k => ?_) ?_
  · refine XS.isub X1.here hx rfl (hb hby d7_10) rfl ?_
    refine XS.icmpYes X1.here hx rfl (pc0 := 11) (pc' := 24) rfl (hb hby d7_11) rfl (flt (own_over (by omega) hft (by omega))).2.2.2 (by decide) (by decide) ?_
    show Steps p.tables e below (T1.setTop (mkF m 24 (LS_RRRIIRuuu r0 r1 r2 (own_N f0) (own_N t0) r5) [])) _
    refine XS.iloadN X1.here hx rfl (hb hby d7_24) rfl ?_
    refine XS.istore X1.here hx rfl (hb hby d7_25) rfl (l' := (LS_RRRIIRIuu r0 r1 r2 (own_N f0) (own_N t0) r5 (own_N f0))) rfl ?_
    exact k
  refine own_loop X1 N0 (ι := Nat × Nat × Slot) (fun i => t0 - i.1) (fun i => (i.2.1 - 8) / 8) (fun i => 4 * (i.2.1 - 8)) (fun i hh => ∃ (ea : Addr) (kea : ClassId) (ena : Nat → Int32) (lfa mfa sla : Int32), n0 ≤ Array.size hh ∧ Keep h0 hh [r0, eo, qo, pg] ∧ Exa Z hh r0 "com/example/terms_to_scores/termstoscores/index/Postings" ∧ Fld Z hh r0 "com/example/terms_to_scores/termstoscores/index/Postings" "entries" "[I" (.ref ea) ∧ Fld Z hh r0 "com/example/terms_to_scores/termstoscores/index/Postings" "size" "I" (.int (own_N (own_sz d i.1))) ∧ Fld Z hh r0 "com/example/terms_to_scores/termstoscores/index/Postings" "lastDoc" "I" (.int (own_ld d i.1)) ∧ Fld Z hh r0 "com/example/terms_to_scores/termstoscores/index/Postings" "lastFreq" "I" (.int lfa) ∧ Fld Z hh r0 "com/example/terms_to_scores/termstoscores/index/Postings" "maxFreq" "I" (.int mfa) ∧ Fld Z hh r0 "com/example/terms_to_scores/termstoscores/index/Postings" "shortestLength" "I" (.int sla) ∧ Fld Z hh r0 "com/example/terms_to_scores/termstoscores/index/Postings" "positionCount" "I" (.int (own_N f0)) ∧ Fld Z hh r0 "com/example/terms_to_scores/termstoscores/index/Postings" "pages" "[[I" (.ref pg) ∧ Fld Z hh r0 "com/example/terms_to_scores/termstoscores/index/Postings" "page" "[I" (.ref qo) ∧ Arv Z hh ea kea .int (own_N i.2.1) (own_V ena i.2.1) (.int (0 : Int32)) ∧ Arv Z hh qo kq .int (own_N zp) (own_V pf zp) (.int (0 : Int32)) ∧ Exa Z hh qo "[I" ∧ Arv Z hh pg kg (.array .int) (1 : Int32) [.ref qo] .null ∧ Arv Z hh r2 kp .int (own_N np) (own_V ps np) (.int (0 : Int32)) ∧ Arv Z hh r1 kd .int (own_N nd) (own_V d nd) (.int (0 : Int32)) ∧ Arv Z hh r5 kl .byte zl [] (.int (0 : Int32)) ∧ (ea ∈ [r0, eo, qo, pg] ∨ h0.size ≤ ea) ∧ n0 ≤ ea ∧ ea ≠ qo ∧ ea ≠ r1 ∧ ea ≠ r2 ∧ (i.2.1 = 8 ∨ i.2.1 = 16) ∧ 2 * own_sz d i.1 ≤ i.2.1 ∧ own_H d ena i.1 ∧ f0 ≤ i.1 ∧ i.1 ≤ t0 ∧ (i.2.2 = Slot.unset ∨ ∃ x : Int32, i.2.2 = Slot.val (.int x))) (fun i => mkF m 27 (LS_RRRIIRIWu r0 r1 r2 (own_N f0) (own_N t0) r5 (own_N i.1) i.2.2) []) ?_ ?_
  · rintro ⟨ia, za, wa7⟩ Ta La Xa0 Na ⟨ea, kea, ena, lfa, mfa, sla, aZ, aK, aE, aF_entries, aF_size, aF_lastDoc, aF_lastFreq, aF_maxFreq, aF_shortestLength, aF_positionCount, aF_pages, aF_page, aVe, aVq, aEq, aVg, aVp, aVd, aVl, hia, g_ea, nea, nea1, nea2, hza, haz, hHa, hfa, hat, hwa7⟩ IHa
    have hSa : own_sz d ia ≤ 6 := Nat.le_trans (own_sz_le d hat) hs6
    dsimp only at aF_size aF_lastDoc hza haz hHa hfa hat aVe
    rcases hza with rfl | rfl
    · have Xa := own_mono (cells' := 0) (slots' := 0) Xa0 (by simp) (by simp)
      refine own_go (B := Ta.setTop (mkF m 27 (LS_RRRIIRIWu r0 r1 r2 (own_N f0) (own_N t0) r5 (own_N ia) wa7) [])) (fun t k => k) ?_
      refine own_go (B := Ta.setTop (mkF m 31 (LS_RRRIIRIWu r0 r1 r2 (own_N f0) (own_N t0) r5 (own_N ia) wa7) [(.int (own_N t0)), (.int (own_N ia))])) (fun t k => ?_) ?_
      · refine XS.iload Xa.here hx rfl (hb hby d7_27) rfl ?_
        refine XS.iload Xa.here hx rfl (hb hby d7_29) rfl ?_
        exact k
      by_cases hc31_3 : (own_N ia) < (own_N t0)
      · have hlt : ia < t0 := own_lt (by omega) (by omega) hc31_3
        obtain ⟨cl4, Ar4, qa4, Sa4, Na4, Ha4, Ga4⟩ := id aVd
        have hin5 : ¬ ((own_N ia) < 0 ∨ cl4.slots.size ≤ ((own_N ia)).toNatClampNeg) := own_inb (X := ia) Sa4 (by omega) (Nat.lt_of_lt_of_le hlt hnd.1)
        have hat5 : cl4.slots[((own_N ia)).toNatClampNeg]? = some (.int (d ia)) := Has.at Ha4 hin5 (own_getV (X := ia) (by omega) (Nat.lt_of_lt_of_le hlt hnd.1))
        refine own_go (B := Ta.setTop (mkF m 43 (LS_RRRIIRIIu r0 r1 r2 (own_N f0) (own_N t0) r5 (own_N ia) (d ia)) [(.ref r0), (.int (d ia))])) (fun t k => ?_) ?_
        · refine XS.icmpNo Xa.here hx rfl (hb hby d7_31) rfl (tlt hc31_3).2.1 ?_
          refine XS.aloadN Xa.here hx rfl (hb hby d7_34) rfl rfl ?_
          show Steps p.tables e below (Ta.setTop (mkF m 35 (LS_RRRIIRIWu r0 r1 r2 (own_N f0) (own_N t0) r5 (own_N ia) wa7) [(.ref r1)])) _
          refine XS.iload Xa.here hx rfl (hb hby d7_35) rfl ?_
          refine Xa.iaload hx (j := (own_N ia)) (v := (.int (d ia))) Ar4.1 (State.isArrayOf_alike hZ.alike Ar4.2.1) Ar4.2.2 hin5 hat5 (g := (mkF m 37 (LS_RRRIIRIWu r0 r1 r2 (own_N f0) (own_N t0) r5 (own_N ia) wa7) [(.int (own_N ia)), (.ref r1)])) rfl rfl (hb hby d7_37) _ ?_
          refine XS.istore Xa.here hx rfl (hb hby d7_38) rfl (l' := (LS_RRRIIRIIu r0 r1 r2 (own_N f0) (own_N t0) r5 (own_N ia) (d ia))) (by rcases hwa7 with rfl | ⟨_, rfl⟩ <;> rfl) ?_
          show Steps p.tables e below (Ta.setTop (mkF m 40 (LS_RRRIIRIIu r0 r1 r2 (own_N f0) (own_N t0) r5 (own_N ia) (d ia)) [])) _
          refine XS.iload Xa.here hx rfl (hb hby d7_40) rfl ?_
          refine XS.aloadN Xa.here hx rfl (hb hby d7_42) rfl rfl ?_
          exact k
        obtain ⟨T6, X6, e6, st6⟩ := getF Xa hx hZ hown (host := "") (Or.inl (hw _ (List.mem_of_getElem? (i := 27) rfl))) Via.refl rfl aF_lastDoc (g := (mkF m 43 (LS_RRRIIRIIu r0 r1 r2 (own_N f0) (own_N t0) r5 (own_N ia) (d ia)) [(.ref r0), (.int (d ia))])) rfl rfl (hb hby d7_43)
        refine own_go (B := T6.setTop (mkF m 46 (LS_RRRIIRIIu r0 r1 r2 (own_N f0) (own_N t0) r5 (own_N ia) (d ia)) [(.int (own_ld d ia)), (.int (d ia))])) (fun t k => st6 _ k) ?_
        by_cases hc46_7 : (d ia) = (own_ld d ia)
        · refine own_go (B := T6.setTop (mkF m 158 (LS_RRRIIRIIu r0 r1 r2 (own_N f0) (own_N t0) r5 (own_N ia) (d ia)) [(.ref r0), (.ref r0)])) (fun t k => ?_) ?_
          · refine XS.icmpYes X6.here hx rfl (pc0 := 46) (pc' := 156) rfl (hb hby d7_46) rfl (teq hc46_7).1 (by decide) (by decide) ?_
            refine XS.aloadN X6.here hx rfl (hb hby d7_156) rfl rfl ?_
            show Steps p.tables e below (T6.setTop (mkF m 157 (LS_RRRIIRIIu r0 r1 r2 (own_N f0) (own_N t0) r5 (own_N ia) (d ia)) [(.ref r0)])) _
            refine XS.aloadN X6.here hx rfl (hb hby d7_157) rfl rfl ?_
            exact k
          obtain ⟨T8, X8, e8, st8⟩ := getF X6 hx hZ hown (host := "") (Or.inl (hw _ (List.mem_of_getElem? (i := 54) rfl))) Via.refl e6 aF_maxFreq (g := (mkF m 158 (LS_RRRIIRIIu r0 r1 r2 (own_N f0) (own_N t0) r5 (own_N ia) (d ia)) [(.ref r0), (.ref r0)])) rfl rfl (hb hby d7_158)
          refine own_go (B := T8.setTop (mkF m 161 (LS_RRRIIRIIu r0 r1 r2 (own_N f0) (own_N t0) r5 (own_N ia) (d ia)) [(.int mfa), (.ref r0)])) (fun t k => st8 _ k) ?_
          refine own_go (B := T8.setTop (mkF m 163 (LS_RRRIIRIIu r0 r1 r2 (own_N f0) (own_N t0) r5 (own_N ia) (d ia)) [(.ref r0), (.ref r0), (.int mfa), (.ref r0)])) (fun t k => ?_) ?_
          · refine XS.aloadN X8.here hx rfl (hb hby d7_161) rfl rfl ?_
            refine XS.dup X8.here hx rfl (hb hby d7_162) rfl rfl ?_
            exact k
          obtain ⟨T9, X9, e9, st9⟩ := getF X8 hx hZ hown (host := "") (Or.inl (hw _ (List.mem_of_getElem? (i := 48) rfl))) Via.refl e8 aF_lastFreq (g := (mkF m 163 (LS_RRRIIRIIu r0 r1 r2 (own_N f0) (own_N t0) r5 (own_N ia) (d ia)) [(.ref r0), (.ref r0), (.int mfa), (.ref r0)])) rfl rfl (hb hby d7_163)
          refine own_go (B := T9.setTop (mkF m 166 (LS_RRRIIRIIu r0 r1 r2 (own_N f0) (own_N t0) r5 (own_N ia) (d ia)) [(.int lfa), (.ref r0), (.int mfa), (.ref r0)])) (fun t k => st9 _ k) ?_
          refine own_go (B := T9.setTop (mkF m 169 (LS_RRRIIRIIu r0 r1 r2 (own_N f0) (own_N t0) r5 (own_N ia) (d ia)) [(.int (lfa + (1 : Int32))), (.ref r0), (.int (lfa + (1 : Int32))), (.int mfa), (.ref r0)])) (fun t k => ?_) ?_
          · refine XS.iconst X9.here hx rfl (hb hby d7_166) ?_
            refine XS.iadd X9.here hx rfl (hb hby d7_167) rfl ?_
            show Steps p.tables e below (T9.setTop (mkF m 168 (LS_RRRIIRIIu r0 r1 r2 (own_N f0) (own_N t0) r5 (own_N ia) (d ia)) [(.int (lfa + (1 : Int32))), (.ref r0), (.int mfa), (.ref r0)])) _
            refine XS.dupX1 X9.here hx rfl (hb hby d7_168) rfl rfl rfl ?_
            exact k
          obtain ⟨T10, h10, X10, e10, W10, st10⟩ := putF X9 hx hZ hown (host := "") (Or.inl (hw _ (List.mem_of_getElem? (i := 48) rfl))) Via.refl e9 aF_lastFreq aE (Or.inl (hw _ (List.mem_of_getElem? (i := 49) rfl))) (hw _ (List.mem_of_getElem? (i := 17) rfl)) (ty := .int) (by decide) rfl rfl (g := (mkF m 169 (LS_RRRIIRIIu r0 r1 r2 (own_N f0) (own_N t0) r5 (own_N ia) (d ia)) [(.int (lfa + (1 : Int32))), (.ref r0), (.int (lfa + (1 : Int32))), (.int mfa), (.ref r0)])) rfl rfl (hb hby d7_169)
          have N10 := Fr.snoc X10 Na g_r0
          have Fw10 := aF_lastFreq.same W10
          refine own_go (B := T10.setTop (mkF m 172 (LS_RRRIIRIIu r0 r1 r2 (own_N f0) (own_N t0) r5 (own_N ia) (d ia)) [(.int (lfa + (1 : Int32))), (.int mfa), (.ref r0)])) (fun t k => st10 _ k) ?_
          have aZ_v11 := Nat.le_trans aZ (Nat.le_of_eq W10.size.symm)
          obtain ⟨_, _, ⟨T12, L12, k12, n12⟩, -, X12, ⟨Lc12, hQ12, l12, y12, z12⟩, st12⟩ := Jvm.LawKit.callS X10 hx (y := (⟨"java/lang/Math", "max", "(II)I"⟩ : MethodName)) hown (mvT hZ (hw _ (List.mem_of_getElem? (i := 56) rfl))) (mvT hZ (hw _ (List.mem_of_getElem? (i := 57) rfl))) (mvT hZ (hw _ (List.mem_of_getElem? (i := 52) rfl))) (mvT hZ (hw _ (List.mem_of_getElem? (i := 58) rfl))) (by decide) (backOf (W := 1) (rmmax l Z a0 hw [] mfa (lfa + (1 : Int32)) h10 n0 aZ_v11) hZ (hw _ (List.mem_of_getElem? (i := 58) rfl)) (hw _ (List.mem_of_getElem? (i := 52) rfl)) (by decide) (by decide)) (g := (mkF m 172 (LS_RRRIIRIIu r0 r1 r2 (own_N f0) (own_N t0) r5 (own_N ia) (d ia)) [(.int (lfa + (1 : Int32))), (.int mfa), (.ref r0)])) rfl (by rw [hml]; rfl) (argsL := [(.int mfa), (.int (lfa + (1 : Int32)))]) (rest := [(.ref r0)]) (lenOf pd__II_I rfl) rfl (by show 2 * 0 + _ ≤ _; exact Nat.le_of_eq rfl) (hb hby d7_172) (fun _ _ => ⟨rfl, e10, (by decide : 0 + 0 ≤ _), (by decide : 0 + 0 ≤ _)⟩)
          dsimp only [Pt.U, Pt.locs, Pt.cells, Pt.slots] at X12 l12 y12 z12 st12 hQ12
          subst l12 y12 z12
          obtain ⟨rfl, N12q, e12⟩ := hQ12
          have N12 := Fr.app N10 N12q
          refine own_go (B := T12.setTop (mkF m 175 (LS_RRRIIRIIu r0 r1 r2 (own_N f0) (own_N t0) r5 (own_N ia) (d ia)) [(.int (if mfa < (lfa + (1 : Int32)) then (lfa + (1 : Int32)) else mfa)), (.ref r0)])) (fun t k => st12 _ k) ?_
          have aE_v13 := aE.wr W10
          have aF_maxFreq_v14 := aF_maxFreq.other W10 (Or.inr (slot_ne (Or.inl (hw _ (List.mem_of_getElem? (i := 55) rfl))) (Or.inl (hw _ (List.mem_of_getElem? (i := 49) rfl))) (by decide) (t := .int) (t' := .int) (by decide) (by decide)))
          obtain ⟨T15, h15, X15, e15, W15, st15⟩ := putF X12 hx hZ hown (host := "") (Or.inl (hw _ (List.mem_of_getElem? (i := 54) rfl))) Via.refl e12 aF_maxFreq_v14 aE_v13 (Or.inl (hw _ (List.mem_of_getElem? (i := 55) rfl))) (hw _ (List.mem_of_getElem? (i := 17) rfl)) (ty := .int) (by decide) rfl rfl (g := (mkF m 175 (LS_RRRIIRIIu r0 r1 r2 (own_N f0) (own_N t0) r5 (own_N ia) (d ia)) [(.int (if mfa < (lfa + (1 : Int32)) then (lfa + (1 : Int32)) else mfa)), (.ref r0)])) rfl rfl (hb hby d7_175)
          have N15 := Fr.snoc X15 N12 g_r0
          have Fw15 := aF_maxFreq_v14.same W15
          refine own_go (B := T15.setTop (mkF m 178 (LS_RRRIIRIIu r0 r1 r2 (own_N f0) (own_N t0) r5 (own_N ia) (d ia)) [])) (fun t k => st15 _ k) ?_
          refine own_go (B := T15.setTop (mkF m 27 (LS_RRRIIRIIu r0 r1 r2 (own_N f0) (own_N t0) r5 (own_N (ia + 1)) (d ia)) [])) (fun t k => ?_) ?_
          · refine XS.iinc X15.here hx rfl (hb hby d7_178) rfl (l' := (LS_RRRIIRIIu r0 r1 r2 (own_N f0) (own_N t0) r5 ((own_N ia) + (1 : Int32)) (d ia))) rfl ?_
            change Steps p.tables e below (T15.setTop (mkF m 181 (LS_RRRIIRIIu r0 r1 r2 (own_N f0) (own_N t0) r5 ((own_N ia) + (1 : Int32)) (d ia)) [])) _
            rw [show ((own_N ia) + (1 : Int32)) = (own_N (ia + 1)) from own_N1 (by omega)]
            refine XS.goto X15.here hx rfl (pc0 := 181) (pc' := 27) rfl (hb hby d7_181) (by decide) (by decide) ?_
            exact k
          have aZ_v16 := Nat.le_trans aZ_v11 (Nat.le_of_eq W15.size.symm)
          have aK_v17 := aK.wr W10 (Or.inl (List.mem_of_getElem? (i := 0) rfl))
          have aK_v18 := aK_v17.wr W15 (Or.inl (List.mem_of_getElem? (i := 0) rfl))
          have aE_v19 := aE_v13.wr W15
          have aF_entries_v20 := aF_entries.other W10 (Or.inr (slot_ne (Or.inl (hw _ (List.mem_of_getElem? (i := 26) rfl))) (Or.inl (hw _ (List.mem_of_getElem? (i := 49) rfl))) (by decide) (t := (.array .int)) (t' := .int) (by decide) (by decide)))
          have aF_entries_v21 := aF_entries_v20.other W15 (Or.inr (slot_ne (Or.inl (hw _ (List.mem_of_getElem? (i := 26) rfl))) (Or.inl (hw _ (List.mem_of_getElem? (i := 55) rfl))) (by decide) (t := (.array .int)) (t' := .int) (by decide) (by decide)))
          have aF_size_v22 := aF_size.other W10 (Or.inr (slot_ne (Or.inl (hw _ (List.mem_of_getElem? (i := 47) rfl))) (Or.inl (hw _ (List.mem_of_getElem? (i := 49) rfl))) (by decide) (t := .int) (t' := .int) (by decide) (by decide)))
          have aF_size_v23 := aF_size_v22.other W15 (Or.inr (slot_ne (Or.inl (hw _ (List.mem_of_getElem? (i := 47) rfl))) (Or.inl (hw _ (List.mem_of_getElem? (i := 55) rfl))) (by decide) (t := .int) (t' := .int) (by decide) (by decide)))
          have aF_lastDoc_v24 := aF_lastDoc.other W10 (Or.inr (slot_ne (Or.inl (hw _ (List.mem_of_getElem? (i := 28) rfl))) (Or.inl (hw _ (List.mem_of_getElem? (i := 49) rfl))) (by decide) (t := .int) (t' := .int) (by decide) (by decide)))
          have aF_lastDoc_v25 := aF_lastDoc_v24.other W15 (Or.inr (slot_ne (Or.inl (hw _ (List.mem_of_getElem? (i := 28) rfl))) (Or.inl (hw _ (List.mem_of_getElem? (i := 55) rfl))) (by decide) (t := .int) (t' := .int) (by decide) (by decide)))
          have Fw10_v26 := Fw10.other W15 (Or.inr (slot_ne (Or.inl (hw _ (List.mem_of_getElem? (i := 49) rfl))) (Or.inl (hw _ (List.mem_of_getElem? (i := 55) rfl))) (by decide) (t := .int) (t' := .int) (by decide) (by decide)))
          have aF_shortestLength_v27 := aF_shortestLength.other W10 (Or.inr (slot_ne (Or.inl (hw _ (List.mem_of_getElem? (i := 30) rfl))) (Or.inl (hw _ (List.mem_of_getElem? (i := 49) rfl))) (by decide) (t := .int) (t' := .int) (by decide) (by decide)))
          have aF_shortestLength_v28 := aF_shortestLength_v27.other W15 (Or.inr (slot_ne (Or.inl (hw _ (List.mem_of_getElem? (i := 30) rfl))) (Or.inl (hw _ (List.mem_of_getElem? (i := 55) rfl))) (by decide) (t := .int) (t' := .int) (by decide) (by decide)))
          have aF_positionCount_v29 := aF_positionCount.other W10 (Or.inr (slot_ne (Or.inl (hw _ (List.mem_of_getElem? (i := 45) rfl))) (Or.inl (hw _ (List.mem_of_getElem? (i := 49) rfl))) (by decide) (t := .int) (t' := .int) (by decide) (by decide)))
          have aF_positionCount_v30 := aF_positionCount_v29.other W15 (Or.inr (slot_ne (Or.inl (hw _ (List.mem_of_getElem? (i := 45) rfl))) (Or.inl (hw _ (List.mem_of_getElem? (i := 55) rfl))) (by decide) (t := .int) (t' := .int) (by decide) (by decide)))
          have aF_pages_v31 := aF_pages.other W10 (Or.inr (slot_ne (Or.inl (hw _ (List.mem_of_getElem? (i := 34) rfl))) (Or.inl (hw _ (List.mem_of_getElem? (i := 49) rfl))) (by decide) (t := (.array (.array .int))) (t' := .int) (by decide) (by decide)))
          have aF_pages_v32 := aF_pages_v31.other W15 (Or.inr (slot_ne (Or.inl (hw _ (List.mem_of_getElem? (i := 34) rfl))) (Or.inl (hw _ (List.mem_of_getElem? (i := 55) rfl))) (by decide) (t := (.array (.array .int))) (t' := .int) (by decide) (by decide)))
          have aF_page_v33 := aF_page.other W10 (Or.inr (slot_ne (Or.inl (hw _ (List.mem_of_getElem? (i := 36) rfl))) (Or.inl (hw _ (List.mem_of_getElem? (i := 49) rfl))) (by decide) (t := (.array .int)) (t' := .int) (by decide) (by decide)))
          have aF_page_v34 := aF_page_v33.other W15 (Or.inr (slot_ne (Or.inl (hw _ (List.mem_of_getElem? (i := 36) rfl))) (Or.inl (hw _ (List.mem_of_getElem? (i := 55) rfl))) (by decide) (t := (.array .int)) (t' := .int) (by decide) (by decide)))
          have ne36 : r0 ≠ ea := Exa.neArv aE aVe (hw _ (List.mem_of_getElem? (i := 17) rfl))
          have aVe_v35 := aVe.other W10 (Ne.symm ne36)
          have aVe_v37 := aVe_v35.other W15 (Ne.symm ne36)
          have ne39 : qo ≠ r0 := Exa.ne aEq aE (by decide)
          have aVq_v38 := aVq.other W10 ne39
          have aVq_v40 := aVq_v38.other W15 ne39
          have aEq_v41 := aEq.wr W10
          have aEq_v42 := aEq_v41.wr W15
          have ne44 : r0 ≠ pg := Exa.neArv aE aVg (hw _ (List.mem_of_getElem? (i := 17) rfl))
          have aVg_v43 := aVg.other W10 (Ne.symm ne44)
          have aVg_v45 := aVg_v43.other W15 (Ne.symm ne44)
          have ne47 : r0 ≠ r2 := Exa.neArv aE aVp (hw _ (List.mem_of_getElem? (i := 17) rfl))
          have aVp_v46 := aVp.other W10 (Ne.symm ne47)
          have aVp_v48 := aVp_v46.other W15 (Ne.symm ne47)
          have ne50 : r0 ≠ r1 := Exa.neArv aE aVd (hw _ (List.mem_of_getElem? (i := 17) rfl))
          have aVd_v49 := aVd.other W10 (Ne.symm ne50)
          have aVd_v51 := aVd_v49.other W15 (Ne.symm ne50)
          have ne53 : r0 ≠ r5 := Exa.neArv aE aVl (hw _ (List.mem_of_getElem? (i := 17) rfl))
          have aVl_v52 := aVl.other W10 (Ne.symm ne53)
          have aVl_v54 := aVl_v52.other W15 (Ne.symm ne53)
          exact IHa (ia + 1, 8, (.val (.int (d ia)))) _ _ (show t0 - (ia + 1) < t0 - ia by omega) (own_mono X15 (by simp) (by simp)) N15 (by rw [e15]; exact ⟨ea, kea, _, _, _, _, aZ_v16, aK_v18, aE_v19, aF_entries_v21, (by rw [own_sz_old hc46_7]; exact aF_size_v23), (by show Fld Z _ r0 _ _ _ (.int (d ia)); rw [hc46_7]; exact aF_lastDoc_v25), Fw10_v26, Fw15, aF_shortestLength_v28, aF_positionCount_v30, aF_pages_v32, aF_page_v34, aVe_v37, aVq_v40, aEq_v42, aVg_v45, aVp_v48, aVd_v51, aVl_v54, hia, g_ea, nea, nea1, nea2, Or.inl rfl, (by show 2 * own_sz d (ia + 1) ≤ 8; rw [own_sz_old hc46_7]; omega), (own_H_old hHa hc46_7), Nat.le_succ_of_le hfa, hlt, Or.inr ⟨_, rfl⟩⟩)
        · refine own_go (B := T6.setTop (mkF m 51 (LS_RRRIIRIIu r0 r1 r2 (own_N f0) (own_N t0) r5 (own_N ia) (d ia)) [(.ref r0), (.int (2 : Int32))])) (fun t k => ?_) ?_
          · refine XS.icmpNo X6.here hx rfl (hb hby d7_46) rfl (feq hc46_7).1 ?_
            refine XS.iconst X6.here hx rfl (hb hby d7_49) ?_
            show Steps p.tables e below (T6.setTop (mkF m 50 (LS_RRRIIRIIu r0 r1 r2 (own_N f0) (own_N t0) r5 (own_N ia) (d ia)) [(.int (2 : Int32))])) _
            refine XS.aloadN X6.here hx rfl (hb hby d7_50) rfl rfl ?_
            exact k
          obtain ⟨T55, X55, e55, st55⟩ := getF X6 hx hZ hown (host := "") (Or.inl (hw _ (List.mem_of_getElem? (i := 46) rfl))) Via.refl e6 aF_size (g := (mkF m 51 (LS_RRRIIRIIu r0 r1 r2 (own_N f0) (own_N t0) r5 (own_N ia) (d ia)) [(.ref r0), (.int (2 : Int32))])) rfl rfl (hb hby d7_51)
          refine own_go (B := T55.setTop (mkF m 54 (LS_RRRIIRIIu r0 r1 r2 (own_N f0) (own_N t0) r5 (own_N ia) (d ia)) [(.int (own_N (own_sz d ia))), (.int (2 : Int32))])) (fun t k => st55 _ k) ?_
          refine own_go (B := T55.setTop (mkF m 56 (LS_RRRIIRIIu r0 r1 r2 (own_N f0) (own_N t0) r5 (own_N ia) (d ia)) [(.ref r0), (.int (own_N (2 * own_sz d ia)))])) (fun t k => ?_) ?_
          · refine XS.imul X55.here hx rfl (hb hby d7_54) rfl ?_
            change Steps p.tables e below (T55.setTop (mkF m 55 (LS_RRRIIRIIu r0 r1 r2 (own_N f0) (own_N t0) r5 (own_N ia) (d ia)) [(.int ((2 : Int32) * (own_N (own_sz d ia))))])) _
            rw [show ((2 : Int32) * (own_N (own_sz d ia))) = (own_N (2 * own_sz d ia)) from own_N2 (by omega)]
            refine XS.aloadN X55.here hx rfl (hb hby d7_55) rfl rfl ?_
            exact k
          obtain ⟨T56, X56, e56, st56⟩ := getF X55 hx hZ hown (host := "") (Or.inl (hw _ (List.mem_of_getElem? (i := 25) rfl))) Via.refl e55 aF_entries (g := (mkF m 56 (LS_RRRIIRIIu r0 r1 r2 (own_N f0) (own_N t0) r5 (own_N ia) (d ia)) [(.ref r0), (.int (own_N (2 * own_sz d ia)))])) rfl rfl (hb hby d7_56)
          refine own_go (B := T56.setTop (mkF m 59 (LS_RRRIIRIIu r0 r1 r2 (own_N f0) (own_N t0) r5 (own_N ia) (d ia)) [(.ref ea), (.int (own_N (2 * own_sz d ia)))])) (fun t k => st56 _ k) ?_
          obtain ⟨cl57, Ar57, qa57, Sa57, Na57, Ha57, Ga57⟩ := id aVe
          refine own_go (B := T56.setTop (mkF m 60 (LS_RRRIIRIIu r0 r1 r2 (own_N f0) (own_N t0) r5 (own_N ia) (d ia)) [(.int (own_N 8)), (.int (own_N (2 * own_sz d ia)))])) (fun t k => ?_) ?_
          · refine X56.arraylength hx (by rw [e56]; exact Ar57.1) (State.isArrayOf_alike hZ.alike Ar57.2.1) (g := (mkF m 59 (LS_RRRIIRIIu r0 r1 r2 (own_N f0) (own_N t0) r5 (own_N ia) (d ia)) [(.ref ea), (.int (own_N (2 * own_sz d ia)))])) rfl rfl (hb hby d7_59) _ ?_
            rw [len_of Sa57 Na57]
            exact k
          by_cases hc60_58 : (own_N (2 * own_sz d ia)) = (own_N 8)
          · have h8 : 2 * own_sz d ia = 8 := own_eq (by omega) (by decide) hc60_58
            refine own_go (B := T56.setTop (mkF m 65 (LS_RRRIIRIIu r0 r1 r2 (own_N f0) (own_N t0) r5 (own_N ia) (d ia)) [(.ref r0), (.ref r0)])) (fun t k => ?_) ?_
            · refine XS.icmpNo X56.here hx rfl (hb hby d7_60) rfl (teq hc60_58).2 ?_
              refine XS.aloadN X56.here hx rfl (hb hby d7_63) rfl rfl ?_
              show Steps p.tables e below (T56.setTop (mkF m 64 (LS_RRRIIRIIu r0 r1 r2 (own_N f0) (own_N t0) r5 (own_N ia) (d ia)) [(.ref r0)])) _
              refine XS.aloadN X56.here hx rfl (hb hby d7_64) rfl rfl ?_
              exact k
            obtain ⟨T59, X59, e59, st59⟩ := getF X56 hx hZ hown (host := "") (Or.inl (hw _ (List.mem_of_getElem? (i := 25) rfl))) Via.refl e56 aF_entries (g := (mkF m 65 (LS_RRRIIRIIu r0 r1 r2 (own_N f0) (own_N t0) r5 (own_N ia) (d ia)) [(.ref r0), (.ref r0)])) rfl rfl (hb hby d7_65)
            refine own_go (B := T59.setTop (mkF m 68 (LS_RRRIIRIIu r0 r1 r2 (own_N f0) (own_N t0) r5 (own_N ia) (d ia)) [(.ref ea), (.ref r0)])) (fun t k => st59 _ k) ?_
            refine own_go (B := T59.setTop (mkF m 70 (LS_RRRIIRIIu r0 r1 r2 (own_N f0) (own_N t0) r5 (own_N ia) (d ia)) [(.ref r0), (.int (4 : Int32)), (.ref ea), (.ref r0)])) (fun t k => ?_) ?_
            · refine XS.iconst X59.here hx rfl (hb hby d7_68) ?_
              refine XS.aloadN X59.here hx rfl (hb hby d7_69) rfl rfl ?_
              exact k
            obtain ⟨T60, X60, e60, st60⟩ := getF X59 hx hZ hown (host := "") (Or.inl (hw _ (List.mem_of_getElem? (i := 46) rfl))) Via.refl e59 aF_size (g := (mkF m 70 (LS_RRRIIRIIu r0 r1 r2 (own_N f0) (own_N t0) r5 (own_N ia) (d ia)) [(.ref r0), (.int (4 : Int32)), (.ref ea), (.ref r0)])) rfl rfl (hb hby d7_70)
            refine own_go (B := T60.setTop (mkF m 73 (LS_RRRIIRIIu r0 r1 r2 (own_N f0) (own_N t0) r5 (own_N ia) (d ia)) [(.int (own_N (own_sz d ia))), (.int (4 : Int32)), (.ref ea), (.ref r0)])) (fun t k => st60 _ k) ?_
            refine own_go (B := T60.setTop (mkF m 74 (LS_RRRIIRIIu r0 r1 r2 (own_N f0) (own_N t0) r5 (own_N ia) (d ia)) [(.int (own_N 16)), (.ref ea), (.ref r0)])) (fun t k => ?_) ?_
            · refine XS.imul X60.here hx rfl (hb hby d7_73) rfl ?_
              change Steps p.tables e below (T60.setTop (mkF m 74 (LS_RRRIIRIIu r0 r1 r2 (own_N f0) (own_N t0) r5 (own_N ia) (d ia)) [(.int ((4 : Int32) * (own_N (own_sz d ia)))), (.ref ea), (.ref r0)])) _
              rw [show ((4 : Int32) * (own_N (own_sz d ia))) = (own_N 16) from own_N4 (by omega)]
              exact k
            obtain ⟨_, _, ⟨T61, L61, k61, n61⟩, -, X61, ⟨Lc61, hQ61, l61, y61, z61⟩, st61⟩ := Jvm.LawKit.callS X60 hx (y := (⟨"java/util/Arrays", "copyOf", "([II)[I"⟩ : MethodName)) hown (mvT hZ (hw _ (List.mem_of_getElem? (i := 73) rfl))) (mvT hZ (hw _ (List.mem_of_getElem? (i := 74) rfl))) (mvT hZ (hw _ (List.mem_of_getElem? (i := 75) rfl))) (mvT hZ (hw _ (List.mem_of_getElem? (i := 76) rfl))) (by decide) (backOf (W := 1) (rmcpy l Z a0 hw [] ea kea ena 8 16 Ta.heap n0 aZ aVe (by omega) (by omega)) hZ (hw _ (List.mem_of_getElem? (i := 76) rfl)) (hw _ (List.mem_of_getElem? (i := 75) rfl)) (by decide) (by decide)) (g := (mkF m 74 (LS_RRRIIRIIu r0 r1 r2 (own_N f0) (own_N t0) r5 (own_N ia) (d ia)) [(.int (own_N 16)), (.ref ea), (.ref r0)])) rfl (by rw [hml]; rfl) (argsL := [(.ref ea), (.int (own_N 16))]) (rest := [(.ref r0)]) (lenOf pd___II__I rfl) rfl (by show 2 * 0 + _ ≤ _; exact Nat.le_of_eq rfl) (hb hby d7_74) (fun _ _ => ⟨rfl, e60, (by decide : 0 + 1 ≤ _), (by decide : 0 + 32 ≤ _)⟩)
            dsimp only [Pt.U, Pt.locs, Pt.cells, Pt.slots] at X61 l61 y61 z61 st61 hQ61
            subst l61 y61 z61
            obtain ⟨o61, ko61, rfl, N61q, K61, hfr61, Eo61, Vo61⟩ := hQ61
            have N61 := Fr.app Na N61q
            have g_o61 : n0 ≤ o61 := Nat.le_trans aZ hfr61
            have sz_o61 : h0.size ≤ o61 := Nat.le_trans aK.1 hfr61
            refine own_go (B := T61.setTop (mkF m 77 (LS_RRRIIRIIu r0 r1 r2 (own_N f0) (own_N t0) r5 (own_N ia) (d ia)) [(.ref o61), (.ref r0)])) (fun t k => st61 _ k) ?_
            have aE_v62 := aE.keep K61
            have aF_entries_v63 := aF_entries.keep K61 nin0
            obtain ⟨T64, h64, X64, e64, W64, st64⟩ := putF X61 hx hZ hown (host := "") (Or.inl (hw _ (List.mem_of_getElem? (i := 25) rfl))) Via.refl rfl aF_entries_v63 aE_v62 (Or.inl (hw _ (List.mem_of_getElem? (i := 26) rfl))) (hw _ (List.mem_of_getElem? (i := 17) rfl)) (ty := (.array .int)) (by decide) rfl rfl (g := (mkF m 77 (LS_RRRIIRIIu r0 r1 r2 (own_N f0) (own_N t0) r5 (own_N ia) (d ia)) [(.ref o61), (.ref r0)])) rfl rfl (hb hby d7_77)
            have N64 := Fr.snoc X64 N61 g_r0
            have Fw64 := aF_entries_v63.same W64
            refine own_go (B := T64.setTop (mkF m 80 (LS_RRRIIRIIu r0 r1 r2 (own_N f0) (own_N t0) r5 (own_N ia) (d ia)) [])) (fun t k => st64 _ k) ?_
            have hX : 2 * own_sz d ia < 16 := by omega
            refine own_go (B := T64.setTop (mkF m 81 (LS_RRRIIRIIu r0 r1 r2 (own_N f0) (own_N t0) r5 (own_N ia) (d ia)) [(.ref r0)])) (fun t k => ?_) ?_
            · refine XS.aloadN X64.here hx rfl (hb hby d7_80) rfl rfl ?_
              exact k
            obtain ⟨T65, X65, e65, st65⟩ := getF X64 hx hZ hown (host := "") (Or.inl (hw _ (List.mem_of_getElem? (i := 25) rfl))) Via.refl e64 Fw64 (g := (mkF m 81 (LS_RRRIIRIIu r0 r1 r2 (own_N f0) (own_N t0) r5 (own_N ia) (d ia)) [(.ref r0)])) rfl rfl (hb hby d7_81)
            refine own_go (B := T65.setTop (mkF m 84 (LS_RRRIIRIIu r0 r1 r2 (own_N f0) (own_N t0) r5 (own_N ia) (d ia)) [(.ref o61)])) (fun t k => st65 _ k) ?_
            have aF_size_v66 := aF_size.keep K61 nin0
            have aF_size_v67 := aF_size_v66.other W64 (Or.inr (slot_ne (Or.inl (hw _ (List.mem_of_getElem? (i := 47) rfl))) (Or.inl (hw _ (List.mem_of_getElem? (i := 26) rfl))) (by decide) (t := .int) (t' := (.array .int)) (by decide) (by decide)))
            refine own_go (B := T65.setTop (mkF m 86 (LS_RRRIIRIIu r0 r1 r2 (own_N f0) (own_N t0) r5 (own_N ia) (d ia)) [(.ref r0), (.int (2 : Int32)), (.ref o61)])) (fun t k => ?_) ?_
            · refine XS.iconst X65.here hx rfl (hb hby d7_84) ?_
              refine XS.aloadN X65.here hx rfl (hb hby d7_85) rfl rfl ?_
              exact k
            obtain ⟨T68, X68, e68, st68⟩ := getF X65 hx hZ hown (host := "") (Or.inl (hw _ (List.mem_of_getElem? (i := 46) rfl))) Via.refl e65 aF_size_v67 (g := (mkF m 86 (LS_RRRIIRIIu r0 r1 r2 (own_N f0) (own_N t0) r5 (own_N ia) (d ia)) [(.ref r0), (.int (2 : Int32)), (.ref o61)])) rfl rfl (hb hby d7_86)
            refine own_go (B := T68.setTop (mkF m 89 (LS_RRRIIRIIu r0 r1 r2 (own_N f0) (own_N t0) r5 (own_N ia) (d ia)) [(.int (own_N (own_sz d ia))), (.int (2 : Int32)), (.ref o61)])) (fun t k => st68 _ k) ?_
            refine own_go (B := T68.setTop (mkF m 92 (LS_RRRIIRIIu r0 r1 r2 (own_N f0) (own_N t0) r5 (own_N ia) (d ia)) [(.int (d ia)), (.int (own_N (2 * own_sz d ia))), (.ref o61)])) (fun t k => ?_) ?_
            · refine XS.imul X68.here hx rfl (hb hby d7_89) rfl ?_
              change Steps p.tables e below (T68.setTop (mkF m 90 (LS_RRRIIRIIu r0 r1 r2 (own_N f0) (own_N t0) r5 (own_N ia) (d ia)) [(.int ((2 : Int32) * (own_N (own_sz d ia)))), (.ref o61)])) _
              rw [show ((2 : Int32) * (own_N (own_sz d ia))) = (own_N (2 * own_sz d ia)) from own_N2 (by omega)]
              refine XS.iload X68.here hx rfl (hb hby d7_90) rfl ?_
              exact k
            have ne71 : o61 ≠ r0 := Exa.ne Eo61 aE_v62 (by decide)
            have Vo61_v70 := Vo61.other W64 ne71
            obtain ⟨cl69, Ar69, qa69, Sa69, Na69, Ha69, Ga69⟩ := id Vo61_v70
            have hin72 : ¬ ((own_N (2 * own_sz d ia)) < 0 ∨ cl69.slots.size ≤ ((own_N (2 * own_sz d ia))).toNatClampNeg) := own_inb (X := (2 * own_sz d ia)) Sa69 (by decide) (by omega)
            obtain ⟨T72, h72, X72, e72, W72, st72⟩ := stI X68 hx hZ e68 Ar69 (j := (own_N (2 * own_sz d ia))) hin72 (g := (mkF m 92 (LS_RRRIIRIIu r0 r1 r2 (own_N f0) (own_N t0) r5 (own_N ia) (d ia)) [(.int (d ia)), (.int (own_N (2 * own_sz d ia))), (.ref o61)])) rfl rfl (hb hby d7_92)
            have N72 := Fr.snoc X72 N64 g_o61
            have V72 : Arv Z h72 o61 ko61 .int (own_N 16) (own_V (own_up (own_cp (fun _ => 0) ena 0 0 8) ((2 * own_sz d ia)) (d ia)) 16) (.int (0 : Int32)) := own_setV (X := (2 * own_sz d ia)) Ar69 qa69 Sa69 Na69 Ha69 Ga69 W72 (by decide) (by omega)
            refine own_go (B := T72.setTop (mkF m 93 (LS_RRRIIRIIu r0 r1 r2 (own_N f0) (own_N t0) r5 (own_N ia) (d ia)) [])) (fun t k => st72 _ k) ?_
            have Fw64_v73 := Fw64.other W72 (Or.inl (Ne.symm ne71))
            refine own_go (B := T72.setTop (mkF m 94 (LS_RRRIIRIIu r0 r1 r2 (own_N f0) (own_N t0) r5 (own_N ia) (d ia)) [(.ref r0)])) (fun t k => ?_) ?_
            · refine XS.aloadN X72.here hx rfl (hb hby d7_93) rfl rfl ?_
              exact k
            obtain ⟨T74, X74, e74, st74⟩ := getF X72 hx hZ hown (host := "") (Or.inl (hw _ (List.mem_of_getElem? (i := 25) rfl))) Via.refl e72 Fw64_v73 (g := (mkF m 94 (LS_RRRIIRIIu r0 r1 r2 (own_N f0) (own_N t0) r5 (own_N ia) (d ia)) [(.ref r0)])) rfl rfl (hb hby d7_94)
            refine own_go (B := T74.setTop (mkF m 97 (LS_RRRIIRIIu r0 r1 r2 (own_N f0) (own_N t0) r5 (own_N ia) (d ia)) [(.ref o61)])) (fun t k => st74 _ k) ?_
            have aF_size_v75 := aF_size_v67.other W72 (Or.inl (Ne.symm ne71))
            refine own_go (B := T74.setTop (mkF m 99 (LS_RRRIIRIIu r0 r1 r2 (own_N f0) (own_N t0) r5 (own_N ia) (d ia)) [(.ref r0), (.int (2 : Int32)), (.ref o61)])) (fun t k => ?_) ?_
            · refine XS.iconst X74.here hx rfl (hb hby d7_97) ?_
              refine XS.aloadN X74.here hx rfl (hb hby d7_98) rfl rfl ?_
              exact k
            obtain ⟨T76, X76, e76, st76⟩ := getF X74 hx hZ hown (host := "") (Or.inl (hw _ (List.mem_of_getElem? (i := 46) rfl))) Via.refl e74 aF_size_v75 (g := (mkF m 99 (LS_RRRIIRIIu r0 r1 r2 (own_N f0) (own_N t0) r5 (own_N ia) (d ia)) [(.ref r0), (.int (2 : Int32)), (.ref o61)])) rfl rfl (hb hby d7_99)
            refine own_go (B := T76.setTop (mkF m 102 (LS_RRRIIRIIu r0 r1 r2 (own_N f0) (own_N t0) r5 (own_N ia) (d ia)) [(.int (own_N (own_sz d ia))), (.int (2 : Int32)), (.ref o61)])) (fun t k => st76 _ k) ?_
            have aF_positionCount_v77 := aF_positionCount.keep K61 nin0
            have aF_positionCount_v78 := aF_positionCount_v77.other W64 (Or.inr (slot_ne (Or.inl (hw _ (List.mem_of_getElem? (i := 45) rfl))) (Or.inl (hw _ (List.mem_of_getElem? (i := 26) rfl))) (by decide) (t := .int) (t' := (.array .int)) (by decide) (by decide)))
            have aF_positionCount_v79 := aF_positionCount_v78.other W72 (Or.inl (Ne.symm ne71))
            refine own_go (B := T76.setTop (mkF m 106 (LS_RRRIIRIIu r0 r1 r2 (own_N f0) (own_N t0) r5 (own_N ia) (d ia)) [(.ref r0), (.int (own_N (2 * own_sz d ia + 1))), (.ref o61)])) (fun t k => ?_) ?_
            · refine XS.imul X76.here hx rfl (hb hby d7_102) rfl ?_
              change Steps p.tables e below (T76.setTop (mkF m 103 (LS_RRRIIRIIu r0 r1 r2 (own_N f0) (own_N t0) r5 (own_N ia) (d ia)) [(.int ((2 : Int32) * (own_N (own_sz d ia)))), (.ref o61)])) _
              rw [show ((2 : Int32) * (own_N (own_sz d ia))) = (own_N (2 * own_sz d ia)) from own_N2 (by omega)]
              refine XS.iconst X76.here hx rfl (hb hby d7_103) ?_
              show Steps p.tables e below (T76.setTop (mkF m 104 (LS_RRRIIRIIu r0 r1 r2 (own_N f0) (own_N t0) r5 (own_N ia) (d ia)) [(.int (1 : Int32)), (.int (own_N (2 * own_sz d ia))), (.ref o61)])) _
              refine XS.iadd X76.here hx rfl (hb hby d7_104) rfl ?_
              change Steps p.tables e below (T76.setTop (mkF m 105 (LS_RRRIIRIIu r0 r1 r2 (own_N f0) (own_N t0) r5 (own_N ia) (d ia)) [(.int ((own_N (2 * own_sz d ia)) + (1 : Int32))), (.ref o61)])) _
              rw [show ((own_N (2 * own_sz d ia)) + (1 : Int32)) = (own_N (2 * own_sz d ia + 1)) from own_N1 (by omega)]
              refine XS.aloadN X76.here hx rfl (hb hby d7_105) rfl rfl ?_
              exact k
            obtain ⟨T80, X80, e80, st80⟩ := getF X76 hx hZ hown (host := "") (Or.inl (hw _ (List.mem_of_getElem? (i := 44) rfl))) Via.refl e76 aF_positionCount_v79 (g := (mkF m 106 (LS_RRRIIRIIu r0 r1 r2 (own_N f0) (own_N t0) r5 (own_N ia) (d ia)) [(.ref r0), (.int (own_N (2 * own_sz d ia + 1))), (.ref o61)])) rfl rfl (hb hby d7_106)
            refine own_go (B := T80.setTop (mkF m 109 (LS_RRRIIRIIu r0 r1 r2 (own_N f0) (own_N t0) r5 (own_N ia) (d ia)) [(.int (own_N f0)), (.int (own_N (2 * own_sz d ia + 1))), (.ref o61)])) (fun t k => st80 _ k) ?_
            refine own_go (B := T80.setTop (mkF m 114 (LS_RRRIIRIIu r0 r1 r2 (own_N f0) (own_N t0) r5 (own_N ia) (d ia)) [(.int (own_N ia)), (.int (own_N (2 * own_sz d ia + 1))), (.ref o61)])) (fun t k => ?_) ?_
            · refine XS.iload X80.here hx rfl (hb hby d7_109) rfl ?_
              refine XS.iadd X80.here hx rfl (hb hby d7_111) rfl ?_
              change Steps p.tables e below (T80.setTop (mkF m 112 (LS_RRRIIRIIu r0 r1 r2 (own_N f0) (own_N t0) r5 (own_N ia) (d ia)) [(.int ((own_N f0) + (own_N ia))), (.int (own_N (2 * own_sz d ia + 1))), (.ref o61)])) _
              rw [show ((own_N f0) + (own_N ia)) = (own_N (f0 + ia)) from own_Nadd (by omega)]
              show Steps p.tables e below (T80.setTop (mkF m 112 (LS_RRRIIRIIu r0 r1 r2 (own_N f0) (own_N t0) r5 (own_N ia) (d ia)) [(.int (own_N (f0 + ia))), (.int (own_N (2 * own_sz d ia + 1))), (.ref o61)])) _
              refine XS.iloadN X80.here hx rfl (hb hby d7_112) rfl ?_
              refine XS.isub X80.here hx rfl (hb hby d7_113) rfl ?_
              change Steps p.tables e below (T80.setTop (mkF m 114 (LS_RRRIIRIIu r0 r1 r2 (own_N f0) (own_N t0) r5 (own_N ia) (d ia)) [(.int ((own_N (f0 + ia)) - (own_N f0))), (.int (own_N (2 * own_sz d ia + 1))), (.ref o61)])) _
              rw [show ((own_N (f0 + ia)) - (own_N f0)) = (own_N ia) from (own_Nsub (by omega) (by omega)).trans (congrArg own_N (by omega))]
              exact k
            obtain ⟨cl81, Ar81, qa81, Sa81, Na81, Ha81, Ga81⟩ := id V72
            have hin82 : ¬ ((own_N (2 * own_sz d ia + 1)) < 0 ∨ cl81.slots.size ≤ ((own_N (2 * own_sz d ia + 1))).toNatClampNeg) := own_inb (X := (2 * own_sz d ia + 1)) Sa81 (by decide) (by omega)
            obtain ⟨T82, h82, X82, e82, W82, st82⟩ := stI X80 hx hZ e80 Ar81 (j := (own_N (2 * own_sz d ia + 1))) hin82 (g := (mkF m 114 (LS_RRRIIRIIu r0 r1 r2 (own_N f0) (own_N t0) r5 (own_N ia) (d ia)) [(.int (own_N ia)), (.int (own_N (2 * own_sz d ia + 1))), (.ref o61)])) rfl rfl (hb hby d7_114)
            have N82 := Fr.snoc X82 N72 g_o61
            have V82 : Arv Z h82 o61 ko61 .int (own_N 16) (own_V (own_up (own_up (own_cp (fun _ => 0) ena 0 0 8) ((2 * own_sz d ia)) (d ia)) ((2 * own_sz d ia + 1)) (own_N ia)) 16) (.int (0 : Int32)) := own_setV (X := (2 * own_sz d ia + 1)) Ar81 qa81 Sa81 Na81 Ha81 Ga81 W82 (by decide) (by omega)
            refine own_go (B := T82.setTop (mkF m 115 (LS_RRRIIRIIu r0 r1 r2 (own_N f0) (own_N t0) r5 (own_N ia) (d ia)) [])) (fun t k => st82 _ k) ?_
            have aF_size_v83 := aF_size_v75.other W82 (Or.inl (Ne.symm ne71))
            refine own_go (B := T82.setTop (mkF m 117 (LS_RRRIIRIIu r0 r1 r2 (own_N f0) (own_N t0) r5 (own_N ia) (d ia)) [(.ref r0), (.ref r0)])) (fun t k => ?_) ?_
            · refine XS.aloadN X82.here hx rfl (hb hby d7_115) rfl rfl ?_
              refine XS.dup X82.here hx rfl (hb hby d7_116) rfl rfl ?_
              exact k
            obtain ⟨T84, X84, e84, st84⟩ := getF X82 hx hZ hown (host := "") (Or.inl (hw _ (List.mem_of_getElem? (i := 46) rfl))) Via.refl e82 aF_size_v83 (g := (mkF m 117 (LS_RRRIIRIIu r0 r1 r2 (own_N f0) (own_N t0) r5 (own_N ia) (d ia)) [(.ref r0), (.ref r0)])) rfl rfl (hb hby d7_117)
            refine own_go (B := T84.setTop (mkF m 120 (LS_RRRIIRIIu r0 r1 r2 (own_N f0) (own_N t0) r5 (own_N ia) (d ia)) [(.int (own_N (own_sz d ia))), (.ref r0)])) (fun t k => st84 _ k) ?_
            refine own_go (B := T84.setTop (mkF m 122 (LS_RRRIIRIIu r0 r1 r2 (own_N f0) (own_N t0) r5 (own_N ia) (d ia)) [(.int (own_N (own_sz d ia + 1))), (.ref r0)])) (fun t k => ?_) ?_
            · refine XS.iconst X84.here hx rfl (hb hby d7_120) ?_
              refine XS.iadd X84.here hx rfl (hb hby d7_121) rfl ?_
              change Steps p.tables e below (T84.setTop (mkF m 122 (LS_RRRIIRIIu r0 r1 r2 (own_N f0) (own_N t0) r5 (own_N ia) (d ia)) [(.int ((own_N (own_sz d ia)) + (1 : Int32))), (.ref r0)])) _
              rw [show ((own_N (own_sz d ia)) + (1 : Int32)) = (own_N (own_sz d ia + 1)) from own_N1 (by omega)]
              exact k
            have aE_v85 := aE_v62.wr W64
            have aE_v86 := aE_v85.wr W72
            have aE_v87 := aE_v86.wr W82
            obtain ⟨T88, h88, X88, e88, W88, st88⟩ := putF X84 hx hZ hown (host := "") (Or.inl (hw _ (List.mem_of_getElem? (i := 46) rfl))) Via.refl e84 aF_size_v83 aE_v87 (Or.inl (hw _ (List.mem_of_getElem? (i := 47) rfl))) (hw _ (List.mem_of_getElem? (i := 17) rfl)) (ty := .int) (by decide) rfl rfl (g := (mkF m 122 (LS_RRRIIRIIu r0 r1 r2 (own_N f0) (own_N t0) r5 (own_N ia) (d ia)) [(.int (own_N (own_sz d ia + 1))), (.ref r0)])) rfl rfl (hb hby d7_122)
            have N88 := Fr.snoc X88 N82 g_r0
            have Fw88 := aF_size_v83.same W88
            refine own_go (B := T88.setTop (mkF m 125 (LS_RRRIIRIIu r0 r1 r2 (own_N f0) (own_N t0) r5 (own_N ia) (d ia)) [])) (fun t k => st88 _ k) ?_
            refine own_go (B := T88.setTop (mkF m 128 (LS_RRRIIRIIu r0 r1 r2 (own_N f0) (own_N t0) r5 (own_N ia) (d ia)) [(.int (d ia)), (.ref r0)])) (fun t k => ?_) ?_
            · refine XS.aloadN X88.here hx rfl (hb hby d7_125) rfl rfl ?_
              refine XS.iload X88.here hx rfl (hb hby d7_126) rfl ?_
              exact k
            have aE_v89 := aE_v87.wr W88
            have aF_lastDoc_v90 := aF_lastDoc.keep K61 nin0
            have aF_lastDoc_v91 := aF_lastDoc_v90.other W64 (Or.inr (slot_ne (Or.inl (hw _ (List.mem_of_getElem? (i := 28) rfl))) (Or.inl (hw _ (List.mem_of_getElem? (i := 26) rfl))) (by decide) (t := .int) (t' := (.array .int)) (by decide) (by decide)))
            have aF_lastDoc_v92 := aF_lastDoc_v91.other W72 (Or.inl (Ne.symm ne71))
            have aF_lastDoc_v93 := aF_lastDoc_v92.other W82 (Or.inl (Ne.symm ne71))
            have aF_lastDoc_v94 := aF_lastDoc_v93.other W88 (Or.inr (slot_ne (Or.inl (hw _ (List.mem_of_getElem? (i := 28) rfl))) (Or.inl (hw _ (List.mem_of_getElem? (i := 47) rfl))) (by decide) (t := .int) (t' := .int) (by decide) (by decide)))
            obtain ⟨T95, h95, X95, e95, W95, st95⟩ := putF X88 hx hZ hown (host := "") (Or.inl (hw _ (List.mem_of_getElem? (i := 27) rfl))) Via.refl e88 aF_lastDoc_v94 aE_v89 (Or.inl (hw _ (List.mem_of_getElem? (i := 28) rfl))) (hw _ (List.mem_of_getElem? (i := 17) rfl)) (ty := .int) (by decide) rfl rfl (g := (mkF m 128 (LS_RRRIIRIIu r0 r1 r2 (own_N f0) (own_N t0) r5 (own_N ia) (d ia)) [(.int (d ia)), (.ref r0)])) rfl rfl (hb hby d7_128)
            have N95 := Fr.snoc X95 N88 g_r0
            have Fw95 := aF_lastDoc_v94.same W95
            refine own_go (B := T95.setTop (mkF m 131 (LS_RRRIIRIIu r0 r1 r2 (own_N f0) (own_N t0) r5 (own_N ia) (d ia)) [])) (fun t k => st95 _ k) ?_
            refine own_go (B := T95.setTop (mkF m 133 (LS_RRRIIRIIu r0 r1 r2 (own_N f0) (own_N t0) r5 (own_N ia) (d ia)) [(.int (0 : Int32)), (.ref r0)])) (fun t k => ?_) ?_
            · refine XS.aloadN X95.here hx rfl (hb hby d7_131) rfl rfl ?_
              refine XS.iconst X95.here hx rfl (hb hby d7_132) ?_
              exact k
            have aE_v96 := aE_v89.wr W95
            have aF_lastFreq_v97 := aF_lastFreq.keep K61 nin0
            have aF_lastFreq_v98 := aF_lastFreq_v97.other W64 (Or.inr (slot_ne (Or.inl (hw _ (List.mem_of_getElem? (i := 49) rfl))) (Or.inl (hw _ (List.mem_of_getElem? (i := 26) rfl))) (by decide) (t := .int) (t' := (.array .int)) (by decide) (by decide)))
            have aF_lastFreq_v99 := aF_lastFreq_v98.other W72 (Or.inl (Ne.symm ne71))
            have aF_lastFreq_v100 := aF_lastFreq_v99.other W82 (Or.inl (Ne.symm ne71))
            have aF_lastFreq_v101 := aF_lastFreq_v100.other W88 (Or.inr (slot_ne (Or.inl (hw _ (List.mem_of_getElem? (i := 49) rfl))) (Or.inl (hw _ (List.mem_of_getElem? (i := 47) rfl))) (by decide) (t := .int) (t' := .int) (by decide) (by decide)))
            have aF_lastFreq_v102 := aF_lastFreq_v101.other W95 (Or.inr (slot_ne (Or.inl (hw _ (List.mem_of_getElem? (i := 49) rfl))) (Or.inl (hw _ (List.mem_of_getElem? (i := 28) rfl))) (by decide) (t := .int) (t' := .int) (by decide) (by decide)))
            obtain ⟨T103, h103, X103, e103, W103, st103⟩ := putF X95 hx hZ hown (host := "") (Or.inl (hw _ (List.mem_of_getElem? (i := 48) rfl))) Via.refl e95 aF_lastFreq_v102 aE_v96 (Or.inl (hw _ (List.mem_of_getElem? (i := 49) rfl))) (hw _ (List.mem_of_getElem? (i := 17) rfl)) (ty := .int) (by decide) rfl rfl (g := (mkF m 133 (LS_RRRIIRIIu r0 r1 r2 (own_N f0) (own_N t0) r5 (own_N ia) (d ia)) [(.int (0 : Int32)), (.ref r0)])) rfl rfl (hb hby d7_133)
            have N103 := Fr.snoc X103 N95 g_r0
            have Fw103 := aF_lastFreq_v102.same W103
            refine own_go (B := T103.setTop (mkF m 136 (LS_RRRIIRIIu r0 r1 r2 (own_N f0) (own_N t0) r5 (own_N ia) (d ia)) [])) (fun t k => st103 _ k) ?_
            have aF_shortestLength_v104 := aF_shortestLength.keep K61 nin0
            have aF_shortestLength_v105 := aF_shortestLength_v104.other W64 (Or.inr (slot_ne (Or.inl (hw _ (List.mem_of_getElem? (i := 30) rfl))) (Or.inl (hw _ (List.mem_of_getElem? (i := 26) rfl))) (by decide) (t := .int) (t' := (.array .int)) (by decide) (by decide)))
            have aF_shortestLength_v106 := aF_shortestLength_v105.other W72 (Or.inl (Ne.symm ne71))
            have aF_shortestLength_v107 := aF_shortestLength_v106.other W82 (Or.inl (Ne.symm ne71))
            have aF_shortestLength_v108 := aF_shortestLength_v107.other W88 (Or.inr (slot_ne (Or.inl (hw _ (List.mem_of_getElem? (i := 30) rfl))) (Or.inl (hw _ (List.mem_of_getElem? (i := 47) rfl))) (by decide) (t := .int) (t' := .int) (by decide) (by decide)))
            have aF_shortestLength_v109 := aF_shortestLength_v108.other W95 (Or.inr (slot_ne (Or.inl (hw _ (List.mem_of_getElem? (i := 30) rfl))) (Or.inl (hw _ (List.mem_of_getElem? (i := 28) rfl))) (by decide) (t := .int) (t' := .int) (by decide) (by decide)))
            have aF_shortestLength_v110 := aF_shortestLength_v109.other W103 (Or.inr (slot_ne (Or.inl (hw _ (List.mem_of_getElem? (i := 30) rfl))) (Or.inl (hw _ (List.mem_of_getElem? (i := 49) rfl))) (by decide) (t := .int) (t' := .int) (by decide) (by decide)))
            refine own_go (B := T103.setTop (mkF m 138 (LS_RRRIIRIIu r0 r1 r2 (own_N f0) (own_N t0) r5 (own_N ia) (d ia)) [(.ref r0), (.ref r0)])) (fun t k => ?_) ?_
            · refine XS.aloadN X103.here hx rfl (hb hby d7_136) rfl rfl ?_
              refine XS.aloadN X103.here hx rfl (hb hby d7_137) rfl rfl ?_
              exact k
            obtain ⟨T111, X111, e111, st111⟩ := getF X103 hx hZ hown (host := "") (Or.inl (hw _ (List.mem_of_getElem? (i := 29) rfl))) Via.refl e103 aF_shortestLength_v110 (g := (mkF m 138 (LS_RRRIIRIIu r0 r1 r2 (own_N f0) (own_N t0) r5 (own_N ia) (d ia)) [(.ref r0), (.ref r0)])) rfl rfl (hb hby d7_138)
            refine own_go (B := T111.setTop (mkF m 141 (LS_RRRIIRIIu r0 r1 r2 (own_N f0) (own_N t0) r5 (own_N ia) (d ia)) [(.int sla), (.ref r0)])) (fun t k => st111 _ k) ?_
            have aVl_v113 := aVl.keep K61 nin0
            have ne115 : r0 ≠ r5 := Exa.neArv aE_v62 aVl_v113 (hw _ (List.mem_of_getElem? (i := 17) rfl))
            have aVl_v114 := aVl_v113.other W64 (Ne.symm ne115)
            have ne117 : r5 ≠ o61 := own_neT aVl_v113 Vo61 (by decide)
            have aVl_v116 := aVl_v114.other W72 ne117
            have aVl_v118 := aVl_v116.other W82 ne117
            have aVl_v119 := aVl_v118.other W88 (Ne.symm ne115)
            have aVl_v120 := aVl_v119.other W95 (Ne.symm ne115)
            have aVl_v121 := aVl_v120.other W103 (Ne.symm ne115)
            obtain ⟨cl112, Ar112, qa112, Sa112, Na112, Ha112, Ga112⟩ := id aVl_v121
            have hin122 : ¬ ((d ia) < 0 ∨ cl112.slots.size ≤ ((d ia)).toNatClampNeg) := inb_of Sa112 (hdl ia hlt)
            have hat122 : cl112.slots[((d ia)).toNatClampNeg]? = some (.int (0 : Int32)) := Has.at Ha112 hin122 rfl
            refine own_go (B := T111.setTop (mkF m 150 (LS_RRRIIRIIu r0 r1 r2 (own_N f0) (own_N t0) r5 (own_N ia) (d ia)) [(.int ((0 : Int32) &&& (255 : Int32))), (.int sla), (.ref r0)])) (fun t k => ?_) ?_
            · refine XS.aload X111.here hx rfl (hb hby d7_141) rfl rfl ?_
              refine XS.iload X111.here hx rfl (hb hby d7_143) rfl ?_
              show Steps p.tables e below (T111.setTop (mkF m 145 (LS_RRRIIRIIu r0 r1 r2 (own_N f0) (own_N t0) r5 (own_N ia) (d ia)) [(.int (d ia)), (.ref r5), (.int sla), (.ref r0)])) _
              refine X111.baloadBytes hx (j := (d ia)) (v := (.int (0 : Int32))) (by rw [e111]; exact Ar112.1) (State.isArrayOf_alike hZ.alike Ar112.2.1) Ar112.2.2 hin122 hat122 (g := (mkF m 145 (LS_RRRIIRIIu r0 r1 r2 (own_N f0) (own_N t0) r5 (own_N ia) (d ia)) [(.int (d ia)), (.ref r5), (.int sla), (.ref r0)])) rfl rfl (hb hby d7_145) _ ?_
              refine XS.sipush X111.here hx rfl (hb hby d7_146) ?_
              refine XS.iand X111.here hx rfl (hb hby d7_149) rfl ?_
              exact k
            have aZ_v123 := Nat.le_trans aZ K61.1
            have aZ_v124 := Nat.le_trans aZ_v123 (Nat.le_of_eq W64.size.symm)
            have aZ_v125 := Nat.le_trans aZ_v124 (Nat.le_of_eq W72.size.symm)
            have aZ_v126 := Nat.le_trans aZ_v125 (Nat.le_of_eq W82.size.symm)
            have aZ_v127 := Nat.le_trans aZ_v126 (Nat.le_of_eq W88.size.symm)
            have aZ_v128 := Nat.le_trans aZ_v127 (Nat.le_of_eq W95.size.symm)
            have aZ_v129 := Nat.le_trans aZ_v128 (Nat.le_of_eq W103.size.symm)
            obtain ⟨_, _, ⟨T130, L130, k130, n130⟩, -, X130, ⟨Lc130, hQ130, l130, y130, z130⟩, st130⟩ := Jvm.LawKit.callS X111 hx (y := (⟨"java/lang/Math", "min", "(II)I"⟩ : MethodName)) hown (mvT hZ (hw _ (List.mem_of_getElem? (i := 50) rfl))) (mvT hZ (hw _ (List.mem_of_getElem? (i := 51) rfl))) (mvT hZ (hw _ (List.mem_of_getElem? (i := 52) rfl))) (mvT hZ (hw _ (List.mem_of_getElem? (i := 53) rfl))) (by decide) (backOf (W := 1) (rmmin l Z a0 hw [] sla ((0 : Int32) &&& (255 : Int32)) h103 n0 aZ_v129) hZ (hw _ (List.mem_of_getElem? (i := 53) rfl)) (hw _ (List.mem_of_getElem? (i := 52) rfl)) (by decide) (by decide)) (g := (mkF m 150 (LS_RRRIIRIIu r0 r1 r2 (own_N f0) (own_N t0) r5 (own_N ia) (d ia)) [(.int ((0 : Int32) &&& (255 : Int32))), (.int sla), (.ref r0)])) rfl (by rw [hml]; rfl) (argsL := [(.int sla), (.int ((0 : Int32) &&& (255 : Int32)))]) (rest := [(.ref r0)]) (lenOf pd__II_I rfl) rfl (by show 2 * 0 + _ ≤ _; exact Nat.le_of_eq rfl) (hb hby d7_150) (fun _ _ => ⟨rfl, e111, (by decide : 1 + 0 ≤ _), (by decide : 32 + 0 ≤ _)⟩)
            dsimp only [Pt.U, Pt.locs, Pt.cells, Pt.slots] at X130 l130 y130 z130 st130 hQ130
            subst l130 y130 z130
            obtain ⟨rfl, N130q, e130⟩ := hQ130
            have N130 := Fr.app N103 N130q
            refine own_go (B := T130.setTop (mkF m 153 (LS_RRRIIRIIu r0 r1 r2 (own_N f0) (own_N t0) r5 (own_N ia) (d ia)) [(.int (if ((0 : Int32) &&& (255 : Int32)) < sla then ((0 : Int32) &&& (255 : Int32)) else sla)), (.ref r0)])) (fun t k => st130 _ k) ?_
            have aE_v131 := aE_v96.wr W103
            obtain ⟨T132, h132, X132, e132, W132, st132⟩ := putF X130 hx hZ hown (host := "") (Or.inl (hw _ (List.mem_of_getElem? (i := 29) rfl))) Via.refl e130 aF_shortestLength_v110 aE_v131 (Or.inl (hw _ (List.mem_of_getElem? (i := 30) rfl))) (hw _ (List.mem_of_getElem? (i := 17) rfl)) (ty := .int) (by decide) rfl rfl (g := (mkF m 153 (LS_RRRIIRIIu r0 r1 r2 (own_N f0) (own_N t0) r5 (own_N ia) (d ia)) [(.int (if ((0 : Int32) &&& (255 : Int32)) < sla then ((0 : Int32) &&& (255 : Int32)) else sla)), (.ref r0)])) rfl rfl (hb hby d7_153)
            have N132 := Fr.snoc X132 N130 g_r0
            have Fw132 := aF_shortestLength_v110.same W132
            refine own_go (B := T132.setTop (mkF m 156 (LS_RRRIIRIIu r0 r1 r2 (own_N f0) (own_N t0) r5 (own_N ia) (d ia)) [])) (fun t k => st132 _ k) ?_
            have aF_maxFreq_v133 := aF_maxFreq.keep K61 nin0
            have aF_maxFreq_v134 := aF_maxFreq_v133.other W64 (Or.inr (slot_ne (Or.inl (hw _ (List.mem_of_getElem? (i := 55) rfl))) (Or.inl (hw _ (List.mem_of_getElem? (i := 26) rfl))) (by decide) (t := .int) (t' := (.array .int)) (by decide) (by decide)))
            have aF_maxFreq_v135 := aF_maxFreq_v134.other W72 (Or.inl (Ne.symm ne71))
            have aF_maxFreq_v136 := aF_maxFreq_v135.other W82 (Or.inl (Ne.symm ne71))
            have aF_maxFreq_v137 := aF_maxFreq_v136.other W88 (Or.inr (slot_ne (Or.inl (hw _ (List.mem_of_getElem? (i := 55) rfl))) (Or.inl (hw _ (List.mem_of_getElem? (i := 47) rfl))) (by decide) (t := .int) (t' := .int) (by decide) (by decide)))
            have aF_maxFreq_v138 := aF_maxFreq_v137.other W95 (Or.inr (slot_ne (Or.inl (hw _ (List.mem_of_getElem? (i := 55) rfl))) (Or.inl (hw _ (List.mem_of_getElem? (i := 28) rfl))) (by decide) (t := .int) (t' := .int) (by decide) (by decide)))
            have aF_maxFreq_v139 := aF_maxFreq_v138.other W103 (Or.inr (slot_ne (Or.inl (hw _ (List.mem_of_getElem? (i := 55) rfl))) (Or.inl (hw _ (List.mem_of_getElem? (i := 49) rfl))) (by decide) (t := .int) (t' := .int) (by decide) (by decide)))
            have aF_maxFreq_v140 := aF_maxFreq_v139.other W132 (Or.inr (slot_ne (Or.inl (hw _ (List.mem_of_getElem? (i := 55) rfl))) (Or.inl (hw _ (List.mem_of_getElem? (i := 30) rfl))) (by decide) (t := .int) (t' := .int) (by decide) (by decide)))
            refine own_go (B := T132.setTop (mkF m 158 (LS_RRRIIRIIu r0 r1 r2 (own_N f0) (own_N t0) r5 (own_N ia) (d ia)) [(.ref r0), (.ref r0)])) (fun t k => ?_) ?_
            · refine XS.aloadN X132.here hx rfl (hb hby d7_156) rfl rfl ?_
              refine XS.aloadN X132.here hx rfl (hb hby d7_157) rfl rfl ?_
              exact k
            obtain ⟨T141, X141, e141, st141⟩ := getF X132 hx hZ hown (host := "") (Or.inl (hw _ (List.mem_of_getElem? (i := 54) rfl))) Via.refl e132 aF_maxFreq_v140 (g := (mkF m 158 (LS_RRRIIRIIu r0 r1 r2 (own_N f0) (own_N t0) r5 (own_N ia) (d ia)) [(.ref r0), (.ref r0)])) rfl rfl (hb hby d7_158)
            refine own_go (B := T141.setTop (mkF m 161 (LS_RRRIIRIIu r0 r1 r2 (own_N f0) (own_N t0) r5 (own_N ia) (d ia)) [(.int mfa), (.ref r0)])) (fun t k => st141 _ k) ?_
            have Fw103_v142 := Fw103.other W132 (Or.inr (slot_ne (Or.inl (hw _ (List.mem_of_getElem? (i := 49) rfl))) (Or.inl (hw _ (List.mem_of_getElem? (i := 30) rfl))) (by decide) (t := .int) (t' := .int) (by decide) (by decide)))
            refine own_go (B := T141.setTop (mkF m 163 (LS_RRRIIRIIu r0 r1 r2 (own_N f0) (own_N t0) r5 (own_N ia) (d ia)) [(.ref r0), (.ref r0), (.int mfa), (.ref r0)])) (fun t k => ?_) ?_
            · refine XS.aloadN X141.here hx rfl (hb hby d7_161) rfl rfl ?_
              refine XS.dup X141.here hx rfl (hb hby d7_162) rfl rfl ?_
              exact k
            obtain ⟨T143, X143, e143, st143⟩ := getF X141 hx hZ hown (host := "") (Or.inl (hw _ (List.mem_of_getElem? (i := 48) rfl))) Via.refl e141 Fw103_v142 (g := (mkF m 163 (LS_RRRIIRIIu r0 r1 r2 (own_N f0) (own_N t0) r5 (own_N ia) (d ia)) [(.ref r0), (.ref r0), (.int mfa), (.ref r0)])) rfl rfl (hb hby d7_163)
            refine own_go (B := T143.setTop (mkF m 166 (LS_RRRIIRIIu r0 r1 r2 (own_N f0) (own_N t0) r5 (own_N ia) (d ia)) [(.int (0 : Int32)), (.ref r0), (.int mfa), (.ref r0)])) (fun t k => st143 _ k) ?_
            refine own_go (B := T143.setTop (mkF m 169 (LS_RRRIIRIIu r0 r1 r2 (own_N f0) (own_N t0) r5 (own_N ia) (d ia)) [(.int ((0 : Int32) + (1 : Int32))), (.ref r0), (.int ((0 : Int32) + (1 : Int32))), (.int mfa), (.ref r0)])) (fun t k => ?_) ?_
            · refine XS.iconst X143.here hx rfl (hb hby d7_166) ?_
              refine XS.iadd X143.here hx rfl (hb hby d7_167) rfl ?_
              show Steps p.tables e below (T143.setTop (mkF m 168 (LS_RRRIIRIIu r0 r1 r2 (own_N f0) (own_N t0) r5 (own_N ia) (d ia)) [(.int ((0 : Int32) + (1 : Int32))), (.ref r0), (.int mfa), (.ref r0)])) _
              refine XS.dupX1 X143.here hx rfl (hb hby d7_168) rfl rfl rfl ?_
              exact k
            have aE_v144 := aE_v131.wr W132
            obtain ⟨T145, h145, X145, e145, W145, st145⟩ := putF X143 hx hZ hown (host := "") (Or.inl (hw _ (List.mem_of_getElem? (i := 48) rfl))) Via.refl e143 Fw103_v142 aE_v144 (Or.inl (hw _ (List.mem_of_getElem? (i := 49) rfl))) (hw _ (List.mem_of_getElem? (i := 17) rfl)) (ty := .int) (by decide) rfl rfl (g := (mkF m 169 (LS_RRRIIRIIu r0 r1 r2 (own_N f0) (own_N t0) r5 (own_N ia) (d ia)) [(.int ((0 : Int32) + (1 : Int32))), (.ref r0), (.int ((0 : Int32) + (1 : Int32))), (.int mfa), (.ref r0)])) rfl rfl (hb hby d7_169)
            have N145 := Fr.snoc X145 N132 g_r0
            have Fw145 := Fw103_v142.same W145
            refine own_go (B := T145.setTop (mkF m 172 (LS_RRRIIRIIu r0 r1 r2 (own_N f0) (own_N t0) r5 (own_N ia) (d ia)) [(.int ((0 : Int32) + (1 : Int32))), (.int mfa), (.ref r0)])) (fun t k => st145 _ k) ?_
            have aZ_v146 := Nat.le_trans aZ_v129 (Nat.le_of_eq W132.size.symm)
            have aZ_v147 := Nat.le_trans aZ_v146 (Nat.le_of_eq W145.size.symm)
            obtain ⟨_, _, ⟨T148, L148, k148, n148⟩, -, X148, ⟨Lc148, hQ148, l148, y148, z148⟩, st148⟩ := Jvm.LawKit.callS X145 hx (y := (⟨"java/lang/Math", "max", "(II)I"⟩ : MethodName)) hown (mvT hZ (hw _ (List.mem_of_getElem? (i := 56) rfl))) (mvT hZ (hw _ (List.mem_of_getElem? (i := 57) rfl))) (mvT hZ (hw _ (List.mem_of_getElem? (i := 52) rfl))) (mvT hZ (hw _ (List.mem_of_getElem? (i := 58) rfl))) (by decide) (backOf (W := 1) (rmmax l Z a0 hw [] mfa ((0 : Int32) + (1 : Int32)) h145 n0 aZ_v147) hZ (hw _ (List.mem_of_getElem? (i := 58) rfl)) (hw _ (List.mem_of_getElem? (i := 52) rfl)) (by decide) (by decide)) (g := (mkF m 172 (LS_RRRIIRIIu r0 r1 r2 (own_N f0) (own_N t0) r5 (own_N ia) (d ia)) [(.int ((0 : Int32) + (1 : Int32))), (.int mfa), (.ref r0)])) rfl (by rw [hml]; rfl) (argsL := [(.int mfa), (.int ((0 : Int32) + (1 : Int32)))]) (rest := [(.ref r0)]) (lenOf pd__II_I rfl) rfl (by show 2 * 0 + _ ≤ _; exact Nat.le_of_eq rfl) (hb hby d7_172) (fun _ _ => ⟨rfl, e145, (by decide : 1 + 0 ≤ _), (by decide : 32 + 0 ≤ _)⟩)
            dsimp only [Pt.U, Pt.locs, Pt.cells, Pt.slots] at X148 l148 y148 z148 st148 hQ148
            subst l148 y148 z148
            obtain ⟨rfl, N148q, e148⟩ := hQ148
            have N148 := Fr.app N145 N148q
            refine own_go (B := T148.setTop (mkF m 175 (LS_RRRIIRIIu r0 r1 r2 (own_N f0) (own_N t0) r5 (own_N ia) (d ia)) [(.int (if mfa < ((0 : Int32) + (1 : Int32)) then ((0 : Int32) + (1 : Int32)) else mfa)), (.ref r0)])) (fun t k => st148 _ k) ?_
            have aE_v149 := aE_v144.wr W145
            have aF_maxFreq_v150 := aF_maxFreq_v140.other W145 (Or.inr (slot_ne (Or.inl (hw _ (List.mem_of_getElem? (i := 55) rfl))) (Or.inl (hw _ (List.mem_of_getElem? (i := 49) rfl))) (by decide) (t := .int) (t' := .int) (by decide) (by decide)))
            obtain ⟨T151, h151, X151, e151, W151, st151⟩ := putF X148 hx hZ hown (host := "") (Or.inl (hw _ (List.mem_of_getElem? (i := 54) rfl))) Via.refl e148 aF_maxFreq_v150 aE_v149 (Or.inl (hw _ (List.mem_of_getElem? (i := 55) rfl))) (hw _ (List.mem_of_getElem? (i := 17) rfl)) (ty := .int) (by decide) rfl rfl (g := (mkF m 175 (LS_RRRIIRIIu r0 r1 r2 (own_N f0) (own_N t0) r5 (own_N ia) (d ia)) [(.int (if mfa < ((0 : Int32) + (1 : Int32)) then ((0 : Int32) + (1 : Int32)) else mfa)), (.ref r0)])) rfl rfl (hb hby d7_175)
            have N151 := Fr.snoc X151 N148 g_r0
            have Fw151 := aF_maxFreq_v150.same W151
            refine own_go (B := T151.setTop (mkF m 178 (LS_RRRIIRIIu r0 r1 r2 (own_N f0) (own_N t0) r5 (own_N ia) (d ia)) [])) (fun t k => st151 _ k) ?_
            refine own_go (B := T151.setTop (mkF m 27 (LS_RRRIIRIIu r0 r1 r2 (own_N f0) (own_N t0) r5 (own_N (ia + 1)) (d ia)) [])) (fun t k => ?_) ?_
            · refine XS.iinc X151.here hx rfl (hb hby d7_178) rfl (l' := (LS_RRRIIRIIu r0 r1 r2 (own_N f0) (own_N t0) r5 ((own_N ia) + (1 : Int32)) (d ia))) rfl ?_
              change Steps p.tables e below (T151.setTop (mkF m 181 (LS_RRRIIRIIu r0 r1 r2 (own_N f0) (own_N t0) r5 ((own_N ia) + (1 : Int32)) (d ia)) [])) _
              rw [show ((own_N ia) + (1 : Int32)) = (own_N (ia + 1)) from own_N1 (by omega)]
              refine XS.goto X151.here hx rfl (pc0 := 181) (pc' := 27) rfl (hb hby d7_181) (by decide) (by decide) ?_
              exact k
            have aZ_v152 := Nat.le_trans aZ_v147 (Nat.le_of_eq W151.size.symm)
            have aK_v153 := aK.trans K61 all0
            have aK_v154 := aK_v153.wr W64 (Or.inl (List.mem_of_getElem? (i := 0) rfl))
            have aK_v155 := aK_v154.wr W72 (Or.inr sz_o61)
            have aK_v156 := aK_v155.wr W82 (Or.inr sz_o61)
            have aK_v157 := aK_v156.wr W88 (Or.inl (List.mem_of_getElem? (i := 0) rfl))
            have aK_v158 := aK_v157.wr W95 (Or.inl (List.mem_of_getElem? (i := 0) rfl))
            have aK_v159 := aK_v158.wr W103 (Or.inl (List.mem_of_getElem? (i := 0) rfl))
            have aK_v160 := aK_v159.wr W132 (Or.inl (List.mem_of_getElem? (i := 0) rfl))
            have aK_v161 := aK_v160.wr W145 (Or.inl (List.mem_of_getElem? (i := 0) rfl))
            have aK_v162 := aK_v161.wr W151 (Or.inl (List.mem_of_getElem? (i := 0) rfl))
            have aE_v163 := aE_v149.wr W151
            have Fw64_v164 := Fw64_v73.other W82 (Or.inl (Ne.symm ne71))
            have Fw64_v165 := Fw64_v164.other W88 (Or.inr (slot_ne (Or.inl (hw _ (List.mem_of_getElem? (i := 26) rfl))) (Or.inl (hw _ (List.mem_of_getElem? (i := 47) rfl))) (by decide) (t := (.array .int)) (t' := .int) (by decide) (by decide)))
            have Fw64_v166 := Fw64_v165.other W95 (Or.inr (slot_ne (Or.inl (hw _ (List.mem_of_getElem? (i := 26) rfl))) (Or.inl (hw _ (List.mem_of_getElem? (i := 28) rfl))) (by decide) (t := (.array .int)) (t' := .int) (by decide) (by decide)))
            have Fw64_v167 := Fw64_v166.other W103 (Or.inr (slot_ne (Or.inl (hw _ (List.mem_of_getElem? (i := 26) rfl))) (Or.inl (hw _ (List.mem_of_getElem? (i := 49) rfl))) (by decide) (t := (.array .int)) (t' := .int) (by decide) (by decide)))
            have Fw64_v168 := Fw64_v167.other W132 (Or.inr (slot_ne (Or.inl (hw _ (List.mem_of_getElem? (i := 26) rfl))) (Or.inl (hw _ (List.mem_of_getElem? (i := 30) rfl))) (by decide) (t := (.array .int)) (t' := .int) (by decide) (by decide)))
            have Fw64_v169 := Fw64_v168.other W145 (Or.inr (slot_ne (Or.inl (hw _ (List.mem_of_getElem? (i := 26) rfl))) (Or.inl (hw _ (List.mem_of_getElem? (i := 49) rfl))) (by decide) (t := (.array .int)) (t' := .int) (by decide) (by decide)))
            have Fw64_v170 := Fw64_v169.other W151 (Or.inr (slot_ne (Or.inl (hw _ (List.mem_of_getElem? (i := 26) rfl))) (Or.inl (hw _ (List.mem_of_getElem? (i := 55) rfl))) (by decide) (t := (.array .int)) (t' := .int) (by decide) (by decide)))
            have Fw88_v171 := Fw88.other W95 (Or.inr (slot_ne (Or.inl (hw _ (List.mem_of_getElem? (i := 47) rfl))) (Or.inl (hw _ (List.mem_of_getElem? (i := 28) rfl))) (by decide) (t := .int) (t' := .int) (by decide) (by decide)))
            have Fw88_v172 := Fw88_v171.other W103 (Or.inr (slot_ne (Or.inl (hw _ (List.mem_of_getElem? (i := 47) rfl))) (Or.inl (hw _ (List.mem_of_getElem? (i := 49) rfl))) (by decide) (t := .int) (t' := .int) (by decide) (by decide)))
            have Fw88_v173 := Fw88_v172.other W132 (Or.inr (slot_ne (Or.inl (hw _ (List.mem_of_getElem? (i := 47) rfl))) (Or.inl (hw _ (List.mem_of_getElem? (i := 30) rfl))) (by decide) (t := .int) (t' := .int) (by decide) (by decide)))
            have Fw88_v174 := Fw88_v173.other W145 (Or.inr (slot_ne (Or.inl (hw _ (List.mem_of_getElem? (i := 47) rfl))) (Or.inl (hw _ (List.mem_of_getElem? (i := 49) rfl))) (by decide) (t := .int) (t' := .int) (by decide) (by decide)))
            have Fw88_v175 := Fw88_v174.other W151 (Or.inr (slot_ne (Or.inl (hw _ (List.mem_of_getElem? (i := 47) rfl))) (Or.inl (hw _ (List.mem_of_getElem? (i := 55) rfl))) (by decide) (t := .int) (t' := .int) (by decide) (by decide)))
            have Fw95_v176 := Fw95.other W103 (Or.inr (slot_ne (Or.inl (hw _ (List.mem_of_getElem? (i := 28) rfl))) (Or.inl (hw _ (List.mem_of_getElem? (i := 49) rfl))) (by decide) (t := .int) (t' := .int) (by decide) (by decide)))
            have Fw95_v177 := Fw95_v176.other W132 (Or.inr (slot_ne (Or.inl (hw _ (List.mem_of_getElem? (i := 28) rfl))) (Or.inl (hw _ (List.mem_of_getElem? (i := 30) rfl))) (by decide) (t := .int) (t' := .int) (by decide) (by decide)))
            have Fw95_v178 := Fw95_v177.other W145 (Or.inr (slot_ne (Or.inl (hw _ (List.mem_of_getElem? (i := 28) rfl))) (Or.inl (hw _ (List.mem_of_getElem? (i := 49) rfl))) (by decide) (t := .int) (t' := .int) (by decide) (by decide)))
            have Fw95_v179 := Fw95_v178.other W151 (Or.inr (slot_ne (Or.inl (hw _ (List.mem_of_getElem? (i := 28) rfl))) (Or.inl (hw _ (List.mem_of_getElem? (i := 55) rfl))) (by decide) (t := .int) (t' := .int) (by decide) (by decide)))
            have Fw145_v180 := Fw145.other W151 (Or.inr (slot_ne (Or.inl (hw _ (List.mem_of_getElem? (i := 49) rfl))) (Or.inl (hw _ (List.mem_of_getElem? (i := 55) rfl))) (by decide) (t := .int) (t' := .int) (by decide) (by decide)))
            have Fw132_v181 := Fw132.other W145 (Or.inr (slot_ne (Or.inl (hw _ (List.mem_of_getElem? (i := 30) rfl))) (Or.inl (hw _ (List.mem_of_getElem? (i := 49) rfl))) (by decide) (t := .int) (t' := .int) (by decide) (by decide)))
            have Fw132_v182 := Fw132_v181.other W151 (Or.inr (slot_ne (Or.inl (hw _ (List.mem_of_getElem? (i := 30) rfl))) (Or.inl (hw _ (List.mem_of_getElem? (i := 55) rfl))) (by decide) (t := .int) (t' := .int) (by decide) (by decide)))
            have aF_positionCount_v183 := aF_positionCount_v79.other W82 (Or.inl (Ne.symm ne71))
            have aF_positionCount_v184 := aF_positionCount_v183.other W88 (Or.inr (slot_ne (Or.inl (hw _ (List.mem_of_getElem? (i := 45) rfl))) (Or.inl (hw _ (List.mem_of_getElem? (i := 47) rfl))) (by decide) (t := .int) (t' := .int) (by decide) (by decide)))
            have aF_positionCount_v185 := aF_positionCount_v184.other W95 (Or.inr (slot_ne (Or.inl (hw _ (List.mem_of_getElem? (i := 45) rfl))) (Or.inl (hw _ (List.mem_of_getElem? (i := 28) rfl))) (by decide) (t := .int) (t' := .int) (by decide) (by decide)))
            have aF_positionCount_v186 := aF_positionCount_v185.other W103 (Or.inr (slot_ne (Or.inl (hw _ (List.mem_of_getElem? (i := 45) rfl))) (Or.inl (hw _ (List.mem_of_getElem? (i := 49) rfl))) (by decide) (t := .int) (t' := .int) (by decide) (by decide)))
            have aF_positionCount_v187 := aF_positionCount_v186.other W132 (Or.inr (slot_ne (Or.inl (hw _ (List.mem_of_getElem? (i := 45) rfl))) (Or.inl (hw _ (List.mem_of_getElem? (i := 30) rfl))) (by decide) (t := .int) (t' := .int) (by decide) (by decide)))
            have aF_positionCount_v188 := aF_positionCount_v187.other W145 (Or.inr (slot_ne (Or.inl (hw _ (List.mem_of_getElem? (i := 45) rfl))) (Or.inl (hw _ (List.mem_of_getElem? (i := 49) rfl))) (by decide) (t := .int) (t' := .int) (by decide) (by decide)))
            have aF_positionCount_v189 := aF_positionCount_v188.other W151 (Or.inr (slot_ne (Or.inl (hw _ (List.mem_of_getElem? (i := 45) rfl))) (Or.inl (hw _ (List.mem_of_getElem? (i := 55) rfl))) (by decide) (t := .int) (t' := .int) (by decide) (by decide)))
            have aF_pages_v190 := aF_pages.keep K61 nin0
            have aF_pages_v191 := aF_pages_v190.other W64 (Or.inr (slot_ne (Or.inl (hw _ (List.mem_of_getElem? (i := 34) rfl))) (Or.inl (hw _ (List.mem_of_getElem? (i := 26) rfl))) (by decide) (t := (.array (.array .int))) (t' := (.array .int)) (by decide) (by decide)))
            have aF_pages_v192 := aF_pages_v191.other W72 (Or.inl (Ne.symm ne71))
            have aF_pages_v193 := aF_pages_v192.other W82 (Or.inl (Ne.symm ne71))
            have aF_pages_v194 := aF_pages_v193.other W88 (Or.inr (slot_ne (Or.inl (hw _ (List.mem_of_getElem? (i := 34) rfl))) (Or.inl (hw _ (List.mem_of_getElem? (i := 47) rfl))) (by decide) (t := (.array (.array .int))) (t' := .int) (by decide) (by decide)))
            have aF_pages_v195 := aF_pages_v194.other W95 (Or.inr (slot_ne (Or.inl (hw _ (List.mem_of_getElem? (i := 34) rfl))) (Or.inl (hw _ (List.mem_of_getElem? (i := 28) rfl))) (by decide) (t := (.array (.array .int))) (t' := .int) (by decide) (by decide)))
            have aF_pages_v196 := aF_pages_v195.other W103 (Or.inr (slot_ne (Or.inl (hw _ (List.mem_of_getElem? (i := 34) rfl))) (Or.inl (hw _ (List.mem_of_getElem? (i := 49) rfl))) (by decide) (t := (.array (.array .int))) (t' := .int) (by decide) (by decide)))
            have aF_pages_v197 := aF_pages_v196.other W132 (Or.inr (slot_ne (Or.inl (hw _ (List.mem_of_getElem? (i := 34) rfl))) (Or.inl (hw _ (List.mem_of_getElem? (i := 30) rfl))) (by decide) (t := (.array (.array .int))) (t' := .int) (by decide) (by decide)))
            have aF_pages_v198 := aF_pages_v197.other W145 (Or.inr (slot_ne (Or.inl (hw _ (List.mem_of_getElem? (i := 34) rfl))) (Or.inl (hw _ (List.mem_of_getElem? (i := 49) rfl))) (by decide) (t := (.array (.array .int))) (t' := .int) (by decide) (by decide)))
            have aF_pages_v199 := aF_pages_v198.other W151 (Or.inr (slot_ne (Or.inl (hw _ (List.mem_of_getElem? (i := 34) rfl))) (Or.inl (hw _ (List.mem_of_getElem? (i := 55) rfl))) (by decide) (t := (.array (.array .int))) (t' := .int) (by decide) (by decide)))
            have aF_page_v200 := aF_page.keep K61 nin0
            have aF_page_v201 := aF_page_v200.other W64 (Or.inr (slot_ne (Or.inl (hw _ (List.mem_of_getElem? (i := 36) rfl))) (Or.inl (hw _ (List.mem_of_getElem? (i := 26) rfl))) (by decide) (t := (.array .int)) (t' := (.array .int)) (by decide) (by decide)))
            have aF_page_v202 := aF_page_v201.other W72 (Or.inl (Ne.symm ne71))
            have aF_page_v203 := aF_page_v202.other W82 (Or.inl (Ne.symm ne71))
            have aF_page_v204 := aF_page_v203.other W88 (Or.inr (slot_ne (Or.inl (hw _ (List.mem_of_getElem? (i := 36) rfl))) (Or.inl (hw _ (List.mem_of_getElem? (i := 47) rfl))) (by decide) (t := (.array .int)) (t' := .int) (by decide) (by decide)))
            have aF_page_v205 := aF_page_v204.other W95 (Or.inr (slot_ne (Or.inl (hw _ (List.mem_of_getElem? (i := 36) rfl))) (Or.inl (hw _ (List.mem_of_getElem? (i := 28) rfl))) (by decide) (t := (.array .int)) (t' := .int) (by decide) (by decide)))
            have aF_page_v206 := aF_page_v205.other W103 (Or.inr (slot_ne (Or.inl (hw _ (List.mem_of_getElem? (i := 36) rfl))) (Or.inl (hw _ (List.mem_of_getElem? (i := 49) rfl))) (by decide) (t := (.array .int)) (t' := .int) (by decide) (by decide)))
            have aF_page_v207 := aF_page_v206.other W132 (Or.inr (slot_ne (Or.inl (hw _ (List.mem_of_getElem? (i := 36) rfl))) (Or.inl (hw _ (List.mem_of_getElem? (i := 30) rfl))) (by decide) (t := (.array .int)) (t' := .int) (by decide) (by decide)))
            have aF_page_v208 := aF_page_v207.other W145 (Or.inr (slot_ne (Or.inl (hw _ (List.mem_of_getElem? (i := 36) rfl))) (Or.inl (hw _ (List.mem_of_getElem? (i := 49) rfl))) (by decide) (t := (.array .int)) (t' := .int) (by decide) (by decide)))
            have aF_page_v209 := aF_page_v208.other W151 (Or.inr (slot_ne (Or.inl (hw _ (List.mem_of_getElem? (i := 36) rfl))) (Or.inl (hw _ (List.mem_of_getElem? (i := 55) rfl))) (by decide) (t := (.array .int)) (t' := .int) (by decide) (by decide)))
            have V82_v210 := V82.other W88 ne71
            have V82_v211 := V82_v210.other W95 ne71
            have V82_v212 := V82_v211.other W103 ne71
            have V82_v213 := V82_v212.other W132 ne71
            have V82_v214 := V82_v213.other W145 ne71
            have V82_v215 := V82_v214.other W151 ne71
            have aVq_v216 := aVq.keep K61 nin0
            have ne218 : qo ≠ r0 := Exa.ne aEq aE (by decide)
            have aVq_v217 := aVq_v216.other W64 ne218
            have ne220 : qo ≠ o61 := Nat.ne_of_lt (Nat.lt_of_lt_of_le aVq.lt hfr61)
            have aVq_v219 := aVq_v217.other W72 ne220
            have aVq_v221 := aVq_v219.other W82 ne220
            have aVq_v222 := aVq_v221.other W88 ne218
            have aVq_v223 := aVq_v222.other W95 ne218
            have aVq_v224 := aVq_v223.other W103 ne218
            have aVq_v225 := aVq_v224.other W132 ne218
            have aVq_v226 := aVq_v225.other W145 ne218
            have aVq_v227 := aVq_v226.other W151 ne218
            have aEq_v228 := aEq.keep K61
            have aEq_v229 := aEq_v228.wr W64
            have aEq_v230 := aEq_v229.wr W72
            have aEq_v231 := aEq_v230.wr W82
            have aEq_v232 := aEq_v231.wr W88
            have aEq_v233 := aEq_v232.wr W95
            have aEq_v234 := aEq_v233.wr W103
            have aEq_v235 := aEq_v234.wr W132
            have aEq_v236 := aEq_v235.wr W145
            have aEq_v237 := aEq_v236.wr W151
            have aVg_v238 := aVg.keep K61 nin0
            have ne240 : r0 ≠ pg := Exa.neArv aE_v62 aVg_v238 (hw _ (List.mem_of_getElem? (i := 17) rfl))
            have aVg_v239 := aVg_v238.other W64 (Ne.symm ne240)
            have ne242 : pg ≠ o61 := own_neT aVg_v238 Vo61 (by decide)
            have aVg_v241 := aVg_v239.other W72 ne242
            have aVg_v243 := aVg_v241.other W82 ne242
            have aVg_v244 := aVg_v243.other W88 (Ne.symm ne240)
            have aVg_v245 := aVg_v244.other W95 (Ne.symm ne240)
            have aVg_v246 := aVg_v245.other W103 (Ne.symm ne240)
            have aVg_v247 := aVg_v246.other W132 (Ne.symm ne240)
            have aVg_v248 := aVg_v247.other W145 (Ne.symm ne240)
            have aVg_v249 := aVg_v248.other W151 (Ne.symm ne240)
            have aVp_v250 := aVp.keep K61 nin0
            have ne252 : r0 ≠ r2 := Exa.neArv aE_v62 aVp_v250 (hw _ (List.mem_of_getElem? (i := 17) rfl))
            have aVp_v251 := aVp_v250.other W64 (Ne.symm ne252)
            have ne255 : r2 ≠ o61 := Nat.ne_of_lt (Nat.lt_of_lt_of_le aVp.lt hfr61)
            have aVp_v253 := aVp_v251.other W72 ne255
            have aVp_v256 := aVp_v253.other W82 ne255
            have aVp_v257 := aVp_v256.other W88 (Ne.symm ne252)
            have aVp_v258 := aVp_v257.other W95 (Ne.symm ne252)
            have aVp_v259 := aVp_v258.other W103 (Ne.symm ne252)
            have aVp_v260 := aVp_v259.other W132 (Ne.symm ne252)
            have aVp_v261 := aVp_v260.other W145 (Ne.symm ne252)
            have aVp_v262 := aVp_v261.other W151 (Ne.symm ne252)
            have aVd_v263 := aVd.keep K61 nin0
            have ne265 : r0 ≠ r1 := Exa.neArv aE_v62 aVd_v263 (hw _ (List.mem_of_getElem? (i := 17) rfl))
            have aVd_v264 := aVd_v263.other W64 (Ne.symm ne265)
            have ne268 : r1 ≠ o61 := Nat.ne_of_lt (Nat.lt_of_lt_of_le aVd.lt hfr61)
            have aVd_v266 := aVd_v264.other W72 ne268
            have aVd_v269 := aVd_v266.other W82 ne268
            have aVd_v270 := aVd_v269.other W88 (Ne.symm ne265)
            have aVd_v271 := aVd_v270.other W95 (Ne.symm ne265)
            have aVd_v272 := aVd_v271.other W103 (Ne.symm ne265)
            have aVd_v273 := aVd_v272.other W132 (Ne.symm ne265)
            have aVd_v274 := aVd_v273.other W145 (Ne.symm ne265)
            have aVd_v275 := aVd_v274.other W151 (Ne.symm ne265)
            have aVl_v276 := aVl_v113.other W64 (Ne.symm ne115)
            have aVl_v277 := aVl_v276.other W72 ne117
            have aVl_v278 := aVl_v277.other W82 ne117
            have aVl_v279 := aVl_v278.other W88 (Ne.symm ne115)
            have aVl_v280 := aVl_v279.other W95 (Ne.symm ne115)
            have aVl_v281 := aVl_v280.other W103 (Ne.symm ne115)
            have aVl_v282 := aVl_v281.other W132 (Ne.symm ne115)
            have aVl_v283 := aVl_v282.other W145 (Ne.symm ne115)
            have aVl_v284 := aVl_v283.other W151 (Ne.symm ne115)
            exact IHa (ia + 1, 16, (.val (.int (d ia)))) _ _ (show t0 - (ia + 1) < t0 - ia by omega) (own_mono X151 (by simp) (by simp)) N151 (by rw [e151]; exact ⟨o61, ko61, _, _, _, _, aZ_v152, aK_v162, aE_v163, Fw64_v170, (by rw [own_sz_new hc46_7]; exact Fw88_v175), Fw95_v179, Fw145_v180, Fw151, Fw132_v182, aF_positionCount_v189, aF_pages_v199, aF_page_v209, V82_v215, aVq_v227, aEq_v237, aVg_v249, aVp_v262, aVd_v275, aVl_v284, (Or.inr sz_o61), g_o61, (Ne.symm ne220), (Ne.symm ne268), (Ne.symm ne255), Or.inr rfl, (by show 2 * own_sz d (ia + 1) ≤ 16; rw [own_sz_new hc46_7]; omega), (own_H_new (own_H_grow hHa h8) hc46_7), Nat.le_succ_of_le hfa, hlt, Or.inr ⟨_, rfl⟩⟩)
          · have hX : 2 * own_sz d ia < 8 := own_ltne haz (by decide) hc60_58
            refine own_go (B := T56.setTop (mkF m 81 (LS_RRRIIRIIu r0 r1 r2 (own_N f0) (own_N t0) r5 (own_N ia) (d ia)) [(.ref r0)])) (fun t k => ?_) ?_
            · refine XS.icmpYes X56.here hx rfl (pc0 := 60) (pc' := 80) rfl (hb hby d7_60) rfl (feq hc60_58).2 (by decide) (by decide) ?_
              refine XS.aloadN X56.here hx rfl (hb hby d7_80) rfl rfl ?_
              exact k
            obtain ⟨T285, X285, e285, st285⟩ := getF X56 hx hZ hown (host := "") (Or.inl (hw _ (List.mem_of_getElem? (i := 25) rfl))) Via.refl e56 aF_entries (g := (mkF m 81 (LS_RRRIIRIIu r0 r1 r2 (own_N f0) (own_N t0) r5 (own_N ia) (d ia)) [(.ref r0)])) rfl rfl (hb hby d7_81)
            refine own_go (B := T285.setTop (mkF m 84 (LS_RRRIIRIIu r0 r1 r2 (own_N f0) (own_N t0) r5 (own_N ia) (d ia)) [(.ref ea)])) (fun t k => st285 _ k) ?_
            refine own_go (B := T285.setTop (mkF m 86 (LS_RRRIIRIIu r0 r1 r2 (own_N f0) (own_N t0) r5 (own_N ia) (d ia)) [(.ref r0), (.int (2 : Int32)), (.ref ea)])) (fun t k => ?_) ?_
            · refine XS.iconst X285.here hx rfl (hb hby d7_84) ?_
              refine XS.aloadN X285.here hx rfl (hb hby d7_85) rfl rfl ?_
              exact k
            obtain ⟨T286, X286, e286, st286⟩ := getF X285 hx hZ hown (host := "") (Or.inl (hw _ (List.mem_of_getElem? (i := 46) rfl))) Via.refl e285 aF_size (g := (mkF m 86 (LS_RRRIIRIIu r0 r1 r2 (own_N f0) (own_N t0) r5 (own_N ia) (d ia)) [(.ref r0), (.int (2 : Int32)), (.ref ea)])) rfl rfl (hb hby d7_86)
            refine own_go (B := T286.setTop (mkF m 89 (LS_RRRIIRIIu r0 r1 r2 (own_N f0) (own_N t0) r5 (own_N ia) (d ia)) [(.int (own_N (own_sz d ia))), (.int (2 : Int32)), (.ref ea)])) (fun t k => st286 _ k) ?_
            refine own_go (B := T286.setTop (mkF m 92 (LS_RRRIIRIIu r0 r1 r2 (own_N f0) (own_N t0) r5 (own_N ia) (d ia)) [(.int (d ia)), (.int (own_N (2 * own_sz d ia))), (.ref ea)])) (fun t k => ?_) ?_
            · refine XS.imul X286.here hx rfl (hb hby d7_89) rfl ?_
              change Steps p.tables e below (T286.setTop (mkF m 90 (LS_RRRIIRIIu r0 r1 r2 (own_N f0) (own_N t0) r5 (own_N ia) (d ia)) [(.int ((2 : Int32) * (own_N (own_sz d ia)))), (.ref ea)])) _
              rw [show ((2 : Int32) * (own_N (own_sz d ia))) = (own_N (2 * own_sz d ia)) from own_N2 (by omega)]
              refine XS.iload X286.here hx rfl (hb hby d7_90) rfl ?_
              exact k
            obtain ⟨cl287, Ar287, qa287, Sa287, Na287, Ha287, Ga287⟩ := id aVe
            have hin288 : ¬ ((own_N (2 * own_sz d ia)) < 0 ∨ cl287.slots.size ≤ ((own_N (2 * own_sz d ia))).toNatClampNeg) := own_inb (X := (2 * own_sz d ia)) Sa287 (by decide) (by omega)
            obtain ⟨T288, h288, X288, e288, W288, st288⟩ := stI X286 hx hZ e286 Ar287 (j := (own_N (2 * own_sz d ia))) hin288 (g := (mkF m 92 (LS_RRRIIRIIu r0 r1 r2 (own_N f0) (own_N t0) r5 (own_N ia) (d ia)) [(.int (d ia)), (.int (own_N (2 * own_sz d ia))), (.ref ea)])) rfl rfl (hb hby d7_92)
            have N288 := Fr.snoc X288 Na g_ea
            have V288 : Arv Z h288 ea kea .int (own_N 8) (own_V (own_up ena ((2 * own_sz d ia)) (d ia)) 8) (.int (0 : Int32)) := own_setV (X := (2 * own_sz d ia)) Ar287 qa287 Sa287 Na287 Ha287 Ga287 W288 (by decide) (by omega)
            refine own_go (B := T288.setTop (mkF m 93 (LS_RRRIIRIIu r0 r1 r2 (own_N f0) (own_N t0) r5 (own_N ia) (d ia)) [])) (fun t k => st288 _ k) ?_
            have aE_v291 := aE.wr W288
            have ne290 : r0 ≠ ea := Exa.neArv aE_v291 V288 (hw _ (List.mem_of_getElem? (i := 17) rfl))
            have aF_entries_v289 := aF_entries.other W288 (Or.inl ne290)
            refine own_go (B := T288.setTop (mkF m 94 (LS_RRRIIRIIu r0 r1 r2 (own_N f0) (own_N t0) r5 (own_N ia) (d ia)) [(.ref r0)])) (fun t k => ?_) ?_
            · refine XS.aloadN X288.here hx rfl (hb hby d7_93) rfl rfl ?_
              exact k
            obtain ⟨T292, X292, e292, st292⟩ := getF X288 hx hZ hown (host := "") (Or.inl (hw _ (List.mem_of_getElem? (i := 25) rfl))) Via.refl e288 aF_entries_v289 (g := (mkF m 94 (LS_RRRIIRIIu r0 r1 r2 (own_N f0) (own_N t0) r5 (own_N ia) (d ia)) [(.ref r0)])) rfl rfl (hb hby d7_94)
            refine own_go (B := T292.setTop (mkF m 97 (LS_RRRIIRIIu r0 r1 r2 (own_N f0) (own_N t0) r5 (own_N ia) (d ia)) [(.ref ea)])) (fun t k => st292 _ k) ?_
            have aF_size_v293 := aF_size.other W288 (Or.inl ne290)
            refine own_go (B := T292.setTop (mkF m 99 (LS_RRRIIRIIu r0 r1 r2 (own_N f0) (own_N t0) r5 (own_N ia) (d ia)) [(.ref r0), (.int (2 : Int32)), (.ref ea)])) (fun t k => ?_) ?_
            · refine XS.iconst X292.here hx rfl (hb hby d7_97) ?_
              refine XS.aloadN X292.here hx rfl (hb hby d7_98) rfl rfl ?_
              exact k
            obtain ⟨T294, X294, e294, st294⟩ := getF X292 hx hZ hown (host := "") (Or.inl (hw _ (List.mem_of_getElem? (i := 46) rfl))) Via.refl e292 aF_size_v293 (g := (mkF m 99 (LS_RRRIIRIIu r0 r1 r2 (own_N f0) (own_N t0) r5 (own_N ia) (d ia)) [(.ref r0), (.int (2 : Int32)), (.ref ea)])) rfl rfl (hb hby d7_99)
            refine own_go (B := T294.setTop (mkF m 102 (LS_RRRIIRIIu r0 r1 r2 (own_N f0) (own_N t0) r5 (own_N ia) (d ia)) [(.int (own_N (own_sz d ia))), (.int (2 : Int32)), (.ref ea)])) (fun t k => st294 _ k) ?_
            have aF_positionCount_v295 := aF_positionCount.other W288 (Or.inl ne290)
            refine own_go (B := T294.setTop (mkF m 106 (LS_RRRIIRIIu r0 r1 r2 (own_N f0) (own_N t0) r5 (own_N ia) (d ia)) [(.ref r0), (.int (own_N (2 * own_sz d ia + 1))), (.ref ea)])) (fun t k => ?_) ?_
            · refine XS.imul X294.here hx rfl (hb hby d7_102) rfl ?_
              change Steps p.tables e below (T294.setTop (mkF m 103 (LS_RRRIIRIIu r0 r1 r2 (own_N f0) (own_N t0) r5 (own_N ia) (d ia)) [(.int ((2 : Int32) * (own_N (own_sz d ia)))), (.ref ea)])) _
              rw [show ((2 : Int32) * (own_N (own_sz d ia))) = (own_N (2 * own_sz d ia)) from own_N2 (by omega)]
              refine XS.iconst X294.here hx rfl (hb hby d7_103) ?_
              show Steps p.tables e below (T294.setTop (mkF m 104 (LS_RRRIIRIIu r0 r1 r2 (own_N f0) (own_N t0) r5 (own_N ia) (d ia)) [(.int (1 : Int32)), (.int (own_N (2 * own_sz d ia))), (.ref ea)])) _
              refine XS.iadd X294.here hx rfl (hb hby d7_104) rfl ?_
              change Steps p.tables e below (T294.setTop (mkF m 105 (LS_RRRIIRIIu r0 r1 r2 (own_N f0) (own_N t0) r5 (own_N ia) (d ia)) [(.int ((own_N (2 * own_sz d ia)) + (1 : Int32))), (.ref ea)])) _
              rw [show ((own_N (2 * own_sz d ia)) + (1 : Int32)) = (own_N (2 * own_sz d ia + 1)) from own_N1 (by omega)]
              refine XS.aloadN X294.here hx rfl (hb hby d7_105) rfl rfl ?_
              exact k
            obtain ⟨T296, X296, e296, st296⟩ := getF X294 hx hZ hown (host := "") (Or.inl (hw _ (List.mem_of_getElem? (i := 44) rfl))) Via.refl e294 aF_positionCount_v295 (g := (mkF m 106 (LS_RRRIIRIIu r0 r1 r2 (own_N f0) (own_N t0) r5 (own_N ia) (d ia)) [(.ref r0), (.int (own_N (2 * own_sz d ia + 1))), (.ref ea)])) rfl rfl (hb hby d7_106)
            refine own_go (B := T296.setTop (mkF m 109 (LS_RRRIIRIIu r0 r1 r2 (own_N f0) (own_N t0) r5 (own_N ia) (d ia)) [(.int (own_N f0)), (.int (own_N (2 * own_sz d ia + 1))), (.ref ea)])) (fun t k => st296 _ k) ?_
            refine own_go (B := T296.setTop (mkF m 114 (LS_RRRIIRIIu r0 r1 r2 (own_N f0) (own_N t0) r5 (own_N ia) (d ia)) [(.int (own_N ia)), (.int (own_N (2 * own_sz d ia + 1))), (.ref ea)])) (fun t k => ?_) ?_
            · refine XS.iload X296.here hx rfl (hb hby d7_109) rfl ?_
              refine XS.iadd X296.here hx rfl (hb hby d7_111) rfl ?_
              change Steps p.tables e below (T296.setTop (mkF m 112 (LS_RRRIIRIIu r0 r1 r2 (own_N f0) (own_N t0) r5 (own_N ia) (d ia)) [(.int ((own_N f0) + (own_N ia))), (.int (own_N (2 * own_sz d ia + 1))), (.ref ea)])) _
              rw [show ((own_N f0) + (own_N ia)) = (own_N (f0 + ia)) from own_Nadd (by omega)]
              show Steps p.tables e below (T296.setTop (mkF m 112 (LS_RRRIIRIIu r0 r1 r2 (own_N f0) (own_N t0) r5 (own_N ia) (d ia)) [(.int (own_N (f0 + ia))), (.int (own_N (2 * own_sz d ia + 1))), (.ref ea)])) _
              refine XS.iloadN X296.here hx rfl (hb hby d7_112) rfl ?_
              refine XS.isub X296.here hx rfl (hb hby d7_113) rfl ?_
              change Steps p.tables e below (T296.setTop (mkF m 114 (LS_RRRIIRIIu r0 r1 r2 (own_N f0) (own_N t0) r5 (own_N ia) (d ia)) [(.int ((own_N (f0 + ia)) - (own_N f0))), (.int (own_N (2 * own_sz d ia + 1))), (.ref ea)])) _
              rw [show ((own_N (f0 + ia)) - (own_N f0)) = (own_N ia) from (own_Nsub (by omega) (by omega)).trans (congrArg own_N (by omega))]
              exact k
            obtain ⟨cl297, Ar297, qa297, Sa297, Na297, Ha297, Ga297⟩ := id V288
            have hin298 : ¬ ((own_N (2 * own_sz d ia + 1)) < 0 ∨ cl297.slots.size ≤ ((own_N (2 * own_sz d ia + 1))).toNatClampNeg) := own_inb (X := (2 * own_sz d ia + 1)) Sa297 (by decide) (by omega)
            obtain ⟨T298, h298, X298, e298, W298, st298⟩ := stI X296 hx hZ e296 Ar297 (j := (own_N (2 * own_sz d ia + 1))) hin298 (g := (mkF m 114 (LS_RRRIIRIIu r0 r1 r2 (own_N f0) (own_N t0) r5 (own_N ia) (d ia)) [(.int (own_N ia)), (.int (own_N (2 * own_sz d ia + 1))), (.ref ea)])) rfl rfl (hb hby d7_114)
            have N298 := Fr.snoc X298 N288 g_ea
            have V298 : Arv Z h298 ea kea .int (own_N 8) (own_V (own_up (own_up ena ((2 * own_sz d ia)) (d ia)) ((2 * own_sz d ia + 1)) (own_N ia)) 8) (.int (0 : Int32)) := own_setV (X := (2 * own_sz d ia + 1)) Ar297 qa297 Sa297 Na297 Ha297 Ga297 W298 (by decide) (by omega)
            refine own_go (B := T298.setTop (mkF m 115 (LS_RRRIIRIIu r0 r1 r2 (own_N f0) (own_N t0) r5 (own_N ia) (d ia)) [])) (fun t k => st298 _ k) ?_
            have aF_size_v299 := aF_size_v293.other W298 (Or.inl ne290)
            refine own_go (B := T298.setTop (mkF m 117 (LS_RRRIIRIIu r0 r1 r2 (own_N f0) (own_N t0) r5 (own_N ia) (d ia)) [(.ref r0), (.ref r0)])) (fun t k => ?_) ?_
            · refine XS.aloadN X298.here hx rfl (hb hby d7_115) rfl rfl ?_
              refine XS.dup X298.here hx rfl (hb hby d7_116) rfl rfl ?_
              exact k
            obtain ⟨T300, X300, e300, st300⟩ := getF X298 hx hZ hown (host := "") (Or.inl (hw _ (List.mem_of_getElem? (i := 46) rfl))) Via.refl e298 aF_size_v299 (g := (mkF m 117 (LS_RRRIIRIIu r0 r1 r2 (own_N f0) (own_N t0) r5 (own_N ia) (d ia)) [(.ref r0), (.ref r0)])) rfl rfl (hb hby d7_117)
            refine own_go (B := T300.setTop (mkF m 120 (LS_RRRIIRIIu r0 r1 r2 (own_N f0) (own_N t0) r5 (own_N ia) (d ia)) [(.int (own_N (own_sz d ia))), (.ref r0)])) (fun t k => st300 _ k) ?_
            refine own_go (B := T300.setTop (mkF m 122 (LS_RRRIIRIIu r0 r1 r2 (own_N f0) (own_N t0) r5 (own_N ia) (d ia)) [(.int (own_N (own_sz d ia + 1))), (.ref r0)])) (fun t k => ?_) ?_
            · refine XS.iconst X300.here hx rfl (hb hby d7_120) ?_
              refine XS.iadd X300.here hx rfl (hb hby d7_121) rfl ?_
              change Steps p.tables e below (T300.setTop (mkF m 122 (LS_RRRIIRIIu r0 r1 r2 (own_N f0) (own_N t0) r5 (own_N ia) (d ia)) [(.int ((own_N (own_sz d ia)) + (1 : Int32))), (.ref r0)])) _
              rw [show ((own_N (own_sz d ia)) + (1 : Int32)) = (own_N (own_sz d ia + 1)) from own_N1 (by omega)]
              exact k
            have aE_v301 := aE_v291.wr W298
            obtain ⟨T302, h302, X302, e302, W302, st302⟩ := putF X300 hx hZ hown (host := "") (Or.inl (hw _ (List.mem_of_getElem? (i := 46) rfl))) Via.refl e300 aF_size_v299 aE_v301 (Or.inl (hw _ (List.mem_of_getElem? (i := 47) rfl))) (hw _ (List.mem_of_getElem? (i := 17) rfl)) (ty := .int) (by decide) rfl rfl (g := (mkF m 122 (LS_RRRIIRIIu r0 r1 r2 (own_N f0) (own_N t0) r5 (own_N ia) (d ia)) [(.int (own_N (own_sz d ia + 1))), (.ref r0)])) rfl rfl (hb hby d7_122)
            have N302 := Fr.snoc X302 N298 g_r0
            have Fw302 := aF_size_v299.same W302
            refine own_go (B := T302.setTop (mkF m 125 (LS_RRRIIRIIu r0 r1 r2 (own_N f0) (own_N t0) r5 (own_N ia) (d ia)) [])) (fun t k => st302 _ k) ?_
            refine own_go (B := T302.setTop (mkF m 128 (LS_RRRIIRIIu r0 r1 r2 (own_N f0) (own_N t0) r5 (own_N ia) (d ia)) [(.int (d ia)), (.ref r0)])) (fun t k => ?_) ?_
            · refine XS.aloadN X302.here hx rfl (hb hby d7_125) rfl rfl ?_
              refine XS.iload X302.here hx rfl (hb hby d7_126) rfl ?_
              exact k
            have aE_v303 := aE_v301.wr W302
            have aF_lastDoc_v304 := aF_lastDoc.other W288 (Or.inl ne290)
            have aF_lastDoc_v305 := aF_lastDoc_v304.other W298 (Or.inl ne290)
            have aF_lastDoc_v306 := aF_lastDoc_v305.other W302 (Or.inr (slot_ne (Or.inl (hw _ (List.mem_of_getElem? (i := 28) rfl))) (Or.inl (hw _ (List.mem_of_getElem? (i := 47) rfl))) (by decide) (t := .int) (t' := .int) (by decide) (by decide)))
            obtain ⟨T307, h307, X307, e307, W307, st307⟩ := putF X302 hx hZ hown (host := "") (Or.inl (hw _ (List.mem_of_getElem? (i := 27) rfl))) Via.refl e302 aF_lastDoc_v306 aE_v303 (Or.inl (hw _ (List.mem_of_getElem? (i := 28) rfl))) (hw _ (List.mem_of_getElem? (i := 17) rfl)) (ty := .int) (by decide) rfl rfl (g := (mkF m 128 (LS_RRRIIRIIu r0 r1 r2 (own_N f0) (own_N t0) r5 (own_N ia) (d ia)) [(.int (d ia)), (.ref r0)])) rfl rfl (hb hby d7_128)
            have N307 := Fr.snoc X307 N302 g_r0
            have Fw307 := aF_lastDoc_v306.same W307
            refine own_go (B := T307.setTop (mkF m 131 (LS_RRRIIRIIu r0 r1 r2 (own_N f0) (own_N t0) r5 (own_N ia) (d ia)) [])) (fun t k => st307 _ k) ?_
            refine own_go (B := T307.setTop (mkF m 133 (LS_RRRIIRIIu r0 r1 r2 (own_N f0) (own_N t0) r5 (own_N ia) (d ia)) [(.int (0 : Int32)), (.ref r0)])) (fun t k => ?_) ?_
            · refine XS.aloadN X307.here hx rfl (hb hby d7_131) rfl rfl ?_
              refine XS.iconst X307.here hx rfl (hb hby d7_132) ?_
              exact k
            have aE_v308 := aE_v303.wr W307
            have aF_lastFreq_v309 := aF_lastFreq.other W288 (Or.inl ne290)
            have aF_lastFreq_v310 := aF_lastFreq_v309.other W298 (Or.inl ne290)
            have aF_lastFreq_v311 := aF_lastFreq_v310.other W302 (Or.inr (slot_ne (Or.inl (hw _ (List.mem_of_getElem? (i := 49) rfl))) (Or.inl (hw _ (List.mem_of_getElem? (i := 47) rfl))) (by decide) (t := .int) (t' := .int) (by decide) (by decide)))
            have aF_lastFreq_v312 := aF_lastFreq_v311.other W307 (Or.inr (slot_ne (Or.inl (hw _ (List.mem_of_getElem? (i := 49) rfl))) (Or.inl (hw _ (List.mem_of_getElem? (i := 28) rfl))) (by decide) (t := .int) (t' := .int) (by decide) (by decide)))
            obtain ⟨T313, h313, X313, e313, W313, st313⟩ := putF X307 hx hZ hown (host := "") (Or.inl (hw _ (List.mem_of_getElem? (i := 48) rfl))) Via.refl e307 aF_lastFreq_v312 aE_v308 (Or.inl (hw _ (List.mem_of_getElem? (i := 49) rfl))) (hw _ (List.mem_of_getElem? (i := 17) rfl)) (ty := .int) (by decide) rfl rfl (g := (mkF m 133 (LS_RRRIIRIIu r0 r1 r2 (own_N f0) (own_N t0) r5 (own_N ia) (d ia)) [(.int (0 : Int32)), (.ref r0)])) rfl rfl (hb hby d7_133)
            have N313 := Fr.snoc X313 N307 g_r0
            have Fw313 := aF_lastFreq_v312.same W313
            refine own_go (B := T313.setTop (mkF m 136 (LS_RRRIIRIIu r0 r1 r2 (own_N f0) (own_N t0) r5 (own_N ia) (d ia)) [])) (fun t k => st313 _ k) ?_
            have aF_shortestLength_v314 := aF_shortestLength.other W288 (Or.inl ne290)
            have aF_shortestLength_v315 := aF_shortestLength_v314.other W298 (Or.inl ne290)
            have aF_shortestLength_v316 := aF_shortestLength_v315.other W302 (Or.inr (slot_ne (Or.inl (hw _ (List.mem_of_getElem? (i := 30) rfl))) (Or.inl (hw _ (List.mem_of_getElem? (i := 47) rfl))) (by decide) (t := .int) (t' := .int) (by decide) (by decide)))
            have aF_shortestLength_v317 := aF_shortestLength_v316.other W307 (Or.inr (slot_ne (Or.inl (hw _ (List.mem_of_getElem? (i := 30) rfl))) (Or.inl (hw _ (List.mem_of_getElem? (i := 28) rfl))) (by decide) (t := .int) (t' := .int) (by decide) (by decide)))
            have aF_shortestLength_v318 := aF_shortestLength_v317.other W313 (Or.inr (slot_ne (Or.inl (hw _ (List.mem_of_getElem? (i := 30) rfl))) (Or.inl (hw _ (List.mem_of_getElem? (i := 49) rfl))) (by decide) (t := .int) (t' := .int) (by decide) (by decide)))
            refine own_go (B := T313.setTop (mkF m 138 (LS_RRRIIRIIu r0 r1 r2 (own_N f0) (own_N t0) r5 (own_N ia) (d ia)) [(.ref r0), (.ref r0)])) (fun t k => ?_) ?_
            · refine XS.aloadN X313.here hx rfl (hb hby d7_136) rfl rfl ?_
              refine XS.aloadN X313.here hx rfl (hb hby d7_137) rfl rfl ?_
              exact k
            obtain ⟨T319, X319, e319, st319⟩ := getF X313 hx hZ hown (host := "") (Or.inl (hw _ (List.mem_of_getElem? (i := 29) rfl))) Via.refl e313 aF_shortestLength_v318 (g := (mkF m 138 (LS_RRRIIRIIu r0 r1 r2 (own_N f0) (own_N t0) r5 (own_N ia) (d ia)) [(.ref r0), (.ref r0)])) rfl rfl (hb hby d7_138)
            refine own_go (B := T319.setTop (mkF m 141 (LS_RRRIIRIIu r0 r1 r2 (own_N f0) (own_N t0) r5 (own_N ia) (d ia)) [(.int sla), (.ref r0)])) (fun t k => st319 _ k) ?_
            have ne322 : r5 ≠ ea := own_neT aVl aVe (by decide)
            have aVl_v321 := aVl.other W288 ne322
            have aVl_v323 := aVl_v321.other W298 ne322
            have ne325 : r0 ≠ r5 := Exa.neArv aE aVl (hw _ (List.mem_of_getElem? (i := 17) rfl))
            have aVl_v324 := aVl_v323.other W302 (Ne.symm ne325)
            have aVl_v326 := aVl_v324.other W307 (Ne.symm ne325)
            have aVl_v327 := aVl_v326.other W313 (Ne.symm ne325)
            obtain ⟨cl320, Ar320, qa320, Sa320, Na320, Ha320, Ga320⟩ := id aVl_v327
            have hin328 : ¬ ((d ia) < 0 ∨ cl320.slots.size ≤ ((d ia)).toNatClampNeg) := inb_of Sa320 (hdl ia hlt)
            have hat328 : cl320.slots[((d ia)).toNatClampNeg]? = some (.int (0 : Int32)) := Has.at Ha320 hin328 rfl
            refine own_go (B := T319.setTop (mkF m 150 (LS_RRRIIRIIu r0 r1 r2 (own_N f0) (own_N t0) r5 (own_N ia) (d ia)) [(.int ((0 : Int32) &&& (255 : Int32))), (.int sla), (.ref r0)])) (fun t k => ?_) ?_
            · refine XS.aload X319.here hx rfl (hb hby d7_141) rfl rfl ?_
              refine XS.iload X319.here hx rfl (hb hby d7_143) rfl ?_
              show Steps p.tables e below (T319.setTop (mkF m 145 (LS_RRRIIRIIu r0 r1 r2 (own_N f0) (own_N t0) r5 (own_N ia) (d ia)) [(.int (d ia)), (.ref r5), (.int sla), (.ref r0)])) _
              refine X319.baloadBytes hx (j := (d ia)) (v := (.int (0 : Int32))) (by rw [e319]; exact Ar320.1) (State.isArrayOf_alike hZ.alike Ar320.2.1) Ar320.2.2 hin328 hat328 (g := (mkF m 145 (LS_RRRIIRIIu r0 r1 r2 (own_N f0) (own_N t0) r5 (own_N ia) (d ia)) [(.int (d ia)), (.ref r5), (.int sla), (.ref r0)])) rfl rfl (hb hby d7_145) _ ?_
              refine XS.sipush X319.here hx rfl (hb hby d7_146) ?_
              refine XS.iand X319.here hx rfl (hb hby d7_149) rfl ?_
              exact k
            have aZ_v329 := Nat.le_trans aZ (Nat.le_of_eq W288.size.symm)
            have aZ_v330 := Nat.le_trans aZ_v329 (Nat.le_of_eq W298.size.symm)
            have aZ_v331 := Nat.le_trans aZ_v330 (Nat.le_of_eq W302.size.symm)
            have aZ_v332 := Nat.le_trans aZ_v331 (Nat.le_of_eq W307.size.symm)
            have aZ_v333 := Nat.le_trans aZ_v332 (Nat.le_of_eq W313.size.symm)
            obtain ⟨_, _, ⟨T334, L334, k334, n334⟩, -, X334, ⟨Lc334, hQ334, l334, y334, z334⟩, st334⟩ := Jvm.LawKit.callS X319 hx (y := (⟨"java/lang/Math", "min", "(II)I"⟩ : MethodName)) hown (mvT hZ (hw _ (List.mem_of_getElem? (i := 50) rfl))) (mvT hZ (hw _ (List.mem_of_getElem? (i := 51) rfl))) (mvT hZ (hw _ (List.mem_of_getElem? (i := 52) rfl))) (mvT hZ (hw _ (List.mem_of_getElem? (i := 53) rfl))) (by decide) (backOf (W := 1) (rmmin l Z a0 hw [] sla ((0 : Int32) &&& (255 : Int32)) h313 n0 aZ_v333) hZ (hw _ (List.mem_of_getElem? (i := 53) rfl)) (hw _ (List.mem_of_getElem? (i := 52) rfl)) (by decide) (by decide)) (g := (mkF m 150 (LS_RRRIIRIIu r0 r1 r2 (own_N f0) (own_N t0) r5 (own_N ia) (d ia)) [(.int ((0 : Int32) &&& (255 : Int32))), (.int sla), (.ref r0)])) rfl (by rw [hml]; rfl) (argsL := [(.int sla), (.int ((0 : Int32) &&& (255 : Int32)))]) (rest := [(.ref r0)]) (lenOf pd__II_I rfl) rfl (by show 2 * 0 + _ ≤ _; exact Nat.le_of_eq rfl) (hb hby d7_150) (fun _ _ => ⟨rfl, e319, (by decide : 0 + 0 ≤ _), (by decide : 0 + 0 ≤ _)⟩)
            dsimp only [Pt.U, Pt.locs, Pt.cells, Pt.slots] at X334 l334 y334 z334 st334 hQ334
            subst l334 y334 z334
            obtain ⟨rfl, N334q, e334⟩ := hQ334
            have N334 := Fr.app N313 N334q
            refine own_go (B := T334.setTop (mkF m 153 (LS_RRRIIRIIu r0 r1 r2 (own_N f0) (own_N t0) r5 (own_N ia) (d ia)) [(.int (if ((0 : Int32) &&& (255 : Int32)) < sla then ((0 : Int32) &&& (255 : Int32)) else sla)), (.ref r0)])) (fun t k => st334 _ k) ?_
            have aE_v335 := aE_v308.wr W313
            obtain ⟨T336, h336, X336, e336, W336, st336⟩ := putF X334 hx hZ hown (host := "") (Or.inl (hw _ (List.mem_of_getElem? (i := 29) rfl))) Via.refl e334 aF_shortestLength_v318 aE_v335 (Or.inl (hw _ (List.mem_of_getElem? (i := 30) rfl))) (hw _ (List.mem_of_getElem? (i := 17) rfl)) (ty := .int) (by decide) rfl rfl (g := (mkF m 153 (LS_RRRIIRIIu r0 r1 r2 (own_N f0) (own_N t0) r5 (own_N ia) (d ia)) [(.int (if ((0 : Int32) &&& (255 : Int32)) < sla then ((0 : Int32) &&& (255 : Int32)) else sla)), (.ref r0)])) rfl rfl (hb hby d7_153)
            have N336 := Fr.snoc X336 N334 g_r0
            have Fw336 := aF_shortestLength_v318.same W336
            refine own_go (B := T336.setTop (mkF m 156 (LS_RRRIIRIIu r0 r1 r2 (own_N f0) (own_N t0) r5 (own_N ia) (d ia)) [])) (fun t k => st336 _ k) ?_
            have aF_maxFreq_v337 := aF_maxFreq.other W288 (Or.inl ne290)
            have aF_maxFreq_v338 := aF_maxFreq_v337.other W298 (Or.inl ne290)
            have aF_maxFreq_v339 := aF_maxFreq_v338.other W302 (Or.inr (slot_ne (Or.inl (hw _ (List.mem_of_getElem? (i := 55) rfl))) (Or.inl (hw _ (List.mem_of_getElem? (i := 47) rfl))) (by decide) (t := .int) (t' := .int) (by decide) (by decide)))
            have aF_maxFreq_v340 := aF_maxFreq_v339.other W307 (Or.inr (slot_ne (Or.inl (hw _ (List.mem_of_getElem? (i := 55) rfl))) (Or.inl (hw _ (List.mem_of_getElem? (i := 28) rfl))) (by decide) (t := .int) (t' := .int) (by decide) (by decide)))
            have aF_maxFreq_v341 := aF_maxFreq_v340.other W313 (Or.inr (slot_ne (Or.inl (hw _ (List.mem_of_getElem? (i := 55) rfl))) (Or.inl (hw _ (List.mem_of_getElem? (i := 49) rfl))) (by decide) (t := .int) (t' := .int) (by decide) (by decide)))
            have aF_maxFreq_v342 := aF_maxFreq_v341.other W336 (Or.inr (slot_ne (Or.inl (hw _ (List.mem_of_getElem? (i := 55) rfl))) (Or.inl (hw _ (List.mem_of_getElem? (i := 30) rfl))) (by decide) (t := .int) (t' := .int) (by decide) (by decide)))
            refine own_go (B := T336.setTop (mkF m 158 (LS_RRRIIRIIu r0 r1 r2 (own_N f0) (own_N t0) r5 (own_N ia) (d ia)) [(.ref r0), (.ref r0)])) (fun t k => ?_) ?_
            · refine XS.aloadN X336.here hx rfl (hb hby d7_156) rfl rfl ?_
              refine XS.aloadN X336.here hx rfl (hb hby d7_157) rfl rfl ?_
              exact k
            obtain ⟨T343, X343, e343, st343⟩ := getF X336 hx hZ hown (host := "") (Or.inl (hw _ (List.mem_of_getElem? (i := 54) rfl))) Via.refl e336 aF_maxFreq_v342 (g := (mkF m 158 (LS_RRRIIRIIu r0 r1 r2 (own_N f0) (own_N t0) r5 (own_N ia) (d ia)) [(.ref r0), (.ref r0)])) rfl rfl (hb hby d7_158)
            refine own_go (B := T343.setTop (mkF m 161 (LS_RRRIIRIIu r0 r1 r2 (own_N f0) (own_N t0) r5 (own_N ia) (d ia)) [(.int mfa), (.ref r0)])) (fun t k => st343 _ k) ?_
            have Fw313_v344 := Fw313.other W336 (Or.inr (slot_ne (Or.inl (hw _ (List.mem_of_getElem? (i := 49) rfl))) (Or.inl (hw _ (List.mem_of_getElem? (i := 30) rfl))) (by decide) (t := .int) (t' := .int) (by decide) (by decide)))
            refine own_go (B := T343.setTop (mkF m 163 (LS_RRRIIRIIu r0 r1 r2 (own_N f0) (own_N t0) r5 (own_N ia) (d ia)) [(.ref r0), (.ref r0), (.int mfa), (.ref r0)])) (fun t k => ?_) ?_
            · refine XS.aloadN X343.here hx rfl (hb hby d7_161) rfl rfl ?_
              refine XS.dup X343.here hx rfl (hb hby d7_162) rfl rfl ?_
              exact k
            obtain ⟨T345, X345, e345, st345⟩ := getF X343 hx hZ hown (host := "") (Or.inl (hw _ (List.mem_of_getElem? (i := 48) rfl))) Via.refl e343 Fw313_v344 (g := (mkF m 163 (LS_RRRIIRIIu r0 r1 r2 (own_N f0) (own_N t0) r5 (own_N ia) (d ia)) [(.ref r0), (.ref r0), (.int mfa), (.ref r0)])) rfl rfl (hb hby d7_163)
            refine own_go (B := T345.setTop (mkF m 166 (LS_RRRIIRIIu r0 r1 r2 (own_N f0) (own_N t0) r5 (own_N ia) (d ia)) [(.int (0 : Int32)), (.ref r0), (.int mfa), (.ref r0)])) (fun t k => st345 _ k) ?_
            refine own_go (B := T345.setTop (mkF m 169 (LS_RRRIIRIIu r0 r1 r2 (own_N f0) (own_N t0) r5 (own_N ia) (d ia)) [(.int ((0 : Int32) + (1 : Int32))), (.ref r0), (.int ((0 : Int32) + (1 : Int32))), (.int mfa), (.ref r0)])) (fun t k => ?_) ?_
            · refine XS.iconst X345.here hx rfl (hb hby d7_166) ?_
              refine XS.iadd X345.here hx rfl (hb hby d7_167) rfl ?_
              show Steps p.tables e below (T345.setTop (mkF m 168 (LS_RRRIIRIIu r0 r1 r2 (own_N f0) (own_N t0) r5 (own_N ia) (d ia)) [(.int ((0 : Int32) + (1 : Int32))), (.ref r0), (.int mfa), (.ref r0)])) _
              refine XS.dupX1 X345.here hx rfl (hb hby d7_168) rfl rfl rfl ?_
              exact k
            have aE_v346 := aE_v335.wr W336
            obtain ⟨T347, h347, X347, e347, W347, st347⟩ := putF X345 hx hZ hown (host := "") (Or.inl (hw _ (List.mem_of_getElem? (i := 48) rfl))) Via.refl e345 Fw313_v344 aE_v346 (Or.inl (hw _ (List.mem_of_getElem? (i := 49) rfl))) (hw _ (List.mem_of_getElem? (i := 17) rfl)) (ty := .int) (by decide) rfl rfl (g := (mkF m 169 (LS_RRRIIRIIu r0 r1 r2 (own_N f0) (own_N t0) r5 (own_N ia) (d ia)) [(.int ((0 : Int32) + (1 : Int32))), (.ref r0), (.int ((0 : Int32) + (1 : Int32))), (.int mfa), (.ref r0)])) rfl rfl (hb hby d7_169)
            have N347 := Fr.snoc X347 N336 g_r0
            have Fw347 := Fw313_v344.same W347
            refine own_go (B := T347.setTop (mkF m 172 (LS_RRRIIRIIu r0 r1 r2 (own_N f0) (own_N t0) r5 (own_N ia) (d ia)) [(.int ((0 : Int32) + (1 : Int32))), (.int mfa), (.ref r0)])) (fun t k => st347 _ k) ?_
            have aZ_v348 := Nat.le_trans aZ_v333 (Nat.le_of_eq W336.size.symm)
            have aZ_v349 := Nat.le_trans aZ_v348 (Nat.le_of_eq W347.size.symm)
            obtain ⟨_, _, ⟨T350, L350, k350, n350⟩, -, X350, ⟨Lc350, hQ350, l350, y350, z350⟩, st350⟩ := Jvm.LawKit.callS X347 hx (y := (⟨"java/lang/Math", "max", "(II)I"⟩ : MethodName)) hown (mvT hZ (hw _ (List.mem_of_getElem? (i := 56) rfl))) (mvT hZ (hw _ (List.mem_of_getElem? (i := 57) rfl))) (mvT hZ (hw _ (List.mem_of_getElem? (i := 52) rfl))) (mvT hZ (hw _ (List.mem_of_getElem? (i := 58) rfl))) (by decide) (backOf (W := 1) (rmmax l Z a0 hw [] mfa ((0 : Int32) + (1 : Int32)) h347 n0 aZ_v349) hZ (hw _ (List.mem_of_getElem? (i := 58) rfl)) (hw _ (List.mem_of_getElem? (i := 52) rfl)) (by decide) (by decide)) (g := (mkF m 172 (LS_RRRIIRIIu r0 r1 r2 (own_N f0) (own_N t0) r5 (own_N ia) (d ia)) [(.int ((0 : Int32) + (1 : Int32))), (.int mfa), (.ref r0)])) rfl (by rw [hml]; rfl) (argsL := [(.int mfa), (.int ((0 : Int32) + (1 : Int32)))]) (rest := [(.ref r0)]) (lenOf pd__II_I rfl) rfl (by show 2 * 0 + _ ≤ _; exact Nat.le_of_eq rfl) (hb hby d7_172) (fun _ _ => ⟨rfl, e347, (by decide : 0 + 0 ≤ _), (by decide : 0 + 0 ≤ _)⟩)
            dsimp only [Pt.U, Pt.locs, Pt.cells, Pt.slots] at X350 l350 y350 z350 st350 hQ350
            subst l350 y350 z350
            obtain ⟨rfl, N350q, e350⟩ := hQ350
            have N350 := Fr.app N347 N350q
            refine own_go (B := T350.setTop (mkF m 175 (LS_RRRIIRIIu r0 r1 r2 (own_N f0) (own_N t0) r5 (own_N ia) (d ia)) [(.int (if mfa < ((0 : Int32) + (1 : Int32)) then ((0 : Int32) + (1 : Int32)) else mfa)), (.ref r0)])) (fun t k => st350 _ k) ?_
            have aE_v351 := aE_v346.wr W347
            have aF_maxFreq_v352 := aF_maxFreq_v342.other W347 (Or.inr (slot_ne (Or.inl (hw _ (List.mem_of_getElem? (i := 55) rfl))) (Or.inl (hw _ (List.mem_of_getElem? (i := 49) rfl))) (by decide) (t := .int) (t' := .int) (by decide) (by decide)))
            obtain ⟨T353, h353, X353, e353, W353, st353⟩ := putF X350 hx hZ hown (host := "") (Or.inl (hw _ (List.mem_of_getElem? (i := 54) rfl))) Via.refl e350 aF_maxFreq_v352 aE_v351 (Or.inl (hw _ (List.mem_of_getElem? (i := 55) rfl))) (hw _ (List.mem_of_getElem? (i := 17) rfl)) (ty := .int) (by decide) rfl rfl (g := (mkF m 175 (LS_RRRIIRIIu r0 r1 r2 (own_N f0) (own_N t0) r5 (own_N ia) (d ia)) [(.int (if mfa < ((0 : Int32) + (1 : Int32)) then ((0 : Int32) + (1 : Int32)) else mfa)), (.ref r0)])) rfl rfl (hb hby d7_175)
            have N353 := Fr.snoc X353 N350 g_r0
            have Fw353 := aF_maxFreq_v352.same W353
            refine own_go (B := T353.setTop (mkF m 178 (LS_RRRIIRIIu r0 r1 r2 (own_N f0) (own_N t0) r5 (own_N ia) (d ia)) [])) (fun t k => st353 _ k) ?_
            refine own_go (B := T353.setTop (mkF m 27 (LS_RRRIIRIIu r0 r1 r2 (own_N f0) (own_N t0) r5 (own_N (ia + 1)) (d ia)) [])) (fun t k => ?_) ?_
            · refine XS.iinc X353.here hx rfl (hb hby d7_178) rfl (l' := (LS_RRRIIRIIu r0 r1 r2 (own_N f0) (own_N t0) r5 ((own_N ia) + (1 : Int32)) (d ia))) rfl ?_
              change Steps p.tables e below (T353.setTop (mkF m 181 (LS_RRRIIRIIu r0 r1 r2 (own_N f0) (own_N t0) r5 ((own_N ia) + (1 : Int32)) (d ia)) [])) _
              rw [show ((own_N ia) + (1 : Int32)) = (own_N (ia + 1)) from own_N1 (by omega)]
              refine XS.goto X353.here hx rfl (pc0 := 181) (pc' := 27) rfl (hb hby d7_181) (by decide) (by decide) ?_
              exact k
            have aZ_v354 := Nat.le_trans aZ_v349 (Nat.le_of_eq W353.size.symm)
            have aK_v355 := aK.wr W288 hia
            have aK_v356 := aK_v355.wr W298 hia
            have aK_v357 := aK_v356.wr W302 (Or.inl (List.mem_of_getElem? (i := 0) rfl))
            have aK_v358 := aK_v357.wr W307 (Or.inl (List.mem_of_getElem? (i := 0) rfl))
            have aK_v359 := aK_v358.wr W313 (Or.inl (List.mem_of_getElem? (i := 0) rfl))
            have aK_v360 := aK_v359.wr W336 (Or.inl (List.mem_of_getElem? (i := 0) rfl))
            have aK_v361 := aK_v360.wr W347 (Or.inl (List.mem_of_getElem? (i := 0) rfl))
            have aK_v362 := aK_v361.wr W353 (Or.inl (List.mem_of_getElem? (i := 0) rfl))
            have aE_v363 := aE_v351.wr W353
            have aF_entries_v364 := aF_entries_v289.other W298 (Or.inl ne290)
            have aF_entries_v365 := aF_entries_v364.other W302 (Or.inr (slot_ne (Or.inl (hw _ (List.mem_of_getElem? (i := 26) rfl))) (Or.inl (hw _ (List.mem_of_getElem? (i := 47) rfl))) (by decide) (t := (.array .int)) (t' := .int) (by decide) (by decide)))
            have aF_entries_v366 := aF_entries_v365.other W307 (Or.inr (slot_ne (Or.inl (hw _ (List.mem_of_getElem? (i := 26) rfl))) (Or.inl (hw _ (List.mem_of_getElem? (i := 28) rfl))) (by decide) (t := (.array .int)) (t' := .int) (by decide) (by decide)))
            have aF_entries_v367 := aF_entries_v366.other W313 (Or.inr (slot_ne (Or.inl (hw _ (List.mem_of_getElem? (i := 26) rfl))) (Or.inl (hw _ (List.mem_of_getElem? (i := 49) rfl))) (by decide) (t := (.array .int)) (t' := .int) (by decide) (by decide)))
            have aF_entries_v368 := aF_entries_v367.other W336 (Or.inr (slot_ne (Or.inl (hw _ (List.mem_of_getElem? (i := 26) rfl))) (Or.inl (hw _ (List.mem_of_getElem? (i := 30) rfl))) (by decide) (t := (.array .int)) (t' := .int) (by decide) (by decide)))
            have aF_entries_v369 := aF_entries_v368.other W347 (Or.inr (slot_ne (Or.inl (hw _ (List.mem_of_getElem? (i := 26) rfl))) (Or.inl (hw _ (List.mem_of_getElem? (i := 49) rfl))) (by decide) (t := (.array .int)) (t' := .int) (by decide) (by decide)))
            have aF_entries_v370 := aF_entries_v369.other W353 (Or.inr (slot_ne (Or.inl (hw _ (List.mem_of_getElem? (i := 26) rfl))) (Or.inl (hw _ (List.mem_of_getElem? (i := 55) rfl))) (by decide) (t := (.array .int)) (t' := .int) (by decide) (by decide)))
            have Fw302_v371 := Fw302.other W307 (Or.inr (slot_ne (Or.inl (hw _ (List.mem_of_getElem? (i := 47) rfl))) (Or.inl (hw _ (List.mem_of_getElem? (i := 28) rfl))) (by decide) (t := .int) (t' := .int) (by decide) (by decide)))
            have Fw302_v372 := Fw302_v371.other W313 (Or.inr (slot_ne (Or.inl (hw _ (List.mem_of_getElem? (i := 47) rfl))) (Or.inl (hw _ (List.mem_of_getElem? (i := 49) rfl))) (by decide) (t := .int) (t' := .int) (by decide) (by decide)))
            have Fw302_v373 := Fw302_v372.other W336 (Or.inr (slot_ne (Or.inl (hw _ (List.mem_of_getElem? (i := 47) rfl))) (Or.inl (hw _ (List.mem_of_getElem? (i := 30) rfl))) (by decide) (t := .int) (t' := .int) (by decide) (by decide)))
            have Fw302_v374 := Fw302_v373.other W347 (Or.inr (slot_ne (Or.inl (hw _ (List.mem_of_getElem? (i := 47) rfl))) (Or.inl (hw _ (List.mem_of_getElem? (i := 49) rfl))) (by decide) (t := .int) (t' := .int) (by decide) (by decide)))
            have Fw302_v375 := Fw302_v374.other W353 (Or.inr (slot_ne (Or.inl (hw _ (List.mem_of_getElem? (i := 47) rfl))) (Or.inl (hw _ (List.mem_of_getElem? (i := 55) rfl))) (by decide) (t := .int) (t' := .int) (by decide) (by decide)))
            have Fw307_v376 := Fw307.other W313 (Or.inr (slot_ne (Or.inl (hw _ (List.mem_of_getElem? (i := 28) rfl))) (Or.inl (hw _ (List.mem_of_getElem? (i := 49) rfl))) (by decide) (t := .int) (t' := .int) (by decide) (by decide)))
            have Fw307_v377 := Fw307_v376.other W336 (Or.inr (slot_ne (Or.inl (hw _ (List.mem_of_getElem? (i := 28) rfl))) (Or.inl (hw _ (List.mem_of_getElem? (i := 30) rfl))) (by decide) (t := .int) (t' := .int) (by decide) (by decide)))
            have Fw307_v378 := Fw307_v377.other W347 (Or.inr (slot_ne (Or.inl (hw _ (List.mem_of_getElem? (i := 28) rfl))) (Or.inl (hw _ (List.mem_of_getElem? (i := 49) rfl))) (by decide) (t := .int) (t' := .int) (by decide) (by decide)))
            have Fw307_v379 := Fw307_v378.other W353 (Or.inr (slot_ne (Or.inl (hw _ (List.mem_of_getElem? (i := 28) rfl))) (Or.inl (hw _ (List.mem_of_getElem? (i := 55) rfl))) (by decide) (t := .int) (t' := .int) (by decide) (by decide)))
            have Fw347_v380 := Fw347.other W353 (Or.inr (slot_ne (Or.inl (hw _ (List.mem_of_getElem? (i := 49) rfl))) (Or.inl (hw _ (List.mem_of_getElem? (i := 55) rfl))) (by decide) (t := .int) (t' := .int) (by decide) (by decide)))
            have Fw336_v381 := Fw336.other W347 (Or.inr (slot_ne (Or.inl (hw _ (List.mem_of_getElem? (i := 30) rfl))) (Or.inl (hw _ (List.mem_of_getElem? (i := 49) rfl))) (by decide) (t := .int) (t' := .int) (by decide) (by decide)))
            have Fw336_v382 := Fw336_v381.other W353 (Or.inr (slot_ne (Or.inl (hw _ (List.mem_of_getElem? (i := 30) rfl))) (Or.inl (hw _ (List.mem_of_getElem? (i := 55) rfl))) (by decide) (t := .int) (t' := .int) (by decide) (by decide)))
            have aF_positionCount_v383 := aF_positionCount_v295.other W298 (Or.inl ne290)
            have aF_positionCount_v384 := aF_positionCount_v383.other W302 (Or.inr (slot_ne (Or.inl (hw _ (List.mem_of_getElem? (i := 45) rfl))) (Or.inl (hw _ (List.mem_of_getElem? (i := 47) rfl))) (by decide) (t := .int) (t' := .int) (by decide) (by decide)))
            have aF_positionCount_v385 := aF_positionCount_v384.other W307 (Or.inr (slot_ne (Or.inl (hw _ (List.mem_of_getElem? (i := 45) rfl))) (Or.inl (hw _ (List.mem_of_getElem? (i := 28) rfl))) (by decide) (t := .int) (t' := .int) (by decide) (by decide)))
            have aF_positionCount_v386 := aF_positionCount_v385.other W313 (Or.inr (slot_ne (Or.inl (hw _ (List.mem_of_getElem? (i := 45) rfl))) (Or.inl (hw _ (List.mem_of_getElem? (i := 49) rfl))) (by decide) (t := .int) (t' := .int) (by decide) (by decide)))
            have aF_positionCount_v387 := aF_positionCount_v386.other W336 (Or.inr (slot_ne (Or.inl (hw _ (List.mem_of_getElem? (i := 45) rfl))) (Or.inl (hw _ (List.mem_of_getElem? (i := 30) rfl))) (by decide) (t := .int) (t' := .int) (by decide) (by decide)))
            have aF_positionCount_v388 := aF_positionCount_v387.other W347 (Or.inr (slot_ne (Or.inl (hw _ (List.mem_of_getElem? (i := 45) rfl))) (Or.inl (hw _ (List.mem_of_getElem? (i := 49) rfl))) (by decide) (t := .int) (t' := .int) (by decide) (by decide)))
            have aF_positionCount_v389 := aF_positionCount_v388.other W353 (Or.inr (slot_ne (Or.inl (hw _ (List.mem_of_getElem? (i := 45) rfl))) (Or.inl (hw _ (List.mem_of_getElem? (i := 55) rfl))) (by decide) (t := .int) (t' := .int) (by decide) (by decide)))
            have aF_pages_v390 := aF_pages.other W288 (Or.inl ne290)
            have aF_pages_v391 := aF_pages_v390.other W298 (Or.inl ne290)
            have aF_pages_v392 := aF_pages_v391.other W302 (Or.inr (slot_ne (Or.inl (hw _ (List.mem_of_getElem? (i := 34) rfl))) (Or.inl (hw _ (List.mem_of_getElem? (i := 47) rfl))) (by decide) (t := (.array (.array .int))) (t' := .int) (by decide) (by decide)))
            have aF_pages_v393 := aF_pages_v392.other W307 (Or.inr (slot_ne (Or.inl (hw _ (List.mem_of_getElem? (i := 34) rfl))) (Or.inl (hw _ (List.mem_of_getElem? (i := 28) rfl))) (by decide) (t := (.array (.array .int))) (t' := .int) (by decide) (by decide)))
            have aF_pages_v394 := aF_pages_v393.other W313 (Or.inr (slot_ne (Or.inl (hw _ (List.mem_of_getElem? (i := 34) rfl))) (Or.inl (hw _ (List.mem_of_getElem? (i := 49) rfl))) (by decide) (t := (.array (.array .int))) (t' := .int) (by decide) (by decide)))
            have aF_pages_v395 := aF_pages_v394.other W336 (Or.inr (slot_ne (Or.inl (hw _ (List.mem_of_getElem? (i := 34) rfl))) (Or.inl (hw _ (List.mem_of_getElem? (i := 30) rfl))) (by decide) (t := (.array (.array .int))) (t' := .int) (by decide) (by decide)))
            have aF_pages_v396 := aF_pages_v395.other W347 (Or.inr (slot_ne (Or.inl (hw _ (List.mem_of_getElem? (i := 34) rfl))) (Or.inl (hw _ (List.mem_of_getElem? (i := 49) rfl))) (by decide) (t := (.array (.array .int))) (t' := .int) (by decide) (by decide)))
            have aF_pages_v397 := aF_pages_v396.other W353 (Or.inr (slot_ne (Or.inl (hw _ (List.mem_of_getElem? (i := 34) rfl))) (Or.inl (hw _ (List.mem_of_getElem? (i := 55) rfl))) (by decide) (t := (.array (.array .int))) (t' := .int) (by decide) (by decide)))
            have aF_page_v398 := aF_page.other W288 (Or.inl ne290)
            have aF_page_v399 := aF_page_v398.other W298 (Or.inl ne290)
            have aF_page_v400 := aF_page_v399.other W302 (Or.inr (slot_ne (Or.inl (hw _ (List.mem_of_getElem? (i := 36) rfl))) (Or.inl (hw _ (List.mem_of_getElem? (i := 47) rfl))) (by decide) (t := (.array .int)) (t' := .int) (by decide) (by decide)))
            have aF_page_v401 := aF_page_v400.other W307 (Or.inr (slot_ne (Or.inl (hw _ (List.mem_of_getElem? (i := 36) rfl))) (Or.inl (hw _ (List.mem_of_getElem? (i := 28) rfl))) (by decide) (t := (.array .int)) (t' := .int) (by decide) (by decide)))
            have aF_page_v402 := aF_page_v401.other W313 (Or.inr (slot_ne (Or.inl (hw _ (List.mem_of_getElem? (i := 36) rfl))) (Or.inl (hw _ (List.mem_of_getElem? (i := 49) rfl))) (by decide) (t := (.array .int)) (t' := .int) (by decide) (by decide)))
            have aF_page_v403 := aF_page_v402.other W336 (Or.inr (slot_ne (Or.inl (hw _ (List.mem_of_getElem? (i := 36) rfl))) (Or.inl (hw _ (List.mem_of_getElem? (i := 30) rfl))) (by decide) (t := (.array .int)) (t' := .int) (by decide) (by decide)))
            have aF_page_v404 := aF_page_v403.other W347 (Or.inr (slot_ne (Or.inl (hw _ (List.mem_of_getElem? (i := 36) rfl))) (Or.inl (hw _ (List.mem_of_getElem? (i := 49) rfl))) (by decide) (t := (.array .int)) (t' := .int) (by decide) (by decide)))
            have aF_page_v405 := aF_page_v404.other W353 (Or.inr (slot_ne (Or.inl (hw _ (List.mem_of_getElem? (i := 36) rfl))) (Or.inl (hw _ (List.mem_of_getElem? (i := 55) rfl))) (by decide) (t := (.array .int)) (t' := .int) (by decide) (by decide)))
            have V298_v406 := V298.other W302 (Ne.symm ne290)
            have V298_v407 := V298_v406.other W307 (Ne.symm ne290)
            have V298_v408 := V298_v407.other W313 (Ne.symm ne290)
            have V298_v409 := V298_v408.other W336 (Ne.symm ne290)
            have V298_v410 := V298_v409.other W347 (Ne.symm ne290)
            have V298_v411 := V298_v410.other W353 (Ne.symm ne290)
            have aVq_v412 := aVq.other W288 (Ne.symm nea)
            have aVq_v413 := aVq_v412.other W298 (Ne.symm nea)
            have ne415 : qo ≠ r0 := Exa.ne aEq aE (by decide)
            have aVq_v414 := aVq_v413.other W302 ne415
            have aVq_v416 := aVq_v414.other W307 ne415
            have aVq_v417 := aVq_v416.other W313 ne415
            have aVq_v418 := aVq_v417.other W336 ne415
            have aVq_v419 := aVq_v418.other W347 ne415
            have aVq_v420 := aVq_v419.other W353 ne415
            have aEq_v421 := aEq.wr W288
            have aEq_v422 := aEq_v421.wr W298
            have aEq_v423 := aEq_v422.wr W302
            have aEq_v424 := aEq_v423.wr W307
            have aEq_v425 := aEq_v424.wr W313
            have aEq_v426 := aEq_v425.wr W336
            have aEq_v427 := aEq_v426.wr W347
            have aEq_v428 := aEq_v427.wr W353
            have ne430 : pg ≠ ea := own_neT aVg aVe (by decide)
            have aVg_v429 := aVg.other W288 ne430
            have aVg_v431 := aVg_v429.other W298 ne430
            have ne433 : r0 ≠ pg := Exa.neArv aE aVg (hw _ (List.mem_of_getElem? (i := 17) rfl))
            have aVg_v432 := aVg_v431.other W302 (Ne.symm ne433)
            have aVg_v434 := aVg_v432.other W307 (Ne.symm ne433)
            have aVg_v435 := aVg_v434.other W313 (Ne.symm ne433)
            have aVg_v436 := aVg_v435.other W336 (Ne.symm ne433)
            have aVg_v437 := aVg_v436.other W347 (Ne.symm ne433)
            have aVg_v438 := aVg_v437.other W353 (Ne.symm ne433)
            have aVp_v439 := aVp.other W288 (Ne.symm nea2)
            have aVp_v440 := aVp_v439.other W298 (Ne.symm nea2)
            have ne442 : r0 ≠ r2 := Exa.neArv aE_v301 aVp_v440 (hw _ (List.mem_of_getElem? (i := 17) rfl))
            have aVp_v441 := aVp_v440.other W302 (Ne.symm ne442)
            have aVp_v443 := aVp_v441.other W307 (Ne.symm ne442)
            have aVp_v444 := aVp_v443.other W313 (Ne.symm ne442)
            have aVp_v445 := aVp_v444.other W336 (Ne.symm ne442)
            have aVp_v446 := aVp_v445.other W347 (Ne.symm ne442)
            have aVp_v447 := aVp_v446.other W353 (Ne.symm ne442)
            have aVd_v448 := aVd.other W288 (Ne.symm nea1)
            have aVd_v449 := aVd_v448.other W298 (Ne.symm nea1)
            have ne451 : r0 ≠ r1 := Exa.neArv aE_v301 aVd_v449 (hw _ (List.mem_of_getElem? (i := 17) rfl))
            have aVd_v450 := aVd_v449.other W302 (Ne.symm ne451)
            have aVd_v452 := aVd_v450.other W307 (Ne.symm ne451)
            have aVd_v453 := aVd_v452.other W313 (Ne.symm ne451)
            have aVd_v454 := aVd_v453.other W336 (Ne.symm ne451)
            have aVd_v455 := aVd_v454.other W347 (Ne.symm ne451)
            have aVd_v456 := aVd_v455.other W353 (Ne.symm ne451)
            have aVl_v457 := aVl.other W288 ne322
            have aVl_v458 := aVl_v457.other W298 ne322
            have aVl_v459 := aVl_v458.other W302 (Ne.symm ne325)
            have aVl_v460 := aVl_v459.other W307 (Ne.symm ne325)
            have aVl_v461 := aVl_v460.other W313 (Ne.symm ne325)
            have aVl_v462 := aVl_v461.other W336 (Ne.symm ne325)
            have aVl_v463 := aVl_v462.other W347 (Ne.symm ne325)
            have aVl_v464 := aVl_v463.other W353 (Ne.symm ne325)
            exact IHa (ia + 1, 8, (.val (.int (d ia)))) _ _ (show t0 - (ia + 1) < t0 - ia by omega) (own_mono X353 (by simp) (by simp)) N353 (by rw [e353]; exact ⟨ea, kea, _, _, _, _, aZ_v354, aK_v362, aE_v363, aF_entries_v370, (by rw [own_sz_new hc46_7]; exact Fw302_v375), Fw307_v379, Fw347_v380, Fw353, Fw336_v382, aF_positionCount_v389, aF_pages_v397, aF_page_v405, V298_v411, aVq_v420, aEq_v428, aVg_v438, aVp_v447, aVd_v456, aVl_v464, hia, g_ea, nea, nea1, nea2, Or.inl rfl, (by show 2 * own_sz d (ia + 1) ≤ 8; rw [own_sz_new hc46_7]; omega), (own_H_new hHa hc46_7), Nat.le_succ_of_le hfa, hlt, Or.inr ⟨_, rfl⟩⟩)
      · have hiat : ia = t0 := by have := own_nlt (by omega) (by omega) hc31_3; omega
        refine own_go (B := Ta.setTop (mkF m 187 (LS_RRRIIRIWu r0 r1 r2 (own_N f0) (own_N t0) r5 (own_N f0) wa7) [])) (fun t k => ?_) ?_
        · refine XS.icmpYes Xa.here hx rfl (pc0 := 31) (pc' := 184) rfl (hb hby d7_31) rfl (flt hc31_3).2.1 (by decide) (by decide) ?_
          refine XS.iloadN Xa.here hx rfl (hb hby d7_184) rfl ?_
          show Steps p.tables e below (Ta.setTop (mkF m 185 (LS_RRRIIRIWu r0 r1 r2 (own_N f0) (own_N t0) r5 (own_N ia) wa7) [(.int (own_N f0))])) _
          refine XS.istore Xa.here hx rfl (hb hby d7_185) rfl (l' := (LS_RRRIIRIWu r0 r1 r2 (own_N f0) (own_N t0) r5 (own_N f0) wa7)) rfl ?_
          exact k
        refine own_loop Xa Na (ι := Nat × Nat × Slot × Slot) (fun i => t0 - i.1) (fun i => i.2.1 + 0) (fun i => 32 * i.2.1 + 0) (fun i hh => ∃ (qb : Addr) (kqb : ClassId) (pfb : Nat → Int32) (zpb : Nat), n0 ≤ Array.size hh ∧ Keep h0 hh [r0, eo, qo, pg] ∧ Exa Z hh r0 "com/example/terms_to_scores/termstoscores/index/Postings" ∧ Fld Z hh r0 "com/example/terms_to_scores/termstoscores/index/Postings" "entries" "[I" (.ref ea) ∧ Fld Z hh r0 "com/example/terms_to_scores/termstoscores/index/Postings" "size" "I" (.int (own_N (own_sz d ia))) ∧ Fld Z hh r0 "com/example/terms_to_scores/termstoscores/index/Postings" "lastDoc" "I" (.int (own_ld d ia)) ∧ Fld Z hh r0 "com/example/terms_to_scores/termstoscores/index/Postings" "lastFreq" "I" (.int lfa) ∧ Fld Z hh r0 "com/example/terms_to_scores/termstoscores/index/Postings" "maxFreq" "I" (.int mfa) ∧ Fld Z hh r0 "com/example/terms_to_scores/termstoscores/index/Postings" "shortestLength" "I" (.int sla) ∧ Fld Z hh r0 "com/example/terms_to_scores/termstoscores/index/Postings" "positionCount" "I" (.int (own_N i.1)) ∧ Fld Z hh r0 "com/example/terms_to_scores/termstoscores/index/Postings" "pages" "[[I" (.ref pg) ∧ Fld Z hh r0 "com/example/terms_to_scores/termstoscores/index/Postings" "page" "[I" (.ref qb) ∧ Arv Z hh ea kea .int (own_N 8) (own_V ena 8) (.int (0 : Int32)) ∧ Arv Z hh qb kqb .int (own_N zpb) (own_V pfb zpb) (.int (0 : Int32)) ∧ Exa Z hh qb "[I" ∧ Arv Z hh pg kg (.array .int) (1 : Int32) [.ref qb] .null ∧ Arv Z hh r2 kp .int (own_N np) (own_V ps np) (.int (0 : Int32)) ∧ Arv Z hh r1 kd .int (own_N nd) (own_V d nd) (.int (0 : Int32)) ∧ Arv Z hh r5 kl .byte zl [] (.int (0 : Int32)) ∧ (qb ∈ [r0, eo, qo, pg] ∨ h0.size ≤ qb) ∧ n0 ≤ qb ∧ ea ≠ qb ∧ qb ≠ r1 ∧ qb ≠ r2 ∧ (4 ≤ zpb ∧ i.1 ≤ zpb ∧ zpb ≤ 30) ∧ (∀ t, t < i.1 → pfb t = ps t) ∧ (f0 ≤ i.1 ∧ i.1 ≤ t0) ∧ (i.2.1 = 0 ∨ (i.2.1 = 1 ∧ i.1 = t0)) ∧ (i.2.2.1 = Slot.unset ∨ ∃ x : Int32, i.2.2.1 = Slot.val (.int x)) ∧ (i.2.2.2 = Slot.unset ∨ ∃ x : Int32, i.2.2.2 = Slot.val (.int x))) (fun i => mkF m 187 (LS_RRRIIRIWW r0 r1 r2 (own_N f0) (own_N t0) r5 (own_N i.1) i.2.2.1 i.2.2.2) []) ?_ ?_
        · rintro ⟨ib, gb, wb7, wb8⟩ Tb Lb Xb0 Nb ⟨qb, kqb, pfb, zpb, bZ, bK, bE, bF_entries, bF_size, bF_lastDoc, bF_lastFreq, bF_maxFreq, bF_shortestLength, bF_positionCount, bF_pages, bF_page, bVe, bVq, bEq, bVg, bVp, bVd, bVl, hib, g_qb, neb, nqb1, nqb2, hzb, hpb, hfb, hgb, hwb7, hwb8⟩ IHb
          dsimp only at bF_positionCount hzb hpb hfb hgb
          rcases hgb with rfl | ⟨rfl, hbt⟩
          · have Xb := own_mono (cells' := 0) (slots' := 0) Xb0 (by simp) (by simp)
            refine own_go (B := Tb.setTop (mkF m 187 (LS_RRRIIRIWW r0 r1 r2 (own_N f0) (own_N t0) r5 (own_N ib) wb7 wb8) [])) (fun t k => k) ?_
            refine own_go (B := Tb.setTop (mkF m 191 (LS_RRRIIRIWW r0 r1 r2 (own_N f0) (own_N t0) r5 (own_N ib) wb7 wb8) [(.int (own_N t0)), (.int (own_N ib))])) (fun t k => ?_) ?_
            · refine XS.iload Xb.here hx rfl (hb hby d7_187) rfl ?_
              refine XS.iload Xb.here hx rfl (hb hby d7_189) rfl ?_
              exact k
            by_cases hc191_465 : (own_N ib) < (own_N t0)
            · have hlb : ib < t0 := own_lt (by omega) (by omega) hc191_465
              refine own_go (B := Tb.setTop (mkF m 195 (LS_RRRIIRIWW r0 r1 r2 (own_N f0) (own_N t0) r5 (own_N ib) wb7 wb8) [(.ref r0)])) (fun t k => ?_) ?_
              · refine XS.icmpNo Xb.here hx rfl (hb hby d7_191) rfl (tlt hc191_465).2.1 ?_
                refine XS.aloadN Xb.here hx rfl (hb hby d7_194) rfl rfl ?_
                exact k
              obtain ⟨T466, X466, e466, st466⟩ := getF Xb hx hZ hown (host := "") (Or.inl (hw _ (List.mem_of_getElem? (i := 44) rfl))) Via.refl rfl bF_positionCount (g := (mkF m 195 (LS_RRRIIRIWW r0 r1 r2 (own_N f0) (own_N t0) r5 (own_N ib) wb7 wb8) [(.ref r0)])) rfl rfl (hb hby d7_195)
              refine own_go (B := T466.setTop (mkF m 198 (LS_RRRIIRIWW r0 r1 r2 (own_N f0) (own_N t0) r5 (own_N ib) wb7 wb8) [(.int (own_N ib))])) (fun t k => st466 _ k) ?_
              refine own_go (B := T466.setTop (mkF m 206 (LS_RRRIIRIIW r0 r1 r2 (own_N f0) (own_N t0) r5 (own_N ib) (own_N ib) wb8) [(.int (own_N ib))])) (fun t k => ?_) ?_
              · refine XS.sipush X466.here hx rfl (hb hby d7_198) ?_
                refine XS.iand X466.here hx rfl (hb hby d7_201) rfl ?_
                change Steps p.tables e below (T466.setTop (mkF m 202 (LS_RRRIIRIWW r0 r1 r2 (own_N f0) (own_N t0) r5 (own_N ib) wb7 wb8) [(.int ((own_N ib) &&& (8191 : Int32)))])) _
                rw [show ((own_N ib) &&& (8191 : Int32)) = (own_N ib) from own_Nm (by omega)]
                show Steps p.tables e below (T466.setTop (mkF m 202 (LS_RRRIIRIWW r0 r1 r2 (own_N f0) (own_N t0) r5 (own_N ib) wb7 wb8) [(.int (own_N ib))])) _
                refine XS.istore X466.here hx rfl (hb hby d7_202) rfl (l' := (LS_RRRIIRIIW r0 r1 r2 (own_N f0) (own_N t0) r5 (own_N ib) (own_N ib) wb8)) (by rcases hwb7 with rfl | ⟨_, rfl⟩ <;> rfl) ?_
                refine XS.iload X466.here hx rfl (hb hby d7_204) rfl ?_
                exact k
              by_cases hc206_467 : (own_N ib) = (0 : Int32)
              · refine own_go (B := T466.setTop (mkF m 210 (LS_RRRIIRIIW r0 r1 r2 (own_N f0) (own_N t0) r5 (own_N ib) (own_N ib) wb8) [(.ref r0)])) (fun t k => ?_) ?_
                · refine XS.ifNo X466.here hx rfl (hb hby d7_206) rfl ((if0 _ _).trans (teq hc206_467).2) ?_
                  refine XS.aloadN X466.here hx rfl (hb hby d7_209) rfl rfl ?_
                  exact k
                obtain ⟨T468, X468, e468, st468⟩ := getF X466 hx hZ hown (host := "") (Or.inl (hw _ (List.mem_of_getElem? (i := 44) rfl))) Via.refl e466 bF_positionCount (g := (mkF m 210 (LS_RRRIIRIIW r0 r1 r2 (own_N f0) (own_N t0) r5 (own_N ib) (own_N ib) wb8) [(.ref r0)])) rfl rfl (hb hby d7_210)
                refine own_go (B := T468.setTop (mkF m 213 (LS_RRRIIRIIW r0 r1 r2 (own_N f0) (own_N t0) r5 (own_N ib) (own_N ib) wb8) [(.int (own_N ib))])) (fun t k => st468 _ k) ?_
                refine own_go (B := T468.setTop (mkF m 279 (LS_RRRIIRIIW r0 r1 r2 (own_N f0) (own_N t0) r5 (own_N ib) (own_N ib) wb8) [(.ref r0), (.int (own_N ib))])) (fun t k => ?_) ?_
                · refine XS.ifYes X468.here hx rfl (pc0 := 213) (pc' := 276) rfl (hb hby d7_213) rfl ((if0 _ _).trans (flt (fun q => absurd (own_lt (x := 0) (n := ib) (by decide) (by omega) q) (by have := own_eq (x := ib) (n := 0) (by omega) (by decide) hc206_467; omega))).2.2.2) (by decide) (by decide) ?_
                  refine XS.iload X468.here hx rfl (hb hby d7_276) rfl ?_
                  show Steps p.tables e below (T468.setTop (mkF m 278 (LS_RRRIIRIIW r0 r1 r2 (own_N f0) (own_N t0) r5 (own_N ib) (own_N ib) wb8) [(.int (own_N ib))])) _
                  refine XS.aloadN X468.here hx rfl (hb hby d7_278) rfl rfl ?_
                  exact k
                obtain ⟨T469, X469, e469, st469⟩ := getF X468 hx hZ hown (host := "") (Or.inl (hw _ (List.mem_of_getElem? (i := 35) rfl))) Via.refl e468 bF_page (g := (mkF m 279 (LS_RRRIIRIIW r0 r1 r2 (own_N f0) (own_N t0) r5 (own_N ib) (own_N ib) wb8) [(.ref r0), (.int (own_N ib))])) rfl rfl (hb hby d7_279)
                refine own_go (B := T469.setTop (mkF m 282 (LS_RRRIIRIIW r0 r1 r2 (own_N f0) (own_N t0) r5 (own_N ib) (own_N ib) wb8) [(.ref qb), (.int (own_N ib))])) (fun t k => st469 _ k) ?_
                obtain ⟨cl470, Ar470, qa470, Sa470, Na470, Ha470, Ga470⟩ := id bVq
                refine own_go (B := T469.setTop (mkF m 283 (LS_RRRIIRIIW r0 r1 r2 (own_N f0) (own_N t0) r5 (own_N ib) (own_N ib) wb8) [(.int (own_N zpb)), (.int (own_N ib))])) (fun t k => ?_) ?_
                · refine X469.arraylength hx (by rw [e469]; exact Ar470.1) (State.isArrayOf_alike hZ.alike Ar470.2.1) (g := (mkF m 282 (LS_RRRIIRIIW r0 r1 r2 (own_N f0) (own_N t0) r5 (own_N ib) (own_N ib) wb8) [(.ref qb), (.int (own_N ib))])) rfl rfl (hb hby d7_282) _ ?_
                  rw [len_of Sa470 Na470]
                  exact k
                by_cases hc283_471 : (own_N ib) = (own_N zpb)
                · have hbz : ib = zpb := own_eq (by omega) (by omega) hc283_471
                  refine own_go (B := T469.setTop (mkF m 288 (LS_RRRIIRIIW r0 r1 r2 (own_N f0) (own_N t0) r5 (own_N ib) (own_N ib) wb8) [(.ref r0), (.ref r0)])) (fun t k => ?_) ?_
                  · refine XS.icmpNo X469.here hx rfl (hb hby d7_283) rfl (teq hc283_471).2 ?_
                    refine XS.aloadN X469.here hx rfl (hb hby d7_286) rfl rfl ?_
                    show Steps p.tables e below (T469.setTop (mkF m 287 (LS_RRRIIRIIW r0 r1 r2 (own_N f0) (own_N t0) r5 (own_N ib) (own_N ib) wb8) [(.ref r0)])) _
                    refine XS.aloadN X469.here hx rfl (hb hby d7_287) rfl rfl ?_
                    exact k
                  obtain ⟨T472, X472, e472, st472⟩ := getF X469 hx hZ hown (host := "") (Or.inl (hw _ (List.mem_of_getElem? (i := 35) rfl))) Via.refl e469 bF_page (g := (mkF m 288 (LS_RRRIIRIIW r0 r1 r2 (own_N f0) (own_N t0) r5 (own_N ib) (own_N ib) wb8) [(.ref r0), (.ref r0)])) rfl rfl (hb hby d7_288)
                  refine own_go (B := T472.setTop (mkF m 291 (LS_RRRIIRIIW r0 r1 r2 (own_N f0) (own_N t0) r5 (own_N ib) (own_N ib) wb8) [(.ref qb), (.ref r0)])) (fun t k => st472 _ k) ?_
                  refine own_go (B := T472.setTop (mkF m 303 (LS_RRRIIRIIW r0 r1 r2 (own_N f0) (own_N t0) r5 (own_N ib) (own_N ib) wb8) [(.int (own_N t0)), (.int (own_N (2 * ib))), (.ref qb), (.ref r0)])) (fun t k => ?_) ?_
                  · refine XS.iload X472.here hx rfl (hb hby d7_291) rfl ?_
                    refine XS.iconst X472.here hx rfl (hb hby d7_293) ?_
                    show Steps p.tables e below (T472.setTop (mkF m 294 (LS_RRRIIRIIW r0 r1 r2 (own_N f0) (own_N t0) r5 (own_N ib) (own_N ib) wb8) [(.int (2 : Int32)), (.int (own_N ib)), (.ref qb), (.ref r0)])) _
                    refine XS.imul X472.here hx rfl (hb hby d7_294) rfl ?_
                    change Steps p.tables e below (T472.setTop (mkF m 295 (LS_RRRIIRIIW r0 r1 r2 (own_N f0) (own_N t0) r5 (own_N ib) (own_N ib) wb8) [(.int ((own_N ib) * (2 : Int32))), (.ref qb), (.ref r0)])) _
                    rw [show ((own_N ib) * (2 : Int32)) = (own_N (2 * ib)) from own_N2' (by omega)]
                    refine XS.iload X472.here hx rfl (hb hby d7_295) rfl ?_
                    refine XS.iload X472.here hx rfl (hb hby d7_297) rfl ?_
                    show Steps p.tables e below (T472.setTop (mkF m 299 (LS_RRRIIRIIW r0 r1 r2 (own_N f0) (own_N t0) r5 (own_N ib) (own_N ib) wb8) [(.int (own_N t0)), (.int (own_N ib)), (.int (own_N (2 * ib))), (.ref qb), (.ref r0)])) _
                    refine XS.iadd X472.here hx rfl (hb hby d7_299) rfl ?_
                    change Steps p.tables e below (T472.setTop (mkF m 300 (LS_RRRIIRIIW r0 r1 r2 (own_N f0) (own_N t0) r5 (own_N ib) (own_N ib) wb8) [(.int ((own_N ib) + (own_N t0))), (.int (own_N (2 * ib))), (.ref qb), (.ref r0)])) _
                    rw [show ((own_N ib) + (own_N t0)) = (own_N (ib + t0)) from own_Nadd (by omega)]
                    refine XS.iload X472.here hx rfl (hb hby d7_300) rfl ?_
                    refine XS.isub X472.here hx rfl (hb hby d7_302) rfl ?_
                    change Steps p.tables e below (T472.setTop (mkF m 303 (LS_RRRIIRIIW r0 r1 r2 (own_N f0) (own_N t0) r5 (own_N ib) (own_N ib) wb8) [(.int ((own_N (ib + t0)) - (own_N ib))), (.int (own_N (2 * ib))), (.ref qb), (.ref r0)])) _
                    rw [show ((own_N (ib + t0)) - (own_N ib)) = (own_N t0) from (own_Nsub (by omega) (by omega)).trans (congrArg own_N (by omega))]
                    exact k
                  obtain ⟨_, _, ⟨T473, L473, k473, n473⟩, -, X473, ⟨Lc473, hQ473, l473, y473, z473⟩, st473⟩ := Jvm.LawKit.callS X472 hx (y := (⟨"java/lang/Math", "max", "(II)I"⟩ : MethodName)) hown (mvT hZ (hw _ (List.mem_of_getElem? (i := 56) rfl))) (mvT hZ (hw _ (List.mem_of_getElem? (i := 57) rfl))) (mvT hZ (hw _ (List.mem_of_getElem? (i := 52) rfl))) (mvT hZ (hw _ (List.mem_of_getElem? (i := 58) rfl))) (by decide) (backOf (W := 2) (rmmax l Z a0 hw [] (own_N (2 * ib)) (own_N t0) Tb.heap n0 bZ) hZ (hw _ (List.mem_of_getElem? (i := 58) rfl)) (hw _ (List.mem_of_getElem? (i := 52) rfl)) (by decide) (by decide)) (g := (mkF m 303 (LS_RRRIIRIIW r0 r1 r2 (own_N f0) (own_N t0) r5 (own_N ib) (own_N ib) wb8) [(.int (own_N t0)), (.int (own_N (2 * ib))), (.ref qb), (.ref r0)])) rfl (by rw [hml]; rfl) (argsL := [(.int (own_N (2 * ib))), (.int (own_N t0))]) (rest := [(.ref qb), (.ref r0)]) (lenOf pd__II_I rfl) rfl (by show 2 * 0 + _ ≤ _; exact Nat.le_of_eq rfl) (hb hby d7_303) (fun _ _ => ⟨rfl, e472, (by decide : 0 + 0 ≤ _), (by decide : 0 + 0 ≤ _)⟩)
                  dsimp only [Pt.U, Pt.locs, Pt.cells, Pt.slots] at X473 l473 y473 z473 st473 hQ473
                  subst l473 y473 z473
                  obtain ⟨rfl, N473q, e473⟩ := hQ473
                  have N473 := Fr.app Nb N473q
                  refine own_go (B := T473.setTop (mkF m 306 (LS_RRRIIRIIW r0 r1 r2 (own_N f0) (own_N t0) r5 (own_N ib) (own_N ib) wb8) [(.int (if (own_N (2 * ib)) < (own_N t0) then (own_N t0) else (own_N (2 * ib)))), (.ref qb), (.ref r0)])) (fun t k => st473 _ k) ?_
                  have hmx : 2 * ib ≤ max (2 * ib) t0 ∧ t0 ≤ max (2 * ib) t0 ∧ max (2 * ib) t0 ≤ 30 := by omega
                  refine own_go (B := T473.setTop (mkF m 309 (LS_RRRIIRIIW r0 r1 r2 (own_N f0) (own_N t0) r5 (own_N ib) (own_N ib) wb8) [(.int (8192 : Int32)), (.int (own_N (max (2 * ib) t0))), (.ref qb), (.ref r0)])) (fun t k => ?_) ?_
                  · change Steps p.tables e below (T473.setTop (mkF m 306 (LS_RRRIIRIIW r0 r1 r2 (own_N f0) (own_N t0) r5 (own_N ib) (own_N ib) wb8) [(.int (if (own_N (2 * ib)) < (own_N t0) then (own_N t0) else (own_N (2 * ib)))), (.ref qb), (.ref r0)])) _
                    rw [show (if (own_N (2 * ib)) < (own_N t0) then (own_N t0) else (own_N (2 * ib))) = (own_N (max (2 * ib) t0)) from own_Nmax (by omega) (by omega)]
                    refine XS.sipush X473.here hx rfl (hb hby d7_306) ?_
                    exact k
                  obtain ⟨_, _, ⟨T474, L474, k474, n474⟩, -, X474, ⟨Lc474, hQ474, l474, y474, z474⟩, st474⟩ := Jvm.LawKit.callS X473 hx (y := (⟨"java/lang/Math", "min", "(II)I"⟩ : MethodName)) hown (mvT hZ (hw _ (List.mem_of_getElem? (i := 50) rfl))) (mvT hZ (hw _ (List.mem_of_getElem? (i := 51) rfl))) (mvT hZ (hw _ (List.mem_of_getElem? (i := 52) rfl))) (mvT hZ (hw _ (List.mem_of_getElem? (i := 53) rfl))) (by decide) (backOf (W := 2) (rmmin l Z a0 hw [] (own_N (max (2 * ib) t0)) (8192 : Int32) Tb.heap n0 bZ) hZ (hw _ (List.mem_of_getElem? (i := 53) rfl)) (hw _ (List.mem_of_getElem? (i := 52) rfl)) (by decide) (by decide)) (g := (mkF m 309 (LS_RRRIIRIIW r0 r1 r2 (own_N f0) (own_N t0) r5 (own_N ib) (own_N ib) wb8) [(.int (8192 : Int32)), (.int (own_N (max (2 * ib) t0))), (.ref qb), (.ref r0)])) rfl (by rw [hml]; rfl) (argsL := [(.int (own_N (max (2 * ib) t0))), (.int (8192 : Int32))]) (rest := [(.ref qb), (.ref r0)]) (lenOf pd__II_I rfl) rfl (by show 2 * 0 + _ ≤ _; exact Nat.le_of_eq rfl) (hb hby d7_309) (fun _ _ => ⟨rfl, e473, (by decide : 0 + 0 ≤ _), (by decide : 0 + 0 ≤ _)⟩)
                  dsimp only [Pt.U, Pt.locs, Pt.cells, Pt.slots] at X474 l474 y474 z474 st474 hQ474
                  subst l474 y474 z474
                  obtain ⟨rfl, N474q, e474⟩ := hQ474
                  have N474 := Fr.app N473 N474q
                  refine own_go (B := T474.setTop (mkF m 312 (LS_RRRIIRIIW r0 r1 r2 (own_N f0) (own_N t0) r5 (own_N ib) (own_N ib) wb8) [(.int (if (8192 : Int32) < (own_N (max (2 * ib) t0)) then (8192 : Int32) else (own_N (max (2 * ib) t0)))), (.ref qb), (.ref r0)])) (fun t k => st474 _ k) ?_
                  refine own_go (B := T474.setTop (mkF m 312 (LS_RRRIIRIIW r0 r1 r2 (own_N f0) (own_N t0) r5 (own_N ib) (own_N ib) wb8) [(.int (own_N (max (2 * ib) t0))), (.ref qb), (.ref r0)])) (fun t k => ?_) ?_
                  · change Steps p.tables e below (T474.setTop (mkF m 312 (LS_RRRIIRIIW r0 r1 r2 (own_N f0) (own_N t0) r5 (own_N ib) (own_N ib) wb8) [(.int (if (8192 : Int32) < (own_N (max (2 * ib) t0)) then (8192 : Int32) else (own_N (max (2 * ib) t0)))), (.ref qb), (.ref r0)])) _
                    rw [show (if (8192 : Int32) < (own_N (max (2 * ib) t0)) then (8192 : Int32) else (own_N (max (2 * ib) t0))) = (own_N (max (2 * ib) t0)) from (own_Nmin (u := 8192) (by omega) (by decide)).trans (congrArg own_N (by omega))]
                    exact k
                  obtain ⟨_, _, ⟨T475, L475, k475, n475⟩, -, X475, ⟨Lc475, hQ475, l475, y475, z475⟩, st475⟩ := Jvm.LawKit.callS X474 hx (y := (⟨"java/util/Arrays", "copyOf", "([II)[I"⟩ : MethodName)) hown (mvT hZ (hw _ (List.mem_of_getElem? (i := 73) rfl))) (mvT hZ (hw _ (List.mem_of_getElem? (i := 74) rfl))) (mvT hZ (hw _ (List.mem_of_getElem? (i := 75) rfl))) (mvT hZ (hw _ (List.mem_of_getElem? (i := 76) rfl))) (by decide) (backOf (W := 1) (rmcpy l Z a0 hw [] qb kqb pfb zpb ((max (2 * ib) t0)) Tb.heap n0 bZ bVq (by omega) (by omega)) hZ (hw _ (List.mem_of_getElem? (i := 76) rfl)) (hw _ (List.mem_of_getElem? (i := 75) rfl)) (by decide) (by decide)) (g := (mkF m 312 (LS_RRRIIRIIW r0 r1 r2 (own_N f0) (own_N t0) r5 (own_N ib) (own_N ib) wb8) [(.int (own_N (max (2 * ib) t0))), (.ref qb), (.ref r0)])) rfl (by rw [hml]; rfl) (argsL := [(.ref qb), (.int (own_N (max (2 * ib) t0)))]) (rest := [(.ref r0)]) (lenOf pd___II__I rfl) rfl (by show 2 * 0 + _ ≤ _; exact Nat.le_of_eq rfl) (hb hby d7_312) (fun _ _ => ⟨rfl, e474, (by decide : 0 + 1 ≤ _), (by decide : 0 + 32 ≤ _)⟩)
                  dsimp only [Pt.U, Pt.locs, Pt.cells, Pt.slots] at X475 l475 y475 z475 st475 hQ475
                  subst l475 y475 z475
                  obtain ⟨o475, ko475, rfl, N475q, K475, hfr475, Eo475, Vo475⟩ := hQ475
                  have N475 := Fr.app N474 N475q
                  have g_o475 : n0 ≤ o475 := Nat.le_trans bZ hfr475
                  have sz_o475 : h0.size ≤ o475 := Nat.le_trans bK.1 hfr475
                  refine own_go (B := T475.setTop (mkF m 315 (LS_RRRIIRIIW r0 r1 r2 (own_N f0) (own_N t0) r5 (own_N ib) (own_N ib) wb8) [(.ref o475), (.ref r0)])) (fun t k => st475 _ k) ?_
                  have bE_v476 := bE.keep K475
                  have bF_page_v477 := bF_page.keep K475 nin0
                  obtain ⟨T478, h478, X478, e478, W478, st478⟩ := putF X475 hx hZ hown (host := "") (Or.inl (hw _ (List.mem_of_getElem? (i := 35) rfl))) Via.refl rfl bF_page_v477 bE_v476 (Or.inl (hw _ (List.mem_of_getElem? (i := 36) rfl))) (hw _ (List.mem_of_getElem? (i := 17) rfl)) (ty := (.array .int)) (by decide) rfl rfl (g := (mkF m 315 (LS_RRRIIRIIW r0 r1 r2 (own_N f0) (own_N t0) r5 (own_N ib) (own_N ib) wb8) [(.ref o475), (.ref r0)])) rfl rfl (hb hby d7_315)
                  have N478 := Fr.snoc X478 N475 g_r0
                  have Fw478 := bF_page_v477.same W478
                  refine own_go (B := T478.setTop (mkF m 318 (LS_RRRIIRIIW r0 r1 r2 (own_N f0) (own_N t0) r5 (own_N ib) (own_N ib) wb8) [])) (fun t k => st478 _ k) ?_
                  have bF_pages_v479 := bF_pages.keep K475 nin0
                  have bF_pages_v480 := bF_pages_v479.other W478 (Or.inr (slot_ne (Or.inl (hw _ (List.mem_of_getElem? (i := 34) rfl))) (Or.inl (hw _ (List.mem_of_getElem? (i := 36) rfl))) (by decide) (t := (.array (.array .int))) (t' := (.array .int)) (by decide) (by decide)))
                  refine own_go (B := T478.setTop (mkF m 319 (LS_RRRIIRIIW r0 r1 r2 (own_N f0) (own_N t0) r5 (own_N ib) (own_N ib) wb8) [(.ref r0)])) (fun t k => ?_) ?_
                  · refine XS.aloadN X478.here hx rfl (hb hby d7_318) rfl rfl ?_
                    exact k
                  obtain ⟨T481, X481, e481, st481⟩ := getF X478 hx hZ hown (host := "") (Or.inl (hw _ (List.mem_of_getElem? (i := 33) rfl))) Via.refl e478 bF_pages_v480 (g := (mkF m 319 (LS_RRRIIRIIW r0 r1 r2 (own_N f0) (own_N t0) r5 (own_N ib) (own_N ib) wb8) [(.ref r0)])) rfl rfl (hb hby d7_319)
                  refine own_go (B := T481.setTop (mkF m 322 (LS_RRRIIRIIW r0 r1 r2 (own_N f0) (own_N t0) r5 (own_N ib) (own_N ib) wb8) [(.ref pg)])) (fun t k => st481 _ k) ?_
                  refine own_go (B := T481.setTop (mkF m 324 (LS_RRRIIRIIW r0 r1 r2 (own_N f0) (own_N t0) r5 (own_N ib) (own_N ib) wb8) [(.ref r0), (.int (0 : Int32)), (.ref pg)])) (fun t k => ?_) ?_
                  · refine XS.iconst X481.here hx rfl (hb hby d7_322) ?_
                    refine XS.aloadN X481.here hx rfl (hb hby d7_323) rfl rfl ?_
                    exact k
                  obtain ⟨T482, X482, e482, st482⟩ := getF X481 hx hZ hown (host := "") (Or.inl (hw _ (List.mem_of_getElem? (i := 35) rfl))) Via.refl e481 Fw478 (g := (mkF m 324 (LS_RRRIIRIIW r0 r1 r2 (own_N f0) (own_N t0) r5 (own_N ib) (own_N ib) wb8) [(.ref r0), (.int (0 : Int32)), (.ref pg)])) rfl rfl (hb hby d7_324)
                  refine own_go (B := T482.setTop (mkF m 327 (LS_RRRIIRIIW r0 r1 r2 (own_N f0) (own_N t0) r5 (own_N ib) (own_N ib) wb8) [(.ref o475), (.int (0 : Int32)), (.ref pg)])) (fun t k => st482 _ k) ?_
                  have bVg_v484 := bVg.keep K475 nin0
                  have ne486 : r0 ≠ pg := Exa.neArv bE_v476 bVg_v484 (hw _ (List.mem_of_getElem? (i := 17) rfl))
                  have bVg_v485 := bVg_v484.other W478 (Ne.symm ne486)
                  obtain ⟨cl483, Ar483, qa483, Sa483, Na483, Ha483, Ga483⟩ := id bVg_v485
                  have hin487 : ¬ ((0 : Int32) < 0 ∨ cl483.slots.size ≤ ((0 : Int32)).toNatClampNeg) := inb_of Sa483 ⟨by decide, by decide⟩
                  have Eo475_v488 := Eo475.wr W478
                  obtain ⟨T487, h487, X487, e487, W487, st487⟩ := stR X482 hx hZ e482 Ar483 (j := (0 : Int32)) hin487 rfl (Sto.ofVA Ar483 qa483 Og (Ins.self Eo475_v488)) (g := (mkF m 327 (LS_RRRIIRIIW r0 r1 r2 (own_N f0) (own_N t0) r5 (own_N ib) (own_N ib) wb8) [(.ref o475), (.int (0 : Int32)), (.ref pg)])) rfl rfl (hb hby d7_327)
                  have N487 := Fr.snoc X487 N478 g_pg
                  have V487 : Arv Z h487 pg kg (.array .int) (1 : Int32) [(.ref o475)] .null := Arv.set Ar483 qa483 Sa483 Na483 Ha483 Ga483 rfl W487 0 rfl (Nat.le_of_ble_eq_true rfl)
                  refine own_go (B := T487.setTop (mkF m 328 (LS_RRRIIRIIW r0 r1 r2 (own_N f0) (own_N t0) r5 (own_N ib) (own_N ib) wb8) [])) (fun t k => st487 _ k) ?_
                  have Fw478_v489 := Fw478.other W487 (Or.inl ne486)
                  refine own_go (B := T487.setTop (mkF m 334 (LS_RRRIIRIIW r0 r1 r2 (own_N f0) (own_N t0) r5 (own_N ib) (own_N ib) wb8) [(.ref r0), (.int (own_N (t0 - ib)))])) (fun t k => ?_) ?_
                  · refine XS.iload X487.here hx rfl (hb hby d7_328) rfl ?_
                    refine XS.iload X487.here hx rfl (hb hby d7_330) rfl ?_
                    show Steps p.tables e below (T487.setTop (mkF m 332 (LS_RRRIIRIIW r0 r1 r2 (own_N f0) (own_N t0) r5 (own_N ib) (own_N ib) wb8) [(.int (own_N ib)), (.int (own_N t0))])) _
                    refine XS.isub X487.here hx rfl (hb hby d7_332) rfl ?_
                    change Steps p.tables e below (T487.setTop (mkF m 333 (LS_RRRIIRIIW r0 r1 r2 (own_N f0) (own_N t0) r5 (own_N ib) (own_N ib) wb8) [(.int ((own_N t0) - (own_N ib)))])) _
                    rw [show ((own_N t0) - (own_N ib)) = (own_N (t0 - ib)) from own_Nsub (by omega) (by omega)]
                    refine XS.aloadN X487.here hx rfl (hb hby d7_333) rfl rfl ?_
                    exact k
                  obtain ⟨T490, X490, e490, st490⟩ := getF X487 hx hZ hown (host := "") (Or.inl (hw _ (List.mem_of_getElem? (i := 35) rfl))) Via.refl e487 Fw478_v489 (g := (mkF m 334 (LS_RRRIIRIIW r0 r1 r2 (own_N f0) (own_N t0) r5 (own_N ib) (own_N ib) wb8) [(.ref r0), (.int (own_N (t0 - ib)))])) rfl rfl (hb hby d7_334)
                  refine own_go (B := T490.setTop (mkF m 337 (LS_RRRIIRIIW r0 r1 r2 (own_N f0) (own_N t0) r5 (own_N ib) (own_N ib) wb8) [(.ref o475), (.int (own_N (t0 - ib)))])) (fun t k => st490 _ k) ?_
                  have ne493 : o475 ≠ r0 := Exa.ne Eo475 bE_v476 (by decide)
                  have Vo475_v492 := Vo475.other W478 ne493
                  have ne495 : o475 ≠ pg := own_neT Vo475 bVg_v484 (by decide)
                  have Vo475_v494 := Vo475_v492.other W487 ne495
                  obtain ⟨cl491, Ar491, qa491, Sa491, Na491, Ha491, Ga491⟩ := id Vo475_v494
                  refine own_go (B := T490.setTop (mkF m 341 (LS_RRRIIRIIW r0 r1 r2 (own_N f0) (own_N t0) r5 (own_N ib) (own_N ib) wb8) [(.int (own_N ((max (2 * ib) t0) - ib))), (.int (own_N (t0 - ib)))])) (fun t k => ?_) ?_
                  · refine X490.arraylength hx (by rw [e490]; exact Ar491.1) (State.isArrayOf_alike hZ.alike Ar491.2.1) (g := (mkF m 337 (LS_RRRIIRIIW r0 r1 r2 (own_N f0) (own_N t0) r5 (own_N ib) (own_N ib) wb8) [(.ref o475), (.int (own_N (t0 - ib)))])) rfl rfl (hb hby d7_337) _ ?_
                    rw [len_of Sa491 Na491]
                    refine XS.iload X490.here hx rfl (hb hby d7_338) rfl ?_
                    show Steps p.tables e below (T490.setTop (mkF m 340 (LS_RRRIIRIIW r0 r1 r2 (own_N f0) (own_N t0) r5 (own_N ib) (own_N ib) wb8) [(.int (own_N ib)), (.int (own_N (max (2 * ib) t0))), (.int (own_N (t0 - ib)))])) _
                    refine XS.isub X490.here hx rfl (hb hby d7_340) rfl ?_
                    change Steps p.tables e below (T490.setTop (mkF m 341 (LS_RRRIIRIIW r0 r1 r2 (own_N f0) (own_N t0) r5 (own_N ib) (own_N ib) wb8) [(.int ((own_N (max (2 * ib) t0)) - (own_N ib))), (.int (own_N (t0 - ib)))])) _
                    rw [show ((own_N (max (2 * ib) t0)) - (own_N ib)) = (own_N ((max (2 * ib) t0) - ib)) from own_Nsub (by omega) (by omega)]
                    exact k
                  have bZ_v496 := Nat.le_trans bZ K475.1
                  have bZ_v497 := Nat.le_trans bZ_v496 (Nat.le_of_eq W478.size.symm)
                  have bZ_v498 := Nat.le_trans bZ_v497 (Nat.le_of_eq W487.size.symm)
                  obtain ⟨_, _, ⟨T499, L499, k499, n499⟩, -, X499, ⟨Lc499, hQ499, l499, y499, z499⟩, st499⟩ := Jvm.LawKit.callS X490 hx (y := (⟨"java/lang/Math", "min", "(II)I"⟩ : MethodName)) hown (mvT hZ (hw _ (List.mem_of_getElem? (i := 50) rfl))) (mvT hZ (hw _ (List.mem_of_getElem? (i := 51) rfl))) (mvT hZ (hw _ (List.mem_of_getElem? (i := 52) rfl))) (mvT hZ (hw _ (List.mem_of_getElem? (i := 53) rfl))) (by decide) (backOf (W := 0) (rmmin l Z a0 hw [] (own_N (t0 - ib)) (own_N ((max (2 * ib) t0) - ib)) h487 n0 bZ_v498) hZ (hw _ (List.mem_of_getElem? (i := 53) rfl)) (hw _ (List.mem_of_getElem? (i := 52) rfl)) (by decide) (by decide)) (g := (mkF m 341 (LS_RRRIIRIIW r0 r1 r2 (own_N f0) (own_N t0) r5 (own_N ib) (own_N ib) wb8) [(.int (own_N ((max (2 * ib) t0) - ib))), (.int (own_N (t0 - ib)))])) rfl (by rw [hml]; rfl) (argsL := [(.int (own_N (t0 - ib))), (.int (own_N ((max (2 * ib) t0) - ib)))]) (rest := []) (lenOf pd__II_I rfl) rfl (by show 2 * 0 + _ ≤ _; exact Nat.le_of_eq rfl) (hb hby d7_341) (fun _ _ => ⟨rfl, e490, (by decide : 1 + 0 ≤ _), (by decide : 32 + 0 ≤ _)⟩)
                  dsimp only [Pt.U, Pt.locs, Pt.cells, Pt.slots] at X499 l499 y499 z499 st499 hQ499
                  subst l499 y499 z499
                  obtain ⟨rfl, N499q, e499⟩ := hQ499
                  have N499 := Fr.app N487 N499q
                  refine own_go (B := T499.setTop (mkF m 344 (LS_RRRIIRIIW r0 r1 r2 (own_N f0) (own_N t0) r5 (own_N ib) (own_N ib) wb8) [(.int (if (own_N ((max (2 * ib) t0) - ib)) < (own_N (t0 - ib)) then (own_N ((max (2 * ib) t0) - ib)) else (own_N (t0 - ib))))])) (fun t k => st499 _ k) ?_
                  refine own_go (B := T499.setTop (mkF m 350 (LS_RRRIIRIII r0 r1 r2 (own_N f0) (own_N t0) r5 (own_N ib) (own_N ib) (own_N (t0 - ib))) [(.ref r0), (.int (own_N ib)), (.ref r2)])) (fun t k => ?_) ?_
                  · change Steps p.tables e below (T499.setTop (mkF m 344 (LS_RRRIIRIIW r0 r1 r2 (own_N f0) (own_N t0) r5 (own_N ib) (own_N ib) wb8) [(.int (if (own_N ((max (2 * ib) t0) - ib)) < (own_N (t0 - ib)) then (own_N ((max (2 * ib) t0) - ib)) else (own_N (t0 - ib))))])) _
                    rw [show (if (own_N ((max (2 * ib) t0) - ib)) < (own_N (t0 - ib)) then (own_N ((max (2 * ib) t0) - ib)) else (own_N (t0 - ib))) = (own_N (t0 - ib)) from (own_Nmin (by omega) (by omega)).trans (congrArg own_N (by omega))]
                    refine XS.istore X499.here hx rfl (hb hby d7_344) rfl (l' := (LS_RRRIIRIII r0 r1 r2 (own_N f0) (own_N t0) r5 (own_N ib) (own_N ib) (own_N (t0 - ib)))) (by rcases hwb8 with rfl | ⟨_, rfl⟩ <;> rfl) ?_
                    refine XS.aloadN X499.here hx rfl (hb hby d7_346) rfl rfl ?_
                    show Steps p.tables e below (T499.setTop (mkF m 347 (LS_RRRIIRIII r0 r1 r2 (own_N f0) (own_N t0) r5 (own_N ib) (own_N ib) (own_N (t0 - ib))) [(.ref r2)])) _
                    refine XS.iload X499.here hx rfl (hb hby d7_347) rfl ?_
                    refine XS.aloadN X499.here hx rfl (hb hby d7_349) rfl rfl ?_
                    exact k
                  obtain ⟨T500, X500, e500, st500⟩ := getF X499 hx hZ hown (host := "") (Or.inl (hw _ (List.mem_of_getElem? (i := 35) rfl))) Via.refl e499 Fw478_v489 (g := (mkF m 350 (LS_RRRIIRIII r0 r1 r2 (own_N f0) (own_N t0) r5 (own_N ib) (own_N ib) (own_N (t0 - ib))) [(.ref r0), (.int (own_N ib)), (.ref r2)])) rfl rfl (hb hby d7_350)
                  refine own_go (B := T500.setTop (mkF m 353 (LS_RRRIIRIII r0 r1 r2 (own_N f0) (own_N t0) r5 (own_N ib) (own_N ib) (own_N (t0 - ib))) [(.ref o475), (.int (own_N ib)), (.ref r2)])) (fun t k => st500 _ k) ?_
                  refine own_go (B := T500.setTop (mkF m 357 (LS_RRRIIRIII r0 r1 r2 (own_N f0) (own_N t0) r5 (own_N ib) (own_N ib) (own_N (t0 - ib))) [(.int (own_N (t0 - ib))), (.int (own_N ib)), (.ref o475), (.int (own_N ib)), (.ref r2)])) (fun t k => ?_) ?_
                  · refine XS.iload X500.here hx rfl (hb hby d7_353) rfl ?_
                    refine XS.iload X500.here hx rfl (hb hby d7_355) rfl ?_
                    exact k
                  have bVp_v502 := bVp.keep K475 nin0
                  have ne504 : r0 ≠ r2 := Exa.neArv bE_v476 bVp_v502 (hw _ (List.mem_of_getElem? (i := 17) rfl))
                  have bVp_v503 := bVp_v502.other W478 (Ne.symm ne504)
                  have ne506 : r2 ≠ pg := own_neT bVp bVg (by decide)
                  have bVp_v505 := bVp_v503.other W487 ne506
                  have Vo475_v507 := Vo475_v492.other W487 ne495
                  obtain ⟨T501, h501, L501, X501, e501, N501, K501, V501, st501⟩ := own_cpA (sp := ib) (dp := ib) (nn := (t0 - ib)) X500 hx hZ hown (hw _ (List.mem_of_getElem? (i := 59) rfl)) (hw _ (List.mem_of_getElem? (i := 62) rfl)) (hw _ (List.mem_of_getElem? (i := 60) rfl)) (hw _ (List.mem_of_getElem? (i := 61) rfl)) e500 bVp_v505 Vo475_v507 (by omega) (by omega) (by omega) (by omega) N499 g_o475 (g := (mkF m 357 (LS_RRRIIRIII r0 r1 r2 (own_N f0) (own_N t0) r5 (own_N ib) (own_N ib) (own_N (t0 - ib))) [(.int (own_N (t0 - ib))), (.int (own_N ib)), (.ref o475), (.int (own_N ib)), (.ref r2)])) rfl (by rw [hml]; rfl) rfl (hb hby d7_357) (by decide) (W := 0) (by show 2 * 0 + _ ≤ _; exact Nat.le_of_eq rfl) (by decide)
                  refine own_go (B := T501.setTop (mkF m 360 (LS_RRRIIRIII r0 r1 r2 (own_N f0) (own_N t0) r5 (own_N ib) (own_N ib) (own_N (t0 - ib))) [])) (fun t k => st501 _ k) ?_
                  have bF_positionCount_v508 := bF_positionCount.keep K475 nin0
                  have bF_positionCount_v509 := bF_positionCount_v508.other W478 (Or.inr (slot_ne (Or.inl (hw _ (List.mem_of_getElem? (i := 45) rfl))) (Or.inl (hw _ (List.mem_of_getElem? (i := 36) rfl))) (by decide) (t := .int) (t' := (.array .int)) (by decide) (by decide)))
                  have bF_positionCount_v510 := bF_positionCount_v509.other W487 (Or.inl ne486)
                  have bF_positionCount_v511 := bF_positionCount_v510.keep K501 (ninS (Ne.symm ne493) nin0)
                  refine own_go (B := T501.setTop (mkF m 362 (LS_RRRIIRIII r0 r1 r2 (own_N f0) (own_N t0) r5 (own_N ib) (own_N ib) (own_N (t0 - ib))) [(.ref r0), (.ref r0)])) (fun t k => ?_) ?_
                  · refine XS.aloadN X501.here hx rfl (hb hby d7_360) rfl rfl ?_
                    refine XS.dup X501.here hx rfl (hb hby d7_361) rfl rfl ?_
                    exact k
                  obtain ⟨T512, X512, e512, st512⟩ := getF X501 hx hZ hown (host := "") (Or.inl (hw _ (List.mem_of_getElem? (i := 44) rfl))) Via.refl e501 bF_positionCount_v511 (g := (mkF m 362 (LS_RRRIIRIII r0 r1 r2 (own_N f0) (own_N t0) r5 (own_N ib) (own_N ib) (own_N (t0 - ib))) [(.ref r0), (.ref r0)])) rfl rfl (hb hby d7_362)
                  refine own_go (B := T512.setTop (mkF m 365 (LS_RRRIIRIII r0 r1 r2 (own_N f0) (own_N t0) r5 (own_N ib) (own_N ib) (own_N (t0 - ib))) [(.int (own_N ib)), (.ref r0)])) (fun t k => st512 _ k) ?_
                  refine own_go (B := T512.setTop (mkF m 368 (LS_RRRIIRIII r0 r1 r2 (own_N f0) (own_N t0) r5 (own_N ib) (own_N ib) (own_N (t0 - ib))) [(.int (own_N t0)), (.ref r0)])) (fun t k => ?_) ?_
                  · refine XS.iload X512.here hx rfl (hb hby d7_365) rfl ?_
                    refine XS.iadd X512.here hx rfl (hb hby d7_367) rfl ?_
                    change Steps p.tables e below (T512.setTop (mkF m 368 (LS_RRRIIRIII r0 r1 r2 (own_N f0) (own_N t0) r5 (own_N ib) (own_N ib) (own_N (t0 - ib))) [(.int ((own_N ib) + (own_N (t0 - ib)))), (.ref r0)])) _
                    rw [show ((own_N ib) + (own_N (t0 - ib))) = (own_N t0) from (own_Nadd (by omega)).trans (congrArg own_N (by omega))]
                    exact k
                  have bE_v513 := bE_v476.wr W478
                  have bE_v514 := bE_v513.wr W487
                  have bE_v515 := bE_v514.keep K501
                  obtain ⟨T516, h516, X516, e516, W516, st516⟩ := putF X512 hx hZ hown (host := "") (Or.inl (hw _ (List.mem_of_getElem? (i := 44) rfl))) Via.refl e512 bF_positionCount_v511 bE_v515 (Or.inl (hw _ (List.mem_of_getElem? (i := 45) rfl))) (hw _ (List.mem_of_getElem? (i := 17) rfl)) (ty := .int) (by decide) rfl rfl (g := (mkF m 368 (LS_RRRIIRIII r0 r1 r2 (own_N f0) (own_N t0) r5 (own_N ib) (own_N ib) (own_N (t0 - ib))) [(.int (own_N t0)), (.ref r0)])) rfl rfl (hb hby d7_368)
                  have N516 := Fr.snoc X516 N501 g_r0
                  have Fw516 := bF_positionCount_v511.same W516
                  refine own_go (B := T516.setTop (mkF m 371 (LS_RRRIIRIII r0 r1 r2 (own_N f0) (own_N t0) r5 (own_N ib) (own_N ib) (own_N (t0 - ib))) [])) (fun t k => st516 _ k) ?_
                  refine own_go (B := T516.setTop (mkF m 187 (LS_RRRIIRIII r0 r1 r2 (own_N f0) (own_N t0) r5 (own_N t0) (own_N ib) (own_N (t0 - ib))) [])) (fun t k => ?_) ?_
                  · refine XS.iload X516.here hx rfl (hb hby d7_371) rfl ?_
                    refine XS.iload X516.here hx rfl (hb hby d7_373) rfl ?_
                    show Steps p.tables e below (T516.setTop (mkF m 375 (LS_RRRIIRIII r0 r1 r2 (own_N f0) (own_N t0) r5 (own_N ib) (own_N ib) (own_N (t0 - ib))) [(.int (own_N (t0 - ib))), (.int (own_N ib))])) _
                    refine XS.iadd X516.here hx rfl (hb hby d7_375) rfl ?_
                    change Steps p.tables e below (T516.setTop (mkF m 376 (LS_RRRIIRIII r0 r1 r2 (own_N f0) (own_N t0) r5 (own_N ib) (own_N ib) (own_N (t0 - ib))) [(.int ((own_N ib) + (own_N (t0 - ib))))])) _
                    rw [show ((own_N ib) + (own_N (t0 - ib))) = (own_N t0) from (own_Nadd (by omega)).trans (congrArg own_N (by omega))]
                    refine XS.istore X516.here hx rfl (hb hby d7_376) rfl (l' := (LS_RRRIIRIII r0 r1 r2 (own_N f0) (own_N t0) r5 (own_N t0) (own_N ib) (own_N (t0 - ib)))) rfl ?_
                    refine XS.goto X516.here hx rfl (pc0 := 378) (pc' := 187) rfl (hb hby d7_378) (by decide) (by decide) ?_
                    exact k
                  have bZ_v517 := Nat.le_trans bZ_v498 K501.1
                  have bZ_v518 := Nat.le_trans bZ_v517 (Nat.le_of_eq W516.size.symm)
                  have bK_v519 := bK.trans K475 all0
                  have bK_v520 := bK_v519.wr W478 (Or.inl (List.mem_of_getElem? (i := 0) rfl))
                  have bK_v521 := bK_v520.wr W487 (Or.inl (List.mem_of_getElem? (i := 3) rfl))
                  have bK_v522 := bK_v521.trans K501 (allS (Or.inr sz_o475) all0)
                  have bK_v523 := bK_v522.wr W516 (Or.inl (List.mem_of_getElem? (i := 0) rfl))
                  have bE_v524 := bE_v515.wr W516
                  have bF_entries_v525 := bF_entries.keep K475 nin0
                  have bF_entries_v526 := bF_entries_v525.other W478 (Or.inr (slot_ne (Or.inl (hw _ (List.mem_of_getElem? (i := 26) rfl))) (Or.inl (hw _ (List.mem_of_getElem? (i := 36) rfl))) (by decide) (t := (.array .int)) (t' := (.array .int)) (by decide) (by decide)))
                  have bF_entries_v527 := bF_entries_v526.other W487 (Or.inl ne486)
                  have bF_entries_v528 := bF_entries_v527.keep K501 (ninS (Ne.symm ne493) nin0)
                  have bF_entries_v529 := bF_entries_v528.other W516 (Or.inr (slot_ne (Or.inl (hw _ (List.mem_of_getElem? (i := 26) rfl))) (Or.inl (hw _ (List.mem_of_getElem? (i := 45) rfl))) (by decide) (t := (.array .int)) (t' := .int) (by decide) (by decide)))
                  have bF_size_v530 := bF_size.keep K475 nin0
                  have bF_size_v531 := bF_size_v530.other W478 (Or.inr (slot_ne (Or.inl (hw _ (List.mem_of_getElem? (i := 47) rfl))) (Or.inl (hw _ (List.mem_of_getElem? (i := 36) rfl))) (by decide) (t := .int) (t' := (.array .int)) (by decide) (by decide)))
                  have bF_size_v532 := bF_size_v531.other W487 (Or.inl ne486)
                  have bF_size_v533 := bF_size_v532.keep K501 (ninS (Ne.symm ne493) nin0)
                  have bF_size_v534 := bF_size_v533.other W516 (Or.inr (slot_ne (Or.inl (hw _ (List.mem_of_getElem? (i := 47) rfl))) (Or.inl (hw _ (List.mem_of_getElem? (i := 45) rfl))) (by decide) (t := .int) (t' := .int) (by decide) (by decide)))
                  have bF_lastDoc_v535 := bF_lastDoc.keep K475 nin0
                  have bF_lastDoc_v536 := bF_lastDoc_v535.other W478 (Or.inr (slot_ne (Or.inl (hw _ (List.mem_of_getElem? (i := 28) rfl))) (Or.inl (hw _ (List.mem_of_getElem? (i := 36) rfl))) (by decide) (t := .int) (t' := (.array .int)) (by decide) (by decide)))
                  have bF_lastDoc_v537 := bF_lastDoc_v536.other W487 (Or.inl ne486)
                  have bF_lastDoc_v538 := bF_lastDoc_v537.keep K501 (ninS (Ne.symm ne493) nin0)
                  have bF_lastDoc_v539 := bF_lastDoc_v538.other W516 (Or.inr (slot_ne (Or.inl (hw _ (List.mem_of_getElem? (i := 28) rfl))) (Or.inl (hw _ (List.mem_of_getElem? (i := 45) rfl))) (by decide) (t := .int) (t' := .int) (by decide) (by decide)))
                  have bF_lastFreq_v540 := bF_lastFreq.keep K475 nin0
                  have bF_lastFreq_v541 := bF_lastFreq_v540.other W478 (Or.inr (slot_ne (Or.inl (hw _ (List.mem_of_getElem? (i := 49) rfl))) (Or.inl (hw _ (List.mem_of_getElem? (i := 36) rfl))) (by decide) (t := .int) (t' := (.array .int)) (by decide) (by decide)))
                  have bF_lastFreq_v542 := bF_lastFreq_v541.other W487 (Or.inl ne486)
                  have bF_lastFreq_v543 := bF_lastFreq_v542.keep K501 (ninS (Ne.symm ne493) nin0)
                  have bF_lastFreq_v544 := bF_lastFreq_v543.other W516 (Or.inr (slot_ne (Or.inl (hw _ (List.mem_of_getElem? (i := 49) rfl))) (Or.inl (hw _ (List.mem_of_getElem? (i := 45) rfl))) (by decide) (t := .int) (t' := .int) (by decide) (by decide)))
                  have bF_maxFreq_v545 := bF_maxFreq.keep K475 nin0
                  have bF_maxFreq_v546 := bF_maxFreq_v545.other W478 (Or.inr (slot_ne (Or.inl (hw _ (List.mem_of_getElem? (i := 55) rfl))) (Or.inl (hw _ (List.mem_of_getElem? (i := 36) rfl))) (by decide) (t := .int) (t' := (.array .int)) (by decide) (by decide)))
                  have bF_maxFreq_v547 := bF_maxFreq_v546.other W487 (Or.inl ne486)
                  have bF_maxFreq_v548 := bF_maxFreq_v547.keep K501 (ninS (Ne.symm ne493) nin0)
                  have bF_maxFreq_v549 := bF_maxFreq_v548.other W516 (Or.inr (slot_ne (Or.inl (hw _ (List.mem_of_getElem? (i := 55) rfl))) (Or.inl (hw _ (List.mem_of_getElem? (i := 45) rfl))) (by decide) (t := .int) (t' := .int) (by decide) (by decide)))
                  have bF_shortestLength_v550 := bF_shortestLength.keep K475 nin0
                  have bF_shortestLength_v551 := bF_shortestLength_v550.other W478 (Or.inr (slot_ne (Or.inl (hw _ (List.mem_of_getElem? (i := 30) rfl))) (Or.inl (hw _ (List.mem_of_getElem? (i := 36) rfl))) (by decide) (t := .int) (t' := (.array .int)) (by decide) (by decide)))
                  have bF_shortestLength_v552 := bF_shortestLength_v551.other W487 (Or.inl ne486)
                  have bF_shortestLength_v553 := bF_shortestLength_v552.keep K501 (ninS (Ne.symm ne493) nin0)
                  have bF_shortestLength_v554 := bF_shortestLength_v553.other W516 (Or.inr (slot_ne (Or.inl (hw _ (List.mem_of_getElem? (i := 30) rfl))) (Or.inl (hw _ (List.mem_of_getElem? (i := 45) rfl))) (by decide) (t := .int) (t' := .int) (by decide) (by decide)))
                  have bF_pages_v555 := bF_pages_v480.other W487 (Or.inl ne486)
                  have bF_pages_v556 := bF_pages_v555.keep K501 (ninS (Ne.symm ne493) nin0)
                  have bF_pages_v557 := bF_pages_v556.other W516 (Or.inr (slot_ne (Or.inl (hw _ (List.mem_of_getElem? (i := 34) rfl))) (Or.inl (hw _ (List.mem_of_getElem? (i := 45) rfl))) (by decide) (t := (.array (.array .int))) (t' := .int) (by decide) (by decide)))
                  have Fw478_v558 := Fw478_v489.keep K501 (ninS (Ne.symm ne493) nin0)
                  have Fw478_v559 := Fw478_v558.other W516 (Or.inr (slot_ne (Or.inl (hw _ (List.mem_of_getElem? (i := 36) rfl))) (Or.inl (hw _ (List.mem_of_getElem? (i := 45) rfl))) (by decide) (t := (.array .int)) (t' := .int) (by decide) (by decide)))
                  have bVe_v560 := bVe.keep K475 nin0
                  have ne562 : r0 ≠ ea := Exa.neArv bE_v476 bVe_v560 (hw _ (List.mem_of_getElem? (i := 17) rfl))
                  have bVe_v561 := bVe_v560.other W478 (Ne.symm ne562)
                  have ne564 : ea ≠ pg := own_neT bVe bVg (by decide)
                  have bVe_v563 := bVe_v561.other W487 ne564
                  have ne567 : ea ≠ o475 := Nat.ne_of_lt (Nat.lt_of_lt_of_le bVe.lt hfr475)
                  have bVe_v565 := bVe_v563.keep K501 (ninS ne567 nin0)
                  have bVe_v568 := bVe_v565.other W516 (Ne.symm ne562)
                  have V501_v569 := V501.other W516 ne493
                  have Eo475_v570 := Eo475_v488.wr W487
                  have Eo475_v571 := Eo475_v570.keep K501
                  have Eo475_v572 := Eo475_v571.wr W516
                  have V487_v573 := V487.keep K501 (ninS (Ne.symm ne495) nin0)
                  have V487_v574 := V487_v573.other W516 (Ne.symm ne486)
                  have bVp_v575 := bVp_v502.other W478 (Ne.symm ne504)
                  have bVp_v576 := bVp_v575.other W487 ne506
                  have ne579 : r2 ≠ o475 := Nat.ne_of_lt (Nat.lt_of_lt_of_le bVp.lt hfr475)
                  have bVp_v577 := bVp_v576.keep K501 (ninS ne579 nin0)
                  have bVp_v580 := bVp_v577.other W516 (Ne.symm ne504)
                  have bVd_v581 := bVd.keep K475 nin0
                  have ne583 : r0 ≠ r1 := Exa.neArv bE_v476 bVd_v581 (hw _ (List.mem_of_getElem? (i := 17) rfl))
                  have bVd_v582 := bVd_v581.other W478 (Ne.symm ne583)
                  have ne585 : r1 ≠ pg := own_neT bVd bVg (by decide)
                  have bVd_v584 := bVd_v582.other W487 ne585
                  have ne588 : r1 ≠ o475 := Nat.ne_of_lt (Nat.lt_of_lt_of_le bVd.lt hfr475)
                  have bVd_v586 := bVd_v584.keep K501 (ninS ne588 nin0)
                  have bVd_v589 := bVd_v586.other W516 (Ne.symm ne583)
                  have bVl_v590 := bVl.keep K475 nin0
                  have ne592 : r0 ≠ r5 := Exa.neArv bE_v476 bVl_v590 (hw _ (List.mem_of_getElem? (i := 17) rfl))
                  have bVl_v591 := bVl_v590.other W478 (Ne.symm ne592)
                  have ne594 : r5 ≠ pg := own_neT bVl bVg (by decide)
                  have bVl_v593 := bVl_v591.other W487 ne594
                  have ne596 : r5 ≠ o475 := own_neT bVl_v590 Vo475 (by decide)
                  have bVl_v595 := bVl_v593.keep K501 (ninS ne596 nin0)
                  have bVl_v597 := bVl_v595.other W516 (Ne.symm ne592)
                  exact IHb (t0, 1, (.val (.int (own_N ib))), (.val (.int (own_N (t0 - ib))))) _ _ (show t0 - (t0) < t0 - ib by omega) (own_mono X516 (by simp) (by simp)) N516 (by rw [e516]; exact ⟨o475, ko475, _, _, bZ_v518, bK_v523, bE_v524, bF_entries_v529, bF_size_v534, bF_lastDoc_v539, bF_lastFreq_v544, bF_maxFreq_v549, bF_shortestLength_v554, Fw516, bF_pages_v557, Fw478_v559, bVe_v568, V501_v569, Eo475_v572, V487_v574, bVp_v580, bVd_v589, bVl_v597, (Or.inr sz_o475), g_o475, ne567, (Ne.symm ne588), (Ne.symm ne579), ⟨by omega, by omega, by omega⟩, (fun t ht => own_pfcp (own_pfgrow hpb (by omega)) t (by omega)), ⟨hft, Nat.le_refl _⟩, Or.inr ⟨rfl, rfl⟩, Or.inr ⟨_, rfl⟩, Or.inr ⟨_, rfl⟩⟩)
                · have hbz : ib < zpb := own_ltne hzb.2.1 (by omega) hc283_471
                  refine own_go (B := T469.setTop (mkF m 334 (LS_RRRIIRIIW r0 r1 r2 (own_N f0) (own_N t0) r5 (own_N ib) (own_N ib) wb8) [(.ref r0), (.int (own_N (t0 - ib)))])) (fun t k => ?_) ?_
                  · refine XS.icmpYes X469.here hx rfl (pc0 := 283) (pc' := 328) rfl (hb hby d7_283) rfl (feq hc283_471).2 (by decide) (by decide) ?_
                    refine XS.iload X469.here hx rfl (hb hby d7_328) rfl ?_
                    show Steps p.tables e below (T469.setTop (mkF m 330 (LS_RRRIIRIIW r0 r1 r2 (own_N f0) (own_N t0) r5 (own_N ib) (own_N ib) wb8) [(.int (own_N t0))])) _
                    refine XS.iload X469.here hx rfl (hb hby d7_330) rfl ?_
                    refine XS.isub X469.here hx rfl (hb hby d7_332) rfl ?_
                    change Steps p.tables e below (T469.setTop (mkF m 333 (LS_RRRIIRIIW r0 r1 r2 (own_N f0) (own_N t0) r5 (own_N ib) (own_N ib) wb8) [(.int ((own_N t0) - (own_N ib)))])) _
                    rw [show ((own_N t0) - (own_N ib)) = (own_N (t0 - ib)) from own_Nsub (by omega) (by omega)]
                    refine XS.aloadN X469.here hx rfl (hb hby d7_333) rfl rfl ?_
                    exact k
                  obtain ⟨T598, X598, e598, st598⟩ := getF X469 hx hZ hown (host := "") (Or.inl (hw _ (List.mem_of_getElem? (i := 35) rfl))) Via.refl e469 bF_page (g := (mkF m 334 (LS_RRRIIRIIW r0 r1 r2 (own_N f0) (own_N t0) r5 (own_N ib) (own_N ib) wb8) [(.ref r0), (.int (own_N (t0 - ib)))])) rfl rfl (hb hby d7_334)
                  refine own_go (B := T598.setTop (mkF m 337 (LS_RRRIIRIIW r0 r1 r2 (own_N f0) (own_N t0) r5 (own_N ib) (own_N ib) wb8) [(.ref qb), (.int (own_N (t0 - ib)))])) (fun t k => st598 _ k) ?_
                  obtain ⟨cl599, Ar599, qa599, Sa599, Na599, Ha599, Ga599⟩ := id bVq
                  refine own_go (B := T598.setTop (mkF m 341 (LS_RRRIIRIIW r0 r1 r2 (own_N f0) (own_N t0) r5 (own_N ib) (own_N ib) wb8) [(.int (own_N (zpb - ib))), (.int (own_N (t0 - ib)))])) (fun t k => ?_) ?_
                  · refine X598.arraylength hx (by rw [e598]; exact Ar599.1) (State.isArrayOf_alike hZ.alike Ar599.2.1) (g := (mkF m 337 (LS_RRRIIRIIW r0 r1 r2 (own_N f0) (own_N t0) r5 (own_N ib) (own_N ib) wb8) [(.ref qb), (.int (own_N (t0 - ib)))])) rfl rfl (hb hby d7_337) _ ?_
                    rw [len_of Sa599 Na599]
                    refine XS.iload X598.here hx rfl (hb hby d7_338) rfl ?_
                    show Steps p.tables e below (T598.setTop (mkF m 340 (LS_RRRIIRIIW r0 r1 r2 (own_N f0) (own_N t0) r5 (own_N ib) (own_N ib) wb8) [(.int (own_N ib)), (.int (own_N zpb)), (.int (own_N (t0 - ib)))])) _
                    refine XS.isub X598.here hx rfl (hb hby d7_340) rfl ?_
                    change Steps p.tables e below (T598.setTop (mkF m 341 (LS_RRRIIRIIW r0 r1 r2 (own_N f0) (own_N t0) r5 (own_N ib) (own_N ib) wb8) [(.int ((own_N zpb) - (own_N ib))), (.int (own_N (t0 - ib)))])) _
                    rw [show ((own_N zpb) - (own_N ib)) = (own_N (zpb - ib)) from own_Nsub (by omega) (by omega)]
                    exact k
                  obtain ⟨_, _, ⟨T600, L600, k600, n600⟩, -, X600, ⟨Lc600, hQ600, l600, y600, z600⟩, st600⟩ := Jvm.LawKit.callS X598 hx (y := (⟨"java/lang/Math", "min", "(II)I"⟩ : MethodName)) hown (mvT hZ (hw _ (List.mem_of_getElem? (i := 50) rfl))) (mvT hZ (hw _ (List.mem_of_getElem? (i := 51) rfl))) (mvT hZ (hw _ (List.mem_of_getElem? (i := 52) rfl))) (mvT hZ (hw _ (List.mem_of_getElem? (i := 53) rfl))) (by decide) (backOf (W := 0) (rmmin l Z a0 hw [] (own_N (t0 - ib)) (own_N (zpb - ib)) Tb.heap n0 bZ) hZ (hw _ (List.mem_of_getElem? (i := 53) rfl)) (hw _ (List.mem_of_getElem? (i := 52) rfl)) (by decide) (by decide)) (g := (mkF m 341 (LS_RRRIIRIIW r0 r1 r2 (own_N f0) (own_N t0) r5 (own_N ib) (own_N ib) wb8) [(.int (own_N (zpb - ib))), (.int (own_N (t0 - ib)))])) rfl (by rw [hml]; rfl) (argsL := [(.int (own_N (t0 - ib))), (.int (own_N (zpb - ib)))]) (rest := []) (lenOf pd__II_I rfl) rfl (by show 2 * 0 + _ ≤ _; exact Nat.le_of_eq rfl) (hb hby d7_341) (fun _ _ => ⟨rfl, e598, (by decide : 0 + 0 ≤ _), (by decide : 0 + 0 ≤ _)⟩)
                  dsimp only [Pt.U, Pt.locs, Pt.cells, Pt.slots] at X600 l600 y600 z600 st600 hQ600
                  subst l600 y600 z600
                  obtain ⟨rfl, N600q, e600⟩ := hQ600
                  have N600 := Fr.app Nb N600q
                  refine own_go (B := T600.setTop (mkF m 344 (LS_RRRIIRIIW r0 r1 r2 (own_N f0) (own_N t0) r5 (own_N ib) (own_N ib) wb8) [(.int (if (own_N (zpb - ib)) < (own_N (t0 - ib)) then (own_N (zpb - ib)) else (own_N (t0 - ib))))])) (fun t k => st600 _ k) ?_
                  have hmn : min (t0 - ib) (zpb - ib) ≤ t0 - ib ∧ min (t0 - ib) (zpb - ib) ≤ zpb - ib ∧ 0 < min (t0 - ib) (zpb - ib) := by omega
                  refine own_go (B := T600.setTop (mkF m 350 (LS_RRRIIRIII r0 r1 r2 (own_N f0) (own_N t0) r5 (own_N ib) (own_N ib) (own_N (min (t0 - ib) (zpb - ib)))) [(.ref r0), (.int (own_N ib)), (.ref r2)])) (fun t k => ?_) ?_
                  · change Steps p.tables e below (T600.setTop (mkF m 344 (LS_RRRIIRIIW r0 r1 r2 (own_N f0) (own_N t0) r5 (own_N ib) (own_N ib) wb8) [(.int (if (own_N (zpb - ib)) < (own_N (t0 - ib)) then (own_N (zpb - ib)) else (own_N (t0 - ib))))])) _
                    rw [show (if (own_N (zpb - ib)) < (own_N (t0 - ib)) then (own_N (zpb - ib)) else (own_N (t0 - ib))) = (own_N (min (t0 - ib) (zpb - ib))) from own_Nmin (by omega) (by omega)]
                    refine XS.istore X600.here hx rfl (hb hby d7_344) rfl (l' := (LS_RRRIIRIII r0 r1 r2 (own_N f0) (own_N t0) r5 (own_N ib) (own_N ib) (own_N (min (t0 - ib) (zpb - ib))))) (by rcases hwb8 with rfl | ⟨_, rfl⟩ <;> rfl) ?_
                    refine XS.aloadN X600.here hx rfl (hb hby d7_346) rfl rfl ?_
                    show Steps p.tables e below (T600.setTop (mkF m 347 (LS_RRRIIRIII r0 r1 r2 (own_N f0) (own_N t0) r5 (own_N ib) (own_N ib) (own_N (min (t0 - ib) (zpb - ib)))) [(.ref r2)])) _
                    refine XS.iload X600.here hx rfl (hb hby d7_347) rfl ?_
                    refine XS.aloadN X600.here hx rfl (hb hby d7_349) rfl rfl ?_
                    exact k
                  obtain ⟨T601, X601, e601, st601⟩ := getF X600 hx hZ hown (host := "") (Or.inl (hw _ (List.mem_of_getElem? (i := 35) rfl))) Via.refl e600 bF_page (g := (mkF m 350 (LS_RRRIIRIII r0 r1 r2 (own_N f0) (own_N t0) r5 (own_N ib) (own_N ib) (own_N (min (t0 - ib) (zpb - ib)))) [(.ref r0), (.int (own_N ib)), (.ref r2)])) rfl rfl (hb hby d7_350)
                  refine own_go (B := T601.setTop (mkF m 353 (LS_RRRIIRIII r0 r1 r2 (own_N f0) (own_N t0) r5 (own_N ib) (own_N ib) (own_N (min (t0 - ib) (zpb - ib)))) [(.ref qb), (.int (own_N ib)), (.ref r2)])) (fun t k => st601 _ k) ?_
                  refine own_go (B := T601.setTop (mkF m 357 (LS_RRRIIRIII r0 r1 r2 (own_N f0) (own_N t0) r5 (own_N ib) (own_N ib) (own_N (min (t0 - ib) (zpb - ib)))) [(.int (own_N (min (t0 - ib) (zpb - ib)))), (.int (own_N ib)), (.ref qb), (.int (own_N ib)), (.ref r2)])) (fun t k => ?_) ?_
                  · refine XS.iload X601.here hx rfl (hb hby d7_353) rfl ?_
                    refine XS.iload X601.here hx rfl (hb hby d7_355) rfl ?_
                    exact k
                  obtain ⟨T602, h602, L602, X602, e602, N602, K602, V602, st602⟩ := own_cpA (sp := ib) (dp := ib) (nn := (min (t0 - ib) (zpb - ib))) X601 hx hZ hown (hw _ (List.mem_of_getElem? (i := 59) rfl)) (hw _ (List.mem_of_getElem? (i := 62) rfl)) (hw _ (List.mem_of_getElem? (i := 60) rfl)) (hw _ (List.mem_of_getElem? (i := 61) rfl)) e601 bVp bVq (by omega) (by omega) (by omega) (by omega) N600 g_qb (g := (mkF m 357 (LS_RRRIIRIII r0 r1 r2 (own_N f0) (own_N t0) r5 (own_N ib) (own_N ib) (own_N (min (t0 - ib) (zpb - ib)))) [(.int (own_N (min (t0 - ib) (zpb - ib)))), (.int (own_N ib)), (.ref qb), (.int (own_N ib)), (.ref r2)])) rfl (by rw [hml]; rfl) rfl (hb hby d7_357) (by decide) (W := 0) (by show 2 * 0 + _ ≤ _; exact Nat.le_of_eq rfl) (by decide)
                  refine own_go (B := T602.setTop (mkF m 360 (LS_RRRIIRIII r0 r1 r2 (own_N f0) (own_N t0) r5 (own_N ib) (own_N ib) (own_N (min (t0 - ib) (zpb - ib)))) [])) (fun t k => st602 _ k) ?_
                  have ne604 : r0 ≠ qb := Exa.ne bE bEq (by decide)
                  have bF_positionCount_v603 := bF_positionCount.keep K602 (ninS ne604 nin0)
                  refine own_go (B := T602.setTop (mkF m 362 (LS_RRRIIRIII r0 r1 r2 (own_N f0) (own_N t0) r5 (own_N ib) (own_N ib) (own_N (min (t0 - ib) (zpb - ib)))) [(.ref r0), (.ref r0)])) (fun t k => ?_) ?_
                  · refine XS.aloadN X602.here hx rfl (hb hby d7_360) rfl rfl ?_
                    refine XS.dup X602.here hx rfl (hb hby d7_361) rfl rfl ?_
                    exact k
                  obtain ⟨T605, X605, e605, st605⟩ := getF X602 hx hZ hown (host := "") (Or.inl (hw _ (List.mem_of_getElem? (i := 44) rfl))) Via.refl e602 bF_positionCount_v603 (g := (mkF m 362 (LS_RRRIIRIII r0 r1 r2 (own_N f0) (own_N t0) r5 (own_N ib) (own_N ib) (own_N (min (t0 - ib) (zpb - ib)))) [(.ref r0), (.ref r0)])) rfl rfl (hb hby d7_362)
                  refine own_go (B := T605.setTop (mkF m 365 (LS_RRRIIRIII r0 r1 r2 (own_N f0) (own_N t0) r5 (own_N ib) (own_N ib) (own_N (min (t0 - ib) (zpb - ib)))) [(.int (own_N ib)), (.ref r0)])) (fun t k => st605 _ k) ?_
                  refine own_go (B := T605.setTop (mkF m 368 (LS_RRRIIRIII r0 r1 r2 (own_N f0) (own_N t0) r5 (own_N ib) (own_N ib) (own_N (min (t0 - ib) (zpb - ib)))) [(.int (own_N (ib + min (t0 - ib) (zpb - ib)))), (.ref r0)])) (fun t k => ?_) ?_
                  · refine XS.iload X605.here hx rfl (hb hby d7_365) rfl ?_
                    refine XS.iadd X605.here hx rfl (hb hby d7_367) rfl ?_
                    change Steps p.tables e below (T605.setTop (mkF m 368 (LS_RRRIIRIII r0 r1 r2 (own_N f0) (own_N t0) r5 (own_N ib) (own_N ib) (own_N (min (t0 - ib) (zpb - ib)))) [(.int ((own_N ib) + (own_N (min (t0 - ib) (zpb - ib))))), (.ref r0)])) _
                    rw [show ((own_N ib) + (own_N (min (t0 - ib) (zpb - ib)))) = (own_N (ib + min (t0 - ib) (zpb - ib))) from own_Nadd (by omega)]
                    exact k
                  have bE_v606 := bE.keep K602
                  obtain ⟨T607, h607, X607, e607, W607, st607⟩ := putF X605 hx hZ hown (host := "") (Or.inl (hw _ (List.mem_of_getElem? (i := 44) rfl))) Via.refl e605 bF_positionCount_v603 bE_v606 (Or.inl (hw _ (List.mem_of_getElem? (i := 45) rfl))) (hw _ (List.mem_of_getElem? (i := 17) rfl)) (ty := .int) (by decide) rfl rfl (g := (mkF m 368 (LS_RRRIIRIII r0 r1 r2 (own_N f0) (own_N t0) r5 (own_N ib) (own_N ib) (own_N (min (t0 - ib) (zpb - ib)))) [(.int (own_N (ib + min (t0 - ib) (zpb - ib)))), (.ref r0)])) rfl rfl (hb hby d7_368)
                  have N607 := Fr.snoc X607 N602 g_r0
                  have Fw607 := bF_positionCount_v603.same W607
                  refine own_go (B := T607.setTop (mkF m 371 (LS_RRRIIRIII r0 r1 r2 (own_N f0) (own_N t0) r5 (own_N ib) (own_N ib) (own_N (min (t0 - ib) (zpb - ib)))) [])) (fun t k => st607 _ k) ?_
                  refine own_go (B := T607.setTop (mkF m 187 (LS_RRRIIRIII r0 r1 r2 (own_N f0) (own_N t0) r5 (own_N (ib + min (t0 - ib) (zpb - ib))) (own_N ib) (own_N (min (t0 - ib) (zpb - ib)))) [])) (fun t k => ?_) ?_
                  · refine XS.iload X607.here hx rfl (hb hby d7_371) rfl ?_
                    refine XS.iload X607.here hx rfl (hb hby d7_373) rfl ?_
                    show Steps p.tables e below (T607.setTop (mkF m 375 (LS_RRRIIRIII r0 r1 r2 (own_N f0) (own_N t0) r5 (own_N ib) (own_N ib) (own_N (min (t0 - ib) (zpb - ib)))) [(.int (own_N (min (t0 - ib) (zpb - ib)))), (.int (own_N ib))])) _
                    refine XS.iadd X607.here hx rfl (hb hby d7_375) rfl ?_
                    change Steps p.tables e below (T607.setTop (mkF m 376 (LS_RRRIIRIII r0 r1 r2 (own_N f0) (own_N t0) r5 (own_N ib) (own_N ib) (own_N (min (t0 - ib) (zpb - ib)))) [(.int ((own_N ib) + (own_N (min (t0 - ib) (zpb - ib)))))])) _
                    rw [show ((own_N ib) + (own_N (min (t0 - ib) (zpb - ib)))) = (own_N (ib + min (t0 - ib) (zpb - ib))) from own_Nadd (by omega)]
                    refine XS.istore X607.here hx rfl (hb hby d7_376) rfl (l' := (LS_RRRIIRIII r0 r1 r2 (own_N f0) (own_N t0) r5 (own_N (ib + min (t0 - ib) (zpb - ib))) (own_N ib) (own_N (min (t0 - ib) (zpb - ib))))) rfl ?_
                    refine XS.goto X607.here hx rfl (pc0 := 378) (pc' := 187) rfl (hb hby d7_378) (by decide) (by decide) ?_
                    exact k
                  have bZ_v608 := Nat.le_trans bZ K602.1
                  have bZ_v609 := Nat.le_trans bZ_v608 (Nat.le_of_eq W607.size.symm)
                  have bK_v610 := bK.trans K602 (allS hib all0)
                  have bK_v611 := bK_v610.wr W607 (Or.inl (List.mem_of_getElem? (i := 0) rfl))
                  have bE_v612 := bE_v606.wr W607
                  have bF_entries_v613 := bF_entries.keep K602 (ninS ne604 nin0)
                  have bF_entries_v614 := bF_entries_v613.other W607 (Or.inr (slot_ne (Or.inl (hw _ (List.mem_of_getElem? (i := 26) rfl))) (Or.inl (hw _ (List.mem_of_getElem? (i := 45) rfl))) (by decide) (t := (.array .int)) (t' := .int) (by decide) (by decide)))
                  have bF_size_v615 := bF_size.keep K602 (ninS ne604 nin0)
                  have bF_size_v616 := bF_size_v615.other W607 (Or.inr (slot_ne (Or.inl (hw _ (List.mem_of_getElem? (i := 47) rfl))) (Or.inl (hw _ (List.mem_of_getElem? (i := 45) rfl))) (by decide) (t := .int) (t' := .int) (by decide) (by decide)))
                  have bF_lastDoc_v617 := bF_lastDoc.keep K602 (ninS ne604 nin0)
                  have bF_lastDoc_v618 := bF_lastDoc_v617.other W607 (Or.inr (slot_ne (Or.inl (hw _ (List.mem_of_getElem? (i := 28) rfl))) (Or.inl (hw _ (List.mem_of_getElem? (i := 45) rfl))) (by decide) (t := .int) (t' := .int) (by decide) (by decide)))
                  have bF_lastFreq_v619 := bF_lastFreq.keep K602 (ninS ne604 nin0)
                  have bF_lastFreq_v620 := bF_lastFreq_v619.other W607 (Or.inr (slot_ne (Or.inl (hw _ (List.mem_of_getElem? (i := 49) rfl))) (Or.inl (hw _ (List.mem_of_getElem? (i := 45) rfl))) (by decide) (t := .int) (t' := .int) (by decide) (by decide)))
                  have bF_maxFreq_v621 := bF_maxFreq.keep K602 (ninS ne604 nin0)
                  have bF_maxFreq_v622 := bF_maxFreq_v621.other W607 (Or.inr (slot_ne (Or.inl (hw _ (List.mem_of_getElem? (i := 55) rfl))) (Or.inl (hw _ (List.mem_of_getElem? (i := 45) rfl))) (by decide) (t := .int) (t' := .int) (by decide) (by decide)))
                  have bF_shortestLength_v623 := bF_shortestLength.keep K602 (ninS ne604 nin0)
                  have bF_shortestLength_v624 := bF_shortestLength_v623.other W607 (Or.inr (slot_ne (Or.inl (hw _ (List.mem_of_getElem? (i := 30) rfl))) (Or.inl (hw _ (List.mem_of_getElem? (i := 45) rfl))) (by decide) (t := .int) (t' := .int) (by decide) (by decide)))
                  have bF_pages_v625 := bF_pages.keep K602 (ninS ne604 nin0)
                  have bF_pages_v626 := bF_pages_v625.other W607 (Or.inr (slot_ne (Or.inl (hw _ (List.mem_of_getElem? (i := 34) rfl))) (Or.inl (hw _ (List.mem_of_getElem? (i := 45) rfl))) (by decide) (t := (.array (.array .int))) (t' := .int) (by decide) (by decide)))
                  have bF_page_v627 := bF_page.keep K602 (ninS ne604 nin0)
                  have bF_page_v628 := bF_page_v627.other W607 (Or.inr (slot_ne (Or.inl (hw _ (List.mem_of_getElem? (i := 36) rfl))) (Or.inl (hw _ (List.mem_of_getElem? (i := 45) rfl))) (by decide) (t := (.array .int)) (t' := .int) (by decide) (by decide)))
                  have bVe_v629 := bVe.keep K602 (ninS neb nin0)
                  have ne631 : r0 ≠ ea := Exa.neArv bE_v606 bVe_v629 (hw _ (List.mem_of_getElem? (i := 17) rfl))
                  have bVe_v630 := bVe_v629.other W607 (Ne.symm ne631)
                  have V602_v632 := V602.other W607 (Ne.symm ne604)
                  have bEq_v633 := bEq.keep K602
                  have bEq_v634 := bEq_v633.wr W607
                  have ne636 : pg ≠ qb := own_neT bVg bVq (by decide)
                  have bVg_v635 := bVg.keep K602 (ninS ne636 nin0)
                  have ne638 : r0 ≠ pg := Exa.neArv bE bVg (hw _ (List.mem_of_getElem? (i := 17) rfl))
                  have bVg_v637 := bVg_v635.other W607 (Ne.symm ne638)
                  have bVp_v639 := bVp.keep K602 (ninS (Ne.symm nqb2) nin0)
                  have ne641 : r0 ≠ r2 := Exa.neArv bE_v606 bVp_v639 (hw _ (List.mem_of_getElem? (i := 17) rfl))
                  have bVp_v640 := bVp_v639.other W607 (Ne.symm ne641)
                  have bVd_v642 := bVd.keep K602 (ninS (Ne.symm nqb1) nin0)
                  have ne644 : r0 ≠ r1 := Exa.neArv bE_v606 bVd_v642 (hw _ (List.mem_of_getElem? (i := 17) rfl))
                  have bVd_v643 := bVd_v642.other W607 (Ne.symm ne644)
                  have ne646 : r5 ≠ qb := own_neT bVl bVq (by decide)
                  have bVl_v645 := bVl.keep K602 (ninS ne646 nin0)
                  have ne648 : r0 ≠ r5 := Exa.neArv bE bVl (hw _ (List.mem_of_getElem? (i := 17) rfl))
                  have bVl_v647 := bVl_v645.other W607 (Ne.symm ne648)
                  exact IHb ((ib + min (t0 - ib) (zpb - ib)), 0, (.val (.int (own_N ib))), (.val (.int (own_N (min (t0 - ib) (zpb - ib)))))) _ _ (show t0 - ((ib + min (t0 - ib) (zpb - ib))) < t0 - ib by omega) (own_mono X607 (by simp) (by simp)) N607 (by rw [e607]; exact ⟨qb, kqb, _, _, bZ_v609, bK_v611, bE_v612, bF_entries_v614, bF_size_v616, bF_lastDoc_v618, bF_lastFreq_v620, bF_maxFreq_v622, bF_shortestLength_v624, Fw607, bF_pages_v626, bF_page_v628, bVe_v630, V602_v632, bEq_v634, bVg_v637, bVp_v640, bVd_v643, bVl_v647, hib, g_qb, neb, nqb1, nqb2, ⟨by omega, by omega, by omega⟩, (own_pfcp hpb), ⟨by omega, by omega⟩, Or.inl rfl, Or.inr ⟨_, rfl⟩, Or.inr ⟨_, rfl⟩⟩)
              · refine own_go (B := T466.setTop (mkF m 279 (LS_RRRIIRIIW r0 r1 r2 (own_N f0) (own_N t0) r5 (own_N ib) (own_N ib) wb8) [(.ref r0), (.int (own_N ib))])) (fun t k => ?_) ?_
                · refine XS.ifYes X466.here hx rfl (pc0 := 206) (pc' := 276) rfl (hb hby d7_206) rfl ((if0 _ _).trans (feq hc206_467).2) (by decide) (by decide) ?_
                  refine XS.iload X466.here hx rfl (hb hby d7_276) rfl ?_
                  show Steps p.tables e below (T466.setTop (mkF m 278 (LS_RRRIIRIIW r0 r1 r2 (own_N f0) (own_N t0) r5 (own_N ib) (own_N ib) wb8) [(.int (own_N ib))])) _
                  refine XS.aloadN X466.here hx rfl (hb hby d7_278) rfl rfl ?_
                  exact k
                obtain ⟨T649, X649, e649, st649⟩ := getF X466 hx hZ hown (host := "") (Or.inl (hw _ (List.mem_of_getElem? (i := 35) rfl))) Via.refl e466 bF_page (g := (mkF m 279 (LS_RRRIIRIIW r0 r1 r2 (own_N f0) (own_N t0) r5 (own_N ib) (own_N ib) wb8) [(.ref r0), (.int (own_N ib))])) rfl rfl (hb hby d7_279)
                refine own_go (B := T649.setTop (mkF m 282 (LS_RRRIIRIIW r0 r1 r2 (own_N f0) (own_N t0) r5 (own_N ib) (own_N ib) wb8) [(.ref qb), (.int (own_N ib))])) (fun t k => st649 _ k) ?_
                obtain ⟨cl650, Ar650, qa650, Sa650, Na650, Ha650, Ga650⟩ := id bVq
                refine own_go (B := T649.setTop (mkF m 283 (LS_RRRIIRIIW r0 r1 r2 (own_N f0) (own_N t0) r5 (own_N ib) (own_N ib) wb8) [(.int (own_N zpb)), (.int (own_N ib))])) (fun t k => ?_) ?_
                · refine X649.arraylength hx (by rw [e649]; exact Ar650.1) (State.isArrayOf_alike hZ.alike Ar650.2.1) (g := (mkF m 282 (LS_RRRIIRIIW r0 r1 r2 (own_N f0) (own_N t0) r5 (own_N ib) (own_N ib) wb8) [(.ref qb), (.int (own_N ib))])) rfl rfl (hb hby d7_282) _ ?_
                  rw [len_of Sa650 Na650]
                  exact k
                by_cases hc283_651 : (own_N ib) = (own_N zpb)
                · have hbz : ib = zpb := own_eq (by omega) (by omega) hc283_651
                  refine own_go (B := T649.setTop (mkF m 288 (LS_RRRIIRIIW r0 r1 r2 (own_N f0) (own_N t0) r5 (own_N ib) (own_N ib) wb8) [(.ref r0), (.ref r0)])) (fun t k => ?_) ?_
                  · refine XS.icmpNo X649.here hx rfl (hb hby d7_283) rfl (teq hc283_651).2 ?_
                    refine XS.aloadN X649.here hx rfl (hb hby d7_286) rfl rfl ?_
                    show Steps p.tables e below (T649.setTop (mkF m 287 (LS_RRRIIRIIW r0 r1 r2 (own_N f0) (own_N t0) r5 (own_N ib) (own_N ib) wb8) [(.ref r0)])) _
                    refine XS.aloadN X649.here hx rfl (hb hby d7_287) rfl rfl ?_
                    exact k
                  obtain ⟨T652, X652, e652, st652⟩ := getF X649 hx hZ hown (host := "") (Or.inl (hw _ (List.mem_of_getElem? (i := 35) rfl))) Via.refl e649 bF_page (g := (mkF m 288 (LS_RRRIIRIIW r0 r1 r2 (own_N f0) (own_N t0) r5 (own_N ib) (own_N ib) wb8) [(.ref r0), (.ref r0)])) rfl rfl (hb hby d7_288)
                  refine own_go (B := T652.setTop (mkF m 291 (LS_RRRIIRIIW r0 r1 r2 (own_N f0) (own_N t0) r5 (own_N ib) (own_N ib) wb8) [(.ref qb), (.ref r0)])) (fun t k => st652 _ k) ?_
                  refine own_go (B := T652.setTop (mkF m 303 (LS_RRRIIRIIW r0 r1 r2 (own_N f0) (own_N t0) r5 (own_N ib) (own_N ib) wb8) [(.int (own_N t0)), (.int (own_N (2 * ib))), (.ref qb), (.ref r0)])) (fun t k => ?_) ?_
                  · refine XS.iload X652.here hx rfl (hb hby d7_291) rfl ?_
                    refine XS.iconst X652.here hx rfl (hb hby d7_293) ?_
                    show Steps p.tables e below (T652.setTop (mkF m 294 (LS_RRRIIRIIW r0 r1 r2 (own_N f0) (own_N t0) r5 (own_N ib) (own_N ib) wb8) [(.int (2 : Int32)), (.int (own_N ib)), (.ref qb), (.ref r0)])) _
                    refine XS.imul X652.here hx rfl (hb hby d7_294) rfl ?_
                    change Steps p.tables e below (T652.setTop (mkF m 295 (LS_RRRIIRIIW r0 r1 r2 (own_N f0) (own_N t0) r5 (own_N ib) (own_N ib) wb8) [(.int ((own_N ib) * (2 : Int32))), (.ref qb), (.ref r0)])) _
                    rw [show ((own_N ib) * (2 : Int32)) = (own_N (2 * ib)) from own_N2' (by omega)]
                    refine XS.iload X652.here hx rfl (hb hby d7_295) rfl ?_
                    refine XS.iload X652.here hx rfl (hb hby d7_297) rfl ?_
                    show Steps p.tables e below (T652.setTop (mkF m 299 (LS_RRRIIRIIW r0 r1 r2 (own_N f0) (own_N t0) r5 (own_N ib) (own_N ib) wb8) [(.int (own_N t0)), (.int (own_N ib)), (.int (own_N (2 * ib))), (.ref qb), (.ref r0)])) _
                    refine XS.iadd X652.here hx rfl (hb hby d7_299) rfl ?_
                    change Steps p.tables e below (T652.setTop (mkF m 300 (LS_RRRIIRIIW r0 r1 r2 (own_N f0) (own_N t0) r5 (own_N ib) (own_N ib) wb8) [(.int ((own_N ib) + (own_N t0))), (.int (own_N (2 * ib))), (.ref qb), (.ref r0)])) _
                    rw [show ((own_N ib) + (own_N t0)) = (own_N (ib + t0)) from own_Nadd (by omega)]
                    refine XS.iload X652.here hx rfl (hb hby d7_300) rfl ?_
                    refine XS.isub X652.here hx rfl (hb hby d7_302) rfl ?_
                    change Steps p.tables e below (T652.setTop (mkF m 303 (LS_RRRIIRIIW r0 r1 r2 (own_N f0) (own_N t0) r5 (own_N ib) (own_N ib) wb8) [(.int ((own_N (ib + t0)) - (own_N ib))), (.int (own_N (2 * ib))), (.ref qb), (.ref r0)])) _
                    rw [show ((own_N (ib + t0)) - (own_N ib)) = (own_N t0) from (own_Nsub (by omega) (by omega)).trans (congrArg own_N (by omega))]
                    exact k
                  obtain ⟨_, _, ⟨T653, L653, k653, n653⟩, -, X653, ⟨Lc653, hQ653, l653, y653, z653⟩, st653⟩ := Jvm.LawKit.callS X652 hx (y := (⟨"java/lang/Math", "max", "(II)I"⟩ : MethodName)) hown (mvT hZ (hw _ (List.mem_of_getElem? (i := 56) rfl))) (mvT hZ (hw _ (List.mem_of_getElem? (i := 57) rfl))) (mvT hZ (hw _ (List.mem_of_getElem? (i := 52) rfl))) (mvT hZ (hw _ (List.mem_of_getElem? (i := 58) rfl))) (by decide) (backOf (W := 2) (rmmax l Z a0 hw [] (own_N (2 * ib)) (own_N t0) Tb.heap n0 bZ) hZ (hw _ (List.mem_of_getElem? (i := 58) rfl)) (hw _ (List.mem_of_getElem? (i := 52) rfl)) (by decide) (by decide)) (g := (mkF m 303 (LS_RRRIIRIIW r0 r1 r2 (own_N f0) (own_N t0) r5 (own_N ib) (own_N ib) wb8) [(.int (own_N t0)), (.int (own_N (2 * ib))), (.ref qb), (.ref r0)])) rfl (by rw [hml]; rfl) (argsL := [(.int (own_N (2 * ib))), (.int (own_N t0))]) (rest := [(.ref qb), (.ref r0)]) (lenOf pd__II_I rfl) rfl (by show 2 * 0 + _ ≤ _; exact Nat.le_of_eq rfl) (hb hby d7_303) (fun _ _ => ⟨rfl, e652, (by decide : 0 + 0 ≤ _), (by decide : 0 + 0 ≤ _)⟩)
                  dsimp only [Pt.U, Pt.locs, Pt.cells, Pt.slots] at X653 l653 y653 z653 st653 hQ653
                  subst l653 y653 z653
                  obtain ⟨rfl, N653q, e653⟩ := hQ653
                  have N653 := Fr.app Nb N653q
                  refine own_go (B := T653.setTop (mkF m 306 (LS_RRRIIRIIW r0 r1 r2 (own_N f0) (own_N t0) r5 (own_N ib) (own_N ib) wb8) [(.int (if (own_N (2 * ib)) < (own_N t0) then (own_N t0) else (own_N (2 * ib)))), (.ref qb), (.ref r0)])) (fun t k => st653 _ k) ?_
                  have hmx : 2 * ib ≤ max (2 * ib) t0 ∧ t0 ≤ max (2 * ib) t0 ∧ max (2 * ib) t0 ≤ 30 := by omega
                  refine own_go (B := T653.setTop (mkF m 309 (LS_RRRIIRIIW r0 r1 r2 (own_N f0) (own_N t0) r5 (own_N ib) (own_N ib) wb8) [(.int (8192 : Int32)), (.int (own_N (max (2 * ib) t0))), (.ref qb), (.ref r0)])) (fun t k => ?_) ?_
                  · change Steps p.tables e below (T653.setTop (mkF m 306 (LS_RRRIIRIIW r0 r1 r2 (own_N f0) (own_N t0) r5 (own_N ib) (own_N ib) wb8) [(.int (if (own_N (2 * ib)) < (own_N t0) then (own_N t0) else (own_N (2 * ib)))), (.ref qb), (.ref r0)])) _
                    rw [show (if (own_N (2 * ib)) < (own_N t0) then (own_N t0) else (own_N (2 * ib))) = (own_N (max (2 * ib) t0)) from own_Nmax (by omega) (by omega)]
                    refine XS.sipush X653.here hx rfl (hb hby d7_306) ?_
                    exact k
                  obtain ⟨_, _, ⟨T654, L654, k654, n654⟩, -, X654, ⟨Lc654, hQ654, l654, y654, z654⟩, st654⟩ := Jvm.LawKit.callS X653 hx (y := (⟨"java/lang/Math", "min", "(II)I"⟩ : MethodName)) hown (mvT hZ (hw _ (List.mem_of_getElem? (i := 50) rfl))) (mvT hZ (hw _ (List.mem_of_getElem? (i := 51) rfl))) (mvT hZ (hw _ (List.mem_of_getElem? (i := 52) rfl))) (mvT hZ (hw _ (List.mem_of_getElem? (i := 53) rfl))) (by decide) (backOf (W := 2) (rmmin l Z a0 hw [] (own_N (max (2 * ib) t0)) (8192 : Int32) Tb.heap n0 bZ) hZ (hw _ (List.mem_of_getElem? (i := 53) rfl)) (hw _ (List.mem_of_getElem? (i := 52) rfl)) (by decide) (by decide)) (g := (mkF m 309 (LS_RRRIIRIIW r0 r1 r2 (own_N f0) (own_N t0) r5 (own_N ib) (own_N ib) wb8) [(.int (8192 : Int32)), (.int (own_N (max (2 * ib) t0))), (.ref qb), (.ref r0)])) rfl (by rw [hml]; rfl) (argsL := [(.int (own_N (max (2 * ib) t0))), (.int (8192 : Int32))]) (rest := [(.ref qb), (.ref r0)]) (lenOf pd__II_I rfl) rfl (by show 2 * 0 + _ ≤ _; exact Nat.le_of_eq rfl) (hb hby d7_309) (fun _ _ => ⟨rfl, e653, (by decide : 0 + 0 ≤ _), (by decide : 0 + 0 ≤ _)⟩)
                  dsimp only [Pt.U, Pt.locs, Pt.cells, Pt.slots] at X654 l654 y654 z654 st654 hQ654
                  subst l654 y654 z654
                  obtain ⟨rfl, N654q, e654⟩ := hQ654
                  have N654 := Fr.app N653 N654q
                  refine own_go (B := T654.setTop (mkF m 312 (LS_RRRIIRIIW r0 r1 r2 (own_N f0) (own_N t0) r5 (own_N ib) (own_N ib) wb8) [(.int (if (8192 : Int32) < (own_N (max (2 * ib) t0)) then (8192 : Int32) else (own_N (max (2 * ib) t0)))), (.ref qb), (.ref r0)])) (fun t k => st654 _ k) ?_
                  refine own_go (B := T654.setTop (mkF m 312 (LS_RRRIIRIIW r0 r1 r2 (own_N f0) (own_N t0) r5 (own_N ib) (own_N ib) wb8) [(.int (own_N (max (2 * ib) t0))), (.ref qb), (.ref r0)])) (fun t k => ?_) ?_
                  · change Steps p.tables e below (T654.setTop (mkF m 312 (LS_RRRIIRIIW r0 r1 r2 (own_N f0) (own_N t0) r5 (own_N ib) (own_N ib) wb8) [(.int (if (8192 : Int32) < (own_N (max (2 * ib) t0)) then (8192 : Int32) else (own_N (max (2 * ib) t0)))), (.ref qb), (.ref r0)])) _
                    rw [show (if (8192 : Int32) < (own_N (max (2 * ib) t0)) then (8192 : Int32) else (own_N (max (2 * ib) t0))) = (own_N (max (2 * ib) t0)) from (own_Nmin (u := 8192) (by omega) (by decide)).trans (congrArg own_N (by omega))]
                    exact k
                  obtain ⟨_, _, ⟨T655, L655, k655, n655⟩, -, X655, ⟨Lc655, hQ655, l655, y655, z655⟩, st655⟩ := Jvm.LawKit.callS X654 hx (y := (⟨"java/util/Arrays", "copyOf", "([II)[I"⟩ : MethodName)) hown (mvT hZ (hw _ (List.mem_of_getElem? (i := 73) rfl))) (mvT hZ (hw _ (List.mem_of_getElem? (i := 74) rfl))) (mvT hZ (hw _ (List.mem_of_getElem? (i := 75) rfl))) (mvT hZ (hw _ (List.mem_of_getElem? (i := 76) rfl))) (by decide) (backOf (W := 1) (rmcpy l Z a0 hw [] qb kqb pfb zpb ((max (2 * ib) t0)) Tb.heap n0 bZ bVq (by omega) (by omega)) hZ (hw _ (List.mem_of_getElem? (i := 76) rfl)) (hw _ (List.mem_of_getElem? (i := 75) rfl)) (by decide) (by decide)) (g := (mkF m 312 (LS_RRRIIRIIW r0 r1 r2 (own_N f0) (own_N t0) r5 (own_N ib) (own_N ib) wb8) [(.int (own_N (max (2 * ib) t0))), (.ref qb), (.ref r0)])) rfl (by rw [hml]; rfl) (argsL := [(.ref qb), (.int (own_N (max (2 * ib) t0)))]) (rest := [(.ref r0)]) (lenOf pd___II__I rfl) rfl (by show 2 * 0 + _ ≤ _; exact Nat.le_of_eq rfl) (hb hby d7_312) (fun _ _ => ⟨rfl, e654, (by decide : 0 + 1 ≤ _), (by decide : 0 + 32 ≤ _)⟩)
                  dsimp only [Pt.U, Pt.locs, Pt.cells, Pt.slots] at X655 l655 y655 z655 st655 hQ655
                  subst l655 y655 z655
                  obtain ⟨o655, ko655, rfl, N655q, K655, hfr655, Eo655, Vo655⟩ := hQ655
                  have N655 := Fr.app N654 N655q
                  have g_o655 : n0 ≤ o655 := Nat.le_trans bZ hfr655
                  have sz_o655 : h0.size ≤ o655 := Nat.le_trans bK.1 hfr655
                  refine own_go (B := T655.setTop (mkF m 315 (LS_RRRIIRIIW r0 r1 r2 (own_N f0) (own_N t0) r5 (own_N ib) (own_N ib) wb8) [(.ref o655), (.ref r0)])) (fun t k => st655 _ k) ?_
                  have bE_v656 := bE.keep K655
                  have bF_page_v657 := bF_page.keep K655 nin0
                  obtain ⟨T658, h658, X658, e658, W658, st658⟩ := putF X655 hx hZ hown (host := "") (Or.inl (hw _ (List.mem_of_getElem? (i := 35) rfl))) Via.refl rfl bF_page_v657 bE_v656 (Or.inl (hw _ (List.mem_of_getElem? (i := 36) rfl))) (hw _ (List.mem_of_getElem? (i := 17) rfl)) (ty := (.array .int)) (by decide) rfl rfl (g := (mkF m 315 (LS_RRRIIRIIW r0 r1 r2 (own_N f0) (own_N t0) r5 (own_N ib) (own_N ib) wb8) [(.ref o655), (.ref r0)])) rfl rfl (hb hby d7_315)
                  have N658 := Fr.snoc X658 N655 g_r0
                  have Fw658 := bF_page_v657.same W658
                  refine own_go (B := T658.setTop (mkF m 318 (LS_RRRIIRIIW r0 r1 r2 (own_N f0) (own_N t0) r5 (own_N ib) (own_N ib) wb8) [])) (fun t k => st658 _ k) ?_
                  have bF_pages_v659 := bF_pages.keep K655 nin0
                  have bF_pages_v660 := bF_pages_v659.other W658 (Or.inr (slot_ne (Or.inl (hw _ (List.mem_of_getElem? (i := 34) rfl))) (Or.inl (hw _ (List.mem_of_getElem? (i := 36) rfl))) (by decide) (t := (.array (.array .int))) (t' := (.array .int)) (by decide) (by decide)))
                  refine own_go (B := T658.setTop (mkF m 319 (LS_RRRIIRIIW r0 r1 r2 (own_N f0) (own_N t0) r5 (own_N ib) (own_N ib) wb8) [(.ref r0)])) (fun t k => ?_) ?_
                  · refine XS.aloadN X658.here hx rfl (hb hby d7_318) rfl rfl ?_
                    exact k
                  obtain ⟨T661, X661, e661, st661⟩ := getF X658 hx hZ hown (host := "") (Or.inl (hw _ (List.mem_of_getElem? (i := 33) rfl))) Via.refl e658 bF_pages_v660 (g := (mkF m 319 (LS_RRRIIRIIW r0 r1 r2 (own_N f0) (own_N t0) r5 (own_N ib) (own_N ib) wb8) [(.ref r0)])) rfl rfl (hb hby d7_319)
                  refine own_go (B := T661.setTop (mkF m 322 (LS_RRRIIRIIW r0 r1 r2 (own_N f0) (own_N t0) r5 (own_N ib) (own_N ib) wb8) [(.ref pg)])) (fun t k => st661 _ k) ?_
                  refine own_go (B := T661.setTop (mkF m 324 (LS_RRRIIRIIW r0 r1 r2 (own_N f0) (own_N t0) r5 (own_N ib) (own_N ib) wb8) [(.ref r0), (.int (0 : Int32)), (.ref pg)])) (fun t k => ?_) ?_
                  · refine XS.iconst X661.here hx rfl (hb hby d7_322) ?_
                    refine XS.aloadN X661.here hx rfl (hb hby d7_323) rfl rfl ?_
                    exact k
                  obtain ⟨T662, X662, e662, st662⟩ := getF X661 hx hZ hown (host := "") (Or.inl (hw _ (List.mem_of_getElem? (i := 35) rfl))) Via.refl e661 Fw658 (g := (mkF m 324 (LS_RRRIIRIIW r0 r1 r2 (own_N f0) (own_N t0) r5 (own_N ib) (own_N ib) wb8) [(.ref r0), (.int (0 : Int32)), (.ref pg)])) rfl rfl (hb hby d7_324)
                  refine own_go (B := T662.setTop (mkF m 327 (LS_RRRIIRIIW r0 r1 r2 (own_N f0) (own_N t0) r5 (own_N ib) (own_N ib) wb8) [(.ref o655), (.int (0 : Int32)), (.ref pg)])) (fun t k => st662 _ k) ?_
                  have bVg_v664 := bVg.keep K655 nin0
                  have ne666 : r0 ≠ pg := Exa.neArv bE_v656 bVg_v664 (hw _ (List.mem_of_getElem? (i := 17) rfl))
                  have bVg_v665 := bVg_v664.other W658 (Ne.symm ne666)
                  obtain ⟨cl663, Ar663, qa663, Sa663, Na663, Ha663, Ga663⟩ := id bVg_v665
                  have hin667 : ¬ ((0 : Int32) < 0 ∨ cl663.slots.size ≤ ((0 : Int32)).toNatClampNeg) := inb_of Sa663 ⟨by decide, by decide⟩
                  have Eo655_v668 := Eo655.wr W658
                  obtain ⟨T667, h667, X667, e667, W667, st667⟩ := stR X662 hx hZ e662 Ar663 (j := (0 : Int32)) hin667 rfl (Sto.ofVA Ar663 qa663 Og (Ins.self Eo655_v668)) (g := (mkF m 327 (LS_RRRIIRIIW r0 r1 r2 (own_N f0) (own_N t0) r5 (own_N ib) (own_N ib) wb8) [(.ref o655), (.int (0 : Int32)), (.ref pg)])) rfl rfl (hb hby d7_327)
                  have N667 := Fr.snoc X667 N658 g_pg
                  have V667 : Arv Z h667 pg kg (.array .int) (1 : Int32) [(.ref o655)] .null := Arv.set Ar663 qa663 Sa663 Na663 Ha663 Ga663 rfl W667 0 rfl (Nat.le_of_ble_eq_true rfl)
                  refine own_go (B := T667.setTop (mkF m 328 (LS_RRRIIRIIW r0 r1 r2 (own_N f0) (own_N t0) r5 (own_N ib) (own_N ib) wb8) [])) (fun t k => st667 _ k) ?_
                  have Fw658_v669 := Fw658.other W667 (Or.inl ne666)
                  refine own_go (B := T667.setTop (mkF m 334 (LS_RRRIIRIIW r0 r1 r2 (own_N f0) (own_N t0) r5 (own_N ib) (own_N ib) wb8) [(.ref r0), (.int (own_N (t0 - ib)))])) (fun t k => ?_) ?_
                  · refine XS.iload X667.here hx rfl (hb hby d7_328) rfl ?_
                    refine XS.iload X667.here hx rfl (hb hby d7_330) rfl ?_
                    show Steps p.tables e below (T667.setTop (mkF m 332 (LS_RRRIIRIIW r0 r1 r2 (own_N f0) (own_N t0) r5 (own_N ib) (own_N ib) wb8) [(.int (own_N ib)), (.int (own_N t0))])) _
                    refine XS.isub X667.here hx rfl (hb hby d7_332) rfl ?_
                    change Steps p.tables e below (T667.setTop (mkF m 333 (LS_RRRIIRIIW r0 r1 r2 (own_N f0) (own_N t0) r5 (own_N ib) (own_N ib) wb8) [(.int ((own_N t0) - (own_N ib)))])) _
                    rw [show ((own_N t0) - (own_N ib)) = (own_N (t0 - ib)) from own_Nsub (by omega) (by omega)]
                    refine XS.aloadN X667.here hx rfl (hb hby d7_333) rfl rfl ?_
                    exact k
                  obtain ⟨T670, X670, e670, st670⟩ := getF X667 hx hZ hown (host := "") (Or.inl (hw _ (List.mem_of_getElem? (i := 35) rfl))) Via.refl e667 Fw658_v669 (g := (mkF m 334 (LS_RRRIIRIIW r0 r1 r2 (own_N f0) (own_N t0) r5 (own_N ib) (own_N ib) wb8) [(.ref r0), (.int (own_N (t0 - ib)))])) rfl rfl (hb hby d7_334)
                  refine own_go (B := T670.setTop (mkF m 337 (LS_RRRIIRIIW r0 r1 r2 (own_N f0) (own_N t0) r5 (own_N ib) (own_N ib) wb8) [(.ref o655), (.int (own_N (t0 - ib)))])) (fun t k => st670 _ k) ?_
                  have ne673 : o655 ≠ r0 := Exa.ne Eo655 bE_v656 (by decide)
                  have Vo655_v672 := Vo655.other W658 ne673
                  have ne675 : o655 ≠ pg := own_neT Vo655 bVg_v664 (by decide)
                  have Vo655_v674 := Vo655_v672.other W667 ne675
                  obtain ⟨cl671, Ar671, qa671, Sa671, Na671, Ha671, Ga671⟩ := id Vo655_v674
                  refine own_go (B := T670.setTop (mkF m 341 (LS_RRRIIRIIW r0 r1 r2 (own_N f0) (own_N t0) r5 (own_N ib) (own_N ib) wb8) [(.int (own_N ((max (2 * ib) t0) - ib))), (.int (own_N (t0 - ib)))])) (fun t k => ?_) ?_
                  · refine X670.arraylength hx (by rw [e670]; exact Ar671.1) (State.isArrayOf_alike hZ.alike Ar671.2.1) (g := (mkF m 337 (LS_RRRIIRIIW r0 r1 r2 (own_N f0) (own_N t0) r5 (own_N ib) (own_N ib) wb8) [(.ref o655), (.int (own_N (t0 - ib)))])) rfl rfl (hb hby d7_337) _ ?_
                    rw [len_of Sa671 Na671]
                    refine XS.iload X670.here hx rfl (hb hby d7_338) rfl ?_
                    show Steps p.tables e below (T670.setTop (mkF m 340 (LS_RRRIIRIIW r0 r1 r2 (own_N f0) (own_N t0) r5 (own_N ib) (own_N ib) wb8) [(.int (own_N ib)), (.int (own_N (max (2 * ib) t0))), (.int (own_N (t0 - ib)))])) _
                    refine XS.isub X670.here hx rfl (hb hby d7_340) rfl ?_
                    change Steps p.tables e below (T670.setTop (mkF m 341 (LS_RRRIIRIIW r0 r1 r2 (own_N f0) (own_N t0) r5 (own_N ib) (own_N ib) wb8) [(.int ((own_N (max (2 * ib) t0)) - (own_N ib))), (.int (own_N (t0 - ib)))])) _
                    rw [show ((own_N (max (2 * ib) t0)) - (own_N ib)) = (own_N ((max (2 * ib) t0) - ib)) from own_Nsub (by omega) (by omega)]
                    exact k
                  have bZ_v676 := Nat.le_trans bZ K655.1
                  have bZ_v677 := Nat.le_trans bZ_v676 (Nat.le_of_eq W658.size.symm)
                  have bZ_v678 := Nat.le_trans bZ_v677 (Nat.le_of_eq W667.size.symm)
                  obtain ⟨_, _, ⟨T679, L679, k679, n679⟩, -, X679, ⟨Lc679, hQ679, l679, y679, z679⟩, st679⟩ := Jvm.LawKit.callS X670 hx (y := (⟨"java/lang/Math", "min", "(II)I"⟩ : MethodName)) hown (mvT hZ (hw _ (List.mem_of_getElem? (i := 50) rfl))) (mvT hZ (hw _ (List.mem_of_getElem? (i := 51) rfl))) (mvT hZ (hw _ (List.mem_of_getElem? (i := 52) rfl))) (mvT hZ (hw _ (List.mem_of_getElem? (i := 53) rfl))) (by decide) (backOf (W := 0) (rmmin l Z a0 hw [] (own_N (t0 - ib)) (own_N ((max (2 * ib) t0) - ib)) h667 n0 bZ_v678) hZ (hw _ (List.mem_of_getElem? (i := 53) rfl)) (hw _ (List.mem_of_getElem? (i := 52) rfl)) (by decide) (by decide)) (g := (mkF m 341 (LS_RRRIIRIIW r0 r1 r2 (own_N f0) (own_N t0) r5 (own_N ib) (own_N ib) wb8) [(.int (own_N ((max (2 * ib) t0) - ib))), (.int (own_N (t0 - ib)))])) rfl (by rw [hml]; rfl) (argsL := [(.int (own_N (t0 - ib))), (.int (own_N ((max (2 * ib) t0) - ib)))]) (rest := []) (lenOf pd__II_I rfl) rfl (by show 2 * 0 + _ ≤ _; exact Nat.le_of_eq rfl) (hb hby d7_341) (fun _ _ => ⟨rfl, e670, (by decide : 1 + 0 ≤ _), (by decide : 32 + 0 ≤ _)⟩)
                  dsimp only [Pt.U, Pt.locs, Pt.cells, Pt.slots] at X679 l679 y679 z679 st679 hQ679
                  subst l679 y679 z679
                  obtain ⟨rfl, N679q, e679⟩ := hQ679
                  have N679 := Fr.app N667 N679q
                  refine own_go (B := T679.setTop (mkF m 344 (LS_RRRIIRIIW r0 r1 r2 (own_N f0) (own_N t0) r5 (own_N ib) (own_N ib) wb8) [(.int (if (own_N ((max (2 * ib) t0) - ib)) < (own_N (t0 - ib)) then (own_N ((max (2 * ib) t0) - ib)) else (own_N (t0 - ib))))])) (fun t k => st679 _ k) ?_
                  refine own_go (B := T679.setTop (mkF m 350 (LS_RRRIIRIII r0 r1 r2 (own_N f0) (own_N t0) r5 (own_N ib) (own_N ib) (own_N (t0 - ib))) [(.ref r0), (.int (own_N ib)), (.ref r2)])) (fun t k => ?_) ?_
                  · change Steps p.tables e below (T679.setTop (mkF m 344 (LS_RRRIIRIIW r0 r1 r2 (own_N f0) (own_N t0) r5 (own_N ib) (own_N ib) wb8) [(.int (if (own_N ((max (2 * ib) t0) - ib)) < (own_N (t0 - ib)) then (own_N ((max (2 * ib) t0) - ib)) else (own_N (t0 - ib))))])) _
                    rw [show (if (own_N ((max (2 * ib) t0) - ib)) < (own_N (t0 - ib)) then (own_N ((max (2 * ib) t0) - ib)) else (own_N (t0 - ib))) = (own_N (t0 - ib)) from (own_Nmin (by omega) (by omega)).trans (congrArg own_N (by omega))]
                    refine XS.istore X679.here hx rfl (hb hby d7_344) rfl (l' := (LS_RRRIIRIII r0 r1 r2 (own_N f0) (own_N t0) r5 (own_N ib) (own_N ib) (own_N (t0 - ib)))) (by rcases hwb8 with rfl | ⟨_, rfl⟩ <;> rfl) ?_
                    refine XS.aloadN X679.here hx rfl (hb hby d7_346) rfl rfl ?_
                    show Steps p.tables e below (T679.setTop (mkF m 347 (LS_RRRIIRIII r0 r1 r2 (own_N f0) (own_N t0) r5 (own_N ib) (own_N ib) (own_N (t0 - ib))) [(.ref r2)])) _
                    refine XS.iload X679.here hx rfl (hb hby d7_347) rfl ?_
                    refine XS.aloadN X679.here hx rfl (hb hby d7_349) rfl rfl ?_
                    exact k
                  obtain ⟨T680, X680, e680, st680⟩ := getF X679 hx hZ hown (host := "") (Or.inl (hw _ (List.mem_of_getElem? (i := 35) rfl))) Via.refl e679 Fw658_v669 (g := (mkF m 350 (LS_RRRIIRIII r0 r1 r2 (own_N f0) (own_N t0) r5 (own_N ib) (own_N ib) (own_N (t0 - ib))) [(.ref r0), (.int (own_N ib)), (.ref r2)])) rfl rfl (hb hby d7_350)
                  refine own_go (B := T680.setTop (mkF m 353 (LS_RRRIIRIII r0 r1 r2 (own_N f0) (own_N t0) r5 (own_N ib) (own_N ib) (own_N (t0 - ib))) [(.ref o655), (.int (own_N ib)), (.ref r2)])) (fun t k => st680 _ k) ?_
                  refine own_go (B := T680.setTop (mkF m 357 (LS_RRRIIRIII r0 r1 r2 (own_N f0) (own_N t0) r5 (own_N ib) (own_N ib) (own_N (t0 - ib))) [(.int (own_N (t0 - ib))), (.int (own_N ib)), (.ref o655), (.int (own_N ib)), (.ref r2)])) (fun t k => ?_) ?_
                  · refine XS.iload X680.here hx rfl (hb hby d7_353) rfl ?_
                    refine XS.iload X680.here hx rfl (hb hby d7_355) rfl ?_
                    exact k
                  have bVp_v682 := bVp.keep K655 nin0
                  have ne684 : r0 ≠ r2 := Exa.neArv bE_v656 bVp_v682 (hw _ (List.mem_of_getElem? (i := 17) rfl))
                  have bVp_v683 := bVp_v682.other W658 (Ne.symm ne684)
                  have ne686 : r2 ≠ pg := own_neT bVp bVg (by decide)
                  have bVp_v685 := bVp_v683.other W667 ne686
                  have Vo655_v687 := Vo655_v672.other W667 ne675
                  obtain ⟨T681, h681, L681, X681, e681, N681, K681, V681, st681⟩ := own_cpA (sp := ib) (dp := ib) (nn := (t0 - ib)) X680 hx hZ hown (hw _ (List.mem_of_getElem? (i := 59) rfl)) (hw _ (List.mem_of_getElem? (i := 62) rfl)) (hw _ (List.mem_of_getElem? (i := 60) rfl)) (hw _ (List.mem_of_getElem? (i := 61) rfl)) e680 bVp_v685 Vo655_v687 (by omega) (by omega) (by omega) (by omega) N679 g_o655 (g := (mkF m 357 (LS_RRRIIRIII r0 r1 r2 (own_N f0) (own_N t0) r5 (own_N ib) (own_N ib) (own_N (t0 - ib))) [(.int (own_N (t0 - ib))), (.int (own_N ib)), (.ref o655), (.int (own_N ib)), (.ref r2)])) rfl (by rw [hml]; rfl) rfl (hb hby d7_357) (by decide) (W := 0) (by show 2 * 0 + _ ≤ _; exact Nat.le_of_eq rfl) (by decide)
                  refine own_go (B := T681.setTop (mkF m 360 (LS_RRRIIRIII r0 r1 r2 (own_N f0) (own_N t0) r5 (own_N ib) (own_N ib) (own_N (t0 - ib))) [])) (fun t k => st681 _ k) ?_
                  have bF_positionCount_v688 := bF_positionCount.keep K655 nin0
                  have bF_positionCount_v689 := bF_positionCount_v688.other W658 (Or.inr (slot_ne (Or.inl (hw _ (List.mem_of_getElem? (i := 45) rfl))) (Or.inl (hw _ (List.mem_of_getElem? (i := 36) rfl))) (by decide) (t := .int) (t' := (.array .int)) (by decide) (by decide)))
                  have bF_positionCount_v690 := bF_positionCount_v689.other W667 (Or.inl ne666)
                  have bF_positionCount_v691 := bF_positionCount_v690.keep K681 (ninS (Ne.symm ne673) nin0)
                  refine own_go (B := T681.setTop (mkF m 362 (LS_RRRIIRIII r0 r1 r2 (own_N f0) (own_N t0) r5 (own_N ib) (own_N ib) (own_N (t0 - ib))) [(.ref r0), (.ref r0)])) (fun t k => ?_) ?_
                  · refine XS.aloadN X681.here hx rfl (hb hby d7_360) rfl rfl ?_
                    refine XS.dup X681.here hx rfl (hb hby d7_361) rfl rfl ?_
                    exact k
                  obtain ⟨T692, X692, e692, st692⟩ := getF X681 hx hZ hown (host := "") (Or.inl (hw _ (List.mem_of_getElem? (i := 44) rfl))) Via.refl e681 bF_positionCount_v691 (g := (mkF m 362 (LS_RRRIIRIII r0 r1 r2 (own_N f0) (own_N t0) r5 (own_N ib) (own_N ib) (own_N (t0 - ib))) [(.ref r0), (.ref r0)])) rfl rfl (hb hby d7_362)
                  refine own_go (B := T692.setTop (mkF m 365 (LS_RRRIIRIII r0 r1 r2 (own_N f0) (own_N t0) r5 (own_N ib) (own_N ib) (own_N (t0 - ib))) [(.int (own_N ib)), (.ref r0)])) (fun t k => st692 _ k) ?_
                  refine own_go (B := T692.setTop (mkF m 368 (LS_RRRIIRIII r0 r1 r2 (own_N f0) (own_N t0) r5 (own_N ib) (own_N ib) (own_N (t0 - ib))) [(.int (own_N t0)), (.ref r0)])) (fun t k => ?_) ?_
                  · refine XS.iload X692.here hx rfl (hb hby d7_365) rfl ?_
                    refine XS.iadd X692.here hx rfl (hb hby d7_367) rfl ?_
                    change Steps p.tables e below (T692.setTop (mkF m 368 (LS_RRRIIRIII r0 r1 r2 (own_N f0) (own_N t0) r5 (own_N ib) (own_N ib) (own_N (t0 - ib))) [(.int ((own_N ib) + (own_N (t0 - ib)))), (.ref r0)])) _
                    rw [show ((own_N ib) + (own_N (t0 - ib))) = (own_N t0) from (own_Nadd (by omega)).trans (congrArg own_N (by omega))]
                    exact k
                  have bE_v693 := bE_v656.wr W658
                  have bE_v694 := bE_v693.wr W667
                  have bE_v695 := bE_v694.keep K681
                  obtain ⟨T696, h696, X696, e696, W696, st696⟩ := putF X692 hx hZ hown (host := "") (Or.inl (hw _ (List.mem_of_getElem? (i := 44) rfl))) Via.refl e692 bF_positionCount_v691 bE_v695 (Or.inl (hw _ (List.mem_of_getElem? (i := 45) rfl))) (hw _ (List.mem_of_getElem? (i := 17) rfl)) (ty := .int) (by decide) rfl rfl (g := (mkF m 368 (LS_RRRIIRIII r0 r1 r2 (own_N f0) (own_N t0) r5 (own_N ib) (own_N ib) (own_N (t0 - ib))) [(.int (own_N t0)), (.ref r0)])) rfl rfl (hb hby d7_368)
                  have N696 := Fr.snoc X696 N681 g_r0
                  have Fw696 := bF_positionCount_v691.same W696
                  refine own_go (B := T696.setTop (mkF m 371 (LS_RRRIIRIII r0 r1 r2 (own_N f0) (own_N t0) r5 (own_N ib) (own_N ib) (own_N (t0 - ib))) [])) (fun t k => st696 _ k) ?_
                  refine own_go (B := T696.setTop (mkF m 187 (LS_RRRIIRIII r0 r1 r2 (own_N f0) (own_N t0) r5 (own_N t0) (own_N ib) (own_N (t0 - ib))) [])) (fun t k => ?_) ?_
                  · refine XS.iload X696.here hx rfl (hb hby d7_371) rfl ?_
                    refine XS.iload X696.here hx rfl (hb hby d7_373) rfl ?_
                    show Steps p.tables e below (T696.setTop (mkF m 375 (LS_RRRIIRIII r0 r1 r2 (own_N f0) (own_N t0) r5 (own_N ib) (own_N ib) (own_N (t0 - ib))) [(.int (own_N (t0 - ib))), (.int (own_N ib))])) _
                    refine XS.iadd X696.here hx rfl (hb hby d7_375) rfl ?_
                    change Steps p.tables e below (T696.setTop (mkF m 376 (LS_RRRIIRIII r0 r1 r2 (own_N f0) (own_N t0) r5 (own_N ib) (own_N ib) (own_N (t0 - ib))) [(.int ((own_N ib) + (own_N (t0 - ib))))])) _
                    rw [show ((own_N ib) + (own_N (t0 - ib))) = (own_N t0) from (own_Nadd (by omega)).trans (congrArg own_N (by omega))]
                    refine XS.istore X696.here hx rfl (hb hby d7_376) rfl (l' := (LS_RRRIIRIII r0 r1 r2 (own_N f0) (own_N t0) r5 (own_N t0) (own_N ib) (own_N (t0 - ib)))) rfl ?_
                    refine XS.goto X696.here hx rfl (pc0 := 378) (pc' := 187) rfl (hb hby d7_378) (by decide) (by decide) ?_
                    exact k
                  have bZ_v697 := Nat.le_trans bZ_v678 K681.1
                  have bZ_v698 := Nat.le_trans bZ_v697 (Nat.le_of_eq W696.size.symm)
                  have bK_v699 := bK.trans K655 all0
                  have bK_v700 := bK_v699.wr W658 (Or.inl (List.mem_of_getElem? (i := 0) rfl))
                  have bK_v701 := bK_v700.wr W667 (Or.inl (List.mem_of_getElem? (i := 3) rfl))
                  have bK_v702 := bK_v701.trans K681 (allS (Or.inr sz_o655) all0)
                  have bK_v703 := bK_v702.wr W696 (Or.inl (List.mem_of_getElem? (i := 0) rfl))
                  have bE_v704 := bE_v695.wr W696
                  have bF_entries_v705 := bF_entries.keep K655 nin0
                  have bF_entries_v706 := bF_entries_v705.other W658 (Or.inr (slot_ne (Or.inl (hw _ (List.mem_of_getElem? (i := 26) rfl))) (Or.inl (hw _ (List.mem_of_getElem? (i := 36) rfl))) (by decide) (t := (.array .int)) (t' := (.array .int)) (by decide) (by decide)))
                  have bF_entries_v707 := bF_entries_v706.other W667 (Or.inl ne666)
                  have bF_entries_v708 := bF_entries_v707.keep K681 (ninS (Ne.symm ne673) nin0)
                  have bF_entries_v709 := bF_entries_v708.other W696 (Or.inr (slot_ne (Or.inl (hw _ (List.mem_of_getElem? (i := 26) rfl))) (Or.inl (hw _ (List.mem_of_getElem? (i := 45) rfl))) (by decide) (t := (.array .int)) (t' := .int) (by decide) (by decide)))
                  have bF_size_v710 := bF_size.keep K655 nin0
                  have bF_size_v711 := bF_size_v710.other W658 (Or.inr (slot_ne (Or.inl (hw _ (List.mem_of_getElem? (i := 47) rfl))) (Or.inl (hw _ (List.mem_of_getElem? (i := 36) rfl))) (by decide) (t := .int) (t' := (.array .int)) (by decide) (by decide)))
                  have bF_size_v712 := bF_size_v711.other W667 (Or.inl ne666)
                  have bF_size_v713 := bF_size_v712.keep K681 (ninS (Ne.symm ne673) nin0)
                  have bF_size_v714 := bF_size_v713.other W696 (Or.inr (slot_ne (Or.inl (hw _ (List.mem_of_getElem? (i := 47) rfl))) (Or.inl (hw _ (List.mem_of_getElem? (i := 45) rfl))) (by decide) (t := .int) (t' := .int) (by decide) (by decide)))
                  have bF_lastDoc_v715 := bF_lastDoc.keep K655 nin0
                  have bF_lastDoc_v716 := bF_lastDoc_v715.other W658 (Or.inr (slot_ne (Or.inl (hw _ (List.mem_of_getElem? (i := 28) rfl))) (Or.inl (hw _ (List.mem_of_getElem? (i := 36) rfl))) (by decide) (t := .int) (t' := (.array .int)) (by decide) (by decide)))
                  have bF_lastDoc_v717 := bF_lastDoc_v716.other W667 (Or.inl ne666)
                  have bF_lastDoc_v718 := bF_lastDoc_v717.keep K681 (ninS (Ne.symm ne673) nin0)
                  have bF_lastDoc_v719 := bF_lastDoc_v718.other W696 (Or.inr (slot_ne (Or.inl (hw _ (List.mem_of_getElem? (i := 28) rfl))) (Or.inl (hw _ (List.mem_of_getElem? (i := 45) rfl))) (by decide) (t := .int) (t' := .int) (by decide) (by decide)))
                  have bF_lastFreq_v720 := bF_lastFreq.keep K655 nin0
                  have bF_lastFreq_v721 := bF_lastFreq_v720.other W658 (Or.inr (slot_ne (Or.inl (hw _ (List.mem_of_getElem? (i := 49) rfl))) (Or.inl (hw _ (List.mem_of_getElem? (i := 36) rfl))) (by decide) (t := .int) (t' := (.array .int)) (by decide) (by decide)))
                  have bF_lastFreq_v722 := bF_lastFreq_v721.other W667 (Or.inl ne666)
                  have bF_lastFreq_v723 := bF_lastFreq_v722.keep K681 (ninS (Ne.symm ne673) nin0)
                  have bF_lastFreq_v724 := bF_lastFreq_v723.other W696 (Or.inr (slot_ne (Or.inl (hw _ (List.mem_of_getElem? (i := 49) rfl))) (Or.inl (hw _ (List.mem_of_getElem? (i := 45) rfl))) (by decide) (t := .int) (t' := .int) (by decide) (by decide)))
                  have bF_maxFreq_v725 := bF_maxFreq.keep K655 nin0
                  have bF_maxFreq_v726 := bF_maxFreq_v725.other W658 (Or.inr (slot_ne (Or.inl (hw _ (List.mem_of_getElem? (i := 55) rfl))) (Or.inl (hw _ (List.mem_of_getElem? (i := 36) rfl))) (by decide) (t := .int) (t' := (.array .int)) (by decide) (by decide)))
                  have bF_maxFreq_v727 := bF_maxFreq_v726.other W667 (Or.inl ne666)
                  have bF_maxFreq_v728 := bF_maxFreq_v727.keep K681 (ninS (Ne.symm ne673) nin0)
                  have bF_maxFreq_v729 := bF_maxFreq_v728.other W696 (Or.inr (slot_ne (Or.inl (hw _ (List.mem_of_getElem? (i := 55) rfl))) (Or.inl (hw _ (List.mem_of_getElem? (i := 45) rfl))) (by decide) (t := .int) (t' := .int) (by decide) (by decide)))
                  have bF_shortestLength_v730 := bF_shortestLength.keep K655 nin0
                  have bF_shortestLength_v731 := bF_shortestLength_v730.other W658 (Or.inr (slot_ne (Or.inl (hw _ (List.mem_of_getElem? (i := 30) rfl))) (Or.inl (hw _ (List.mem_of_getElem? (i := 36) rfl))) (by decide) (t := .int) (t' := (.array .int)) (by decide) (by decide)))
                  have bF_shortestLength_v732 := bF_shortestLength_v731.other W667 (Or.inl ne666)
                  have bF_shortestLength_v733 := bF_shortestLength_v732.keep K681 (ninS (Ne.symm ne673) nin0)
                  have bF_shortestLength_v734 := bF_shortestLength_v733.other W696 (Or.inr (slot_ne (Or.inl (hw _ (List.mem_of_getElem? (i := 30) rfl))) (Or.inl (hw _ (List.mem_of_getElem? (i := 45) rfl))) (by decide) (t := .int) (t' := .int) (by decide) (by decide)))
                  have bF_pages_v735 := bF_pages_v660.other W667 (Or.inl ne666)
                  have bF_pages_v736 := bF_pages_v735.keep K681 (ninS (Ne.symm ne673) nin0)
                  have bF_pages_v737 := bF_pages_v736.other W696 (Or.inr (slot_ne (Or.inl (hw _ (List.mem_of_getElem? (i := 34) rfl))) (Or.inl (hw _ (List.mem_of_getElem? (i := 45) rfl))) (by decide) (t := (.array (.array .int))) (t' := .int) (by decide) (by decide)))
                  have Fw658_v738 := Fw658_v669.keep K681 (ninS (Ne.symm ne673) nin0)
                  have Fw658_v739 := Fw658_v738.other W696 (Or.inr (slot_ne (Or.inl (hw _ (List.mem_of_getElem? (i := 36) rfl))) (Or.inl (hw _ (List.mem_of_getElem? (i := 45) rfl))) (by decide) (t := (.array .int)) (t' := .int) (by decide) (by decide)))
                  have bVe_v740 := bVe.keep K655 nin0
                  have ne742 : r0 ≠ ea := Exa.neArv bE_v656 bVe_v740 (hw _ (List.mem_of_getElem? (i := 17) rfl))
                  have bVe_v741 := bVe_v740.other W658 (Ne.symm ne742)
                  have ne744 : ea ≠ pg := own_neT bVe bVg (by decide)
                  have bVe_v743 := bVe_v741.other W667 ne744
                  have ne747 : ea ≠ o655 := Nat.ne_of_lt (Nat.lt_of_lt_of_le bVe.lt hfr655)
                  have bVe_v745 := bVe_v743.keep K681 (ninS ne747 nin0)
                  have bVe_v748 := bVe_v745.other W696 (Ne.symm ne742)
                  have V681_v749 := V681.other W696 ne673
                  have Eo655_v750 := Eo655_v668.wr W667
                  have Eo655_v751 := Eo655_v750.keep K681
                  have Eo655_v752 := Eo655_v751.wr W696
                  have V667_v753 := V667.keep K681 (ninS (Ne.symm ne675) nin0)
                  have V667_v754 := V667_v753.other W696 (Ne.symm ne666)
                  have bVp_v755 := bVp_v682.other W658 (Ne.symm ne684)
                  have bVp_v756 := bVp_v755.other W667 ne686
                  have ne759 : r2 ≠ o655 := Nat.ne_of_lt (Nat.lt_of_lt_of_le bVp.lt hfr655)
                  have bVp_v757 := bVp_v756.keep K681 (ninS ne759 nin0)
                  have bVp_v760 := bVp_v757.other W696 (Ne.symm ne684)
                  have bVd_v761 := bVd.keep K655 nin0
                  have ne763 : r0 ≠ r1 := Exa.neArv bE_v656 bVd_v761 (hw _ (List.mem_of_getElem? (i := 17) rfl))
                  have bVd_v762 := bVd_v761.other W658 (Ne.symm ne763)
                  have ne765 : r1 ≠ pg := own_neT bVd bVg (by decide)
                  have bVd_v764 := bVd_v762.other W667 ne765
                  have ne768 : r1 ≠ o655 := Nat.ne_of_lt (Nat.lt_of_lt_of_le bVd.lt hfr655)
                  have bVd_v766 := bVd_v764.keep K681 (ninS ne768 nin0)
                  have bVd_v769 := bVd_v766.other W696 (Ne.symm ne763)
                  have bVl_v770 := bVl.keep K655 nin0
                  have ne772 : r0 ≠ r5 := Exa.neArv bE_v656 bVl_v770 (hw _ (List.mem_of_getElem? (i := 17) rfl))
                  have bVl_v771 := bVl_v770.other W658 (Ne.symm ne772)
                  have ne774 : r5 ≠ pg := own_neT bVl bVg (by decide)
                  have bVl_v773 := bVl_v771.other W667 ne774
                  have ne776 : r5 ≠ o655 := own_neT bVl_v770 Vo655 (by decide)
                  have bVl_v775 := bVl_v773.keep K681 (ninS ne776 nin0)
                  have bVl_v777 := bVl_v775.other W696 (Ne.symm ne772)
                  exact IHb (t0, 1, (.val (.int (own_N ib))), (.val (.int (own_N (t0 - ib))))) _ _ (show t0 - (t0) < t0 - ib by omega) (own_mono X696 (by simp) (by simp)) N696 (by rw [e696]; exact ⟨o655, ko655, _, _, bZ_v698, bK_v703, bE_v704, bF_entries_v709, bF_size_v714, bF_lastDoc_v719, bF_lastFreq_v724, bF_maxFreq_v729, bF_shortestLength_v734, Fw696, bF_pages_v737, Fw658_v739, bVe_v748, V681_v749, Eo655_v752, V667_v754, bVp_v760, bVd_v769, bVl_v777, (Or.inr sz_o655), g_o655, ne747, (Ne.symm ne768), (Ne.symm ne759), ⟨by omega, by omega, by omega⟩, (fun t ht => own_pfcp (own_pfgrow hpb (by omega)) t (by omega)), ⟨hft, Nat.le_refl _⟩, Or.inr ⟨rfl, rfl⟩, Or.inr ⟨_, rfl⟩, Or.inr ⟨_, rfl⟩⟩)
                · have hbz : ib < zpb := own_ltne hzb.2.1 (by omega) hc283_651
                  refine own_go (B := T649.setTop (mkF m 334 (LS_RRRIIRIIW r0 r1 r2 (own_N f0) (own_N t0) r5 (own_N ib) (own_N ib) wb8) [(.ref r0), (.int (own_N (t0 - ib)))])) (fun t k => ?_) ?_
                  · refine XS.icmpYes X649.here hx rfl (pc0 := 283) (pc' := 328) rfl (hb hby d7_283) rfl (feq hc283_651).2 (by decide) (by decide) ?_
                    refine XS.iload X649.here hx rfl (hb hby d7_328) rfl ?_
                    show Steps p.tables e below (T649.setTop (mkF m 330 (LS_RRRIIRIIW r0 r1 r2 (own_N f0) (own_N t0) r5 (own_N ib) (own_N ib) wb8) [(.int (own_N t0))])) _
                    refine XS.iload X649.here hx rfl (hb hby d7_330) rfl ?_
                    refine XS.isub X649.here hx rfl (hb hby d7_332) rfl ?_
                    change Steps p.tables e below (T649.setTop (mkF m 333 (LS_RRRIIRIIW r0 r1 r2 (own_N f0) (own_N t0) r5 (own_N ib) (own_N ib) wb8) [(.int ((own_N t0) - (own_N ib)))])) _
                    rw [show ((own_N t0) - (own_N ib)) = (own_N (t0 - ib)) from own_Nsub (by omega) (by omega)]
                    refine XS.aloadN X649.here hx rfl (hb hby d7_333) rfl rfl ?_
                    exact k
                  obtain ⟨T778, X778, e778, st778⟩ := getF X649 hx hZ hown (host := "") (Or.inl (hw _ (List.mem_of_getElem? (i := 35) rfl))) Via.refl e649 bF_page (g := (mkF m 334 (LS_RRRIIRIIW r0 r1 r2 (own_N f0) (own_N t0) r5 (own_N ib) (own_N ib) wb8) [(.ref r0), (.int (own_N (t0 - ib)))])) rfl rfl (hb hby d7_334)
                  refine own_go (B := T778.setTop (mkF m 337 (LS_RRRIIRIIW r0 r1 r2 (own_N f0) (own_N t0) r5 (own_N ib) (own_N ib) wb8) [(.ref qb), (.int (own_N (t0 - ib)))])) (fun t k => st778 _ k) ?_
                  obtain ⟨cl779, Ar779, qa779, Sa779, Na779, Ha779, Ga779⟩ := id bVq
                  refine own_go (B := T778.setTop (mkF m 341 (LS_RRRIIRIIW r0 r1 r2 (own_N f0) (own_N t0) r5 (own_N ib) (own_N ib) wb8) [(.int (own_N (zpb - ib))), (.int (own_N (t0 - ib)))])) (fun t k => ?_) ?_
                  · refine X778.arraylength hx (by rw [e778]; exact Ar779.1) (State.isArrayOf_alike hZ.alike Ar779.2.1) (g := (mkF m 337 (LS_RRRIIRIIW r0 r1 r2 (own_N f0) (own_N t0) r5 (own_N ib) (own_N ib) wb8) [(.ref qb), (.int (own_N (t0 - ib)))])) rfl rfl (hb hby d7_337) _ ?_
                    rw [len_of Sa779 Na779]
                    refine XS.iload X778.here hx rfl (hb hby d7_338) rfl ?_
                    show Steps p.tables e below (T778.setTop (mkF m 340 (LS_RRRIIRIIW r0 r1 r2 (own_N f0) (own_N t0) r5 (own_N ib) (own_N ib) wb8) [(.int (own_N ib)), (.int (own_N zpb)), (.int (own_N (t0 - ib)))])) _
                    refine XS.isub X778.here hx rfl (hb hby d7_340) rfl ?_
                    change Steps p.tables e below (T778.setTop (mkF m 341 (LS_RRRIIRIIW r0 r1 r2 (own_N f0) (own_N t0) r5 (own_N ib) (own_N ib) wb8) [(.int ((own_N zpb) - (own_N ib))), (.int (own_N (t0 - ib)))])) _
                    rw [show ((own_N zpb) - (own_N ib)) = (own_N (zpb - ib)) from own_Nsub (by omega) (by omega)]
                    exact k
                  obtain ⟨_, _, ⟨T780, L780, k780, n780⟩, -, X780, ⟨Lc780, hQ780, l780, y780, z780⟩, st780⟩ := Jvm.LawKit.callS X778 hx (y := (⟨"java/lang/Math", "min", "(II)I"⟩ : MethodName)) hown (mvT hZ (hw _ (List.mem_of_getElem? (i := 50) rfl))) (mvT hZ (hw _ (List.mem_of_getElem? (i := 51) rfl))) (mvT hZ (hw _ (List.mem_of_getElem? (i := 52) rfl))) (mvT hZ (hw _ (List.mem_of_getElem? (i := 53) rfl))) (by decide) (backOf (W := 0) (rmmin l Z a0 hw [] (own_N (t0 - ib)) (own_N (zpb - ib)) Tb.heap n0 bZ) hZ (hw _ (List.mem_of_getElem? (i := 53) rfl)) (hw _ (List.mem_of_getElem? (i := 52) rfl)) (by decide) (by decide)) (g := (mkF m 341 (LS_RRRIIRIIW r0 r1 r2 (own_N f0) (own_N t0) r5 (own_N ib) (own_N ib) wb8) [(.int (own_N (zpb - ib))), (.int (own_N (t0 - ib)))])) rfl (by rw [hml]; rfl) (argsL := [(.int (own_N (t0 - ib))), (.int (own_N (zpb - ib)))]) (rest := []) (lenOf pd__II_I rfl) rfl (by show 2 * 0 + _ ≤ _; exact Nat.le_of_eq rfl) (hb hby d7_341) (fun _ _ => ⟨rfl, e778, (by decide : 0 + 0 ≤ _), (by decide : 0 + 0 ≤ _)⟩)
                  dsimp only [Pt.U, Pt.locs, Pt.cells, Pt.slots] at X780 l780 y780 z780 st780 hQ780
                  subst l780 y780 z780
                  obtain ⟨rfl, N780q, e780⟩ := hQ780
                  have N780 := Fr.app Nb N780q
                  refine own_go (B := T780.setTop (mkF m 344 (LS_RRRIIRIIW r0 r1 r2 (own_N f0) (own_N t0) r5 (own_N ib) (own_N ib) wb8) [(.int (if (own_N (zpb - ib)) < (own_N (t0 - ib)) then (own_N (zpb - ib)) else (own_N (t0 - ib))))])) (fun t k => st780 _ k) ?_
                  have hmn : min (t0 - ib) (zpb - ib) ≤ t0 - ib ∧ min (t0 - ib) (zpb - ib) ≤ zpb - ib ∧ 0 < min (t0 - ib) (zpb - ib) := by omega
                  refine own_go (B := T780.setTop (mkF m 350 (LS_RRRIIRIII r0 r1 r2 (own_N f0) (own_N t0) r5 (own_N ib) (own_N ib) (own_N (min (t0 - ib) (zpb - ib)))) [(.ref r0), (.int (own_N ib)), (.ref r2)])) (fun t k => ?_) ?_
                  · change Steps p.tables e below (T780.setTop (mkF m 344 (LS_RRRIIRIIW r0 r1 r2 (own_N f0) (own_N t0) r5 (own_N ib) (own_N ib) wb8) [(.int (if (own_N (zpb - ib)) < (own_N (t0 - ib)) then (own_N (zpb - ib)) else (own_N (t0 - ib))))])) _
                    rw [show (if (own_N (zpb - ib)) < (own_N (t0 - ib)) then (own_N (zpb - ib)) else (own_N (t0 - ib))) = (own_N (min (t0 - ib) (zpb - ib))) from own_Nmin (by omega) (by omega)]
                    refine XS.istore X780.here hx rfl (hb hby d7_344) rfl (l' := (LS_RRRIIRIII r0 r1 r2 (own_N f0) (own_N t0) r5 (own_N ib) (own_N ib) (own_N (min (t0 - ib) (zpb - ib))))) (by rcases hwb8 with rfl | ⟨_, rfl⟩ <;> rfl) ?_
                    refine XS.aloadN X780.here hx rfl (hb hby d7_346) rfl rfl ?_
                    show Steps p.tables e below (T780.setTop (mkF m 347 (LS_RRRIIRIII r0 r1 r2 (own_N f0) (own_N t0) r5 (own_N ib) (own_N ib) (own_N (min (t0 - ib) (zpb - ib)))) [(.ref r2)])) _
                    refine XS.iload X780.here hx rfl (hb hby d7_347) rfl ?_
                    refine XS.aloadN X780.here hx rfl (hb hby d7_349) rfl rfl ?_
                    exact k
                  obtain ⟨T781, X781, e781, st781⟩ := getF X780 hx hZ hown (host := "") (Or.inl (hw _ (List.mem_of_getElem? (i := 35) rfl))) Via.refl e780 bF_page (g := (mkF m 350 (LS_RRRIIRIII r0 r1 r2 (own_N f0) (own_N t0) r5 (own_N ib) (own_N ib) (own_N (min (t0 - ib) (zpb - ib)))) [(.ref r0), (.int (own_N ib)), (.ref r2)])) rfl rfl (hb hby d7_350)
                  refine own_go (B := T781.setTop (mkF m 353 (LS_RRRIIRIII r0 r1 r2 (own_N f0) (own_N t0) r5 (own_N ib) (own_N ib) (own_N (min (t0 - ib) (zpb - ib)))) [(.ref qb), (.int (own_N ib)), (.ref r2)])) (fun t k => st781 _ k) ?_
                  refine own_go (B := T781.setTop (mkF m 357 (LS_RRRIIRIII r0 r1 r2 (own_N f0) (own_N t0) r5 (own_N ib) (own_N ib) (own_N (min (t0 - ib) (zpb - ib)))) [(.int (own_N (min (t0 - ib) (zpb - ib)))), (.int (own_N ib)), (.ref qb), (.int (own_N ib)), (.ref r2)])) (fun t k => ?_) ?_
                  · refine XS.iload X781.here hx rfl (hb hby d7_353) rfl ?_
                    refine XS.iload X781.here hx rfl (hb hby d7_355) rfl ?_
                    exact k
                  obtain ⟨T782, h782, L782, X782, e782, N782, K782, V782, st782⟩ := own_cpA (sp := ib) (dp := ib) (nn := (min (t0 - ib) (zpb - ib))) X781 hx hZ hown (hw _ (List.mem_of_getElem? (i := 59) rfl)) (hw _ (List.mem_of_getElem? (i := 62) rfl)) (hw _ (List.mem_of_getElem? (i := 60) rfl)) (hw _ (List.mem_of_getElem? (i := 61) rfl)) e781 bVp bVq (by omega) (by omega) (by omega) (by omega) N780 g_qb (g := (mkF m 357 (LS_RRRIIRIII r0 r1 r2 (own_N f0) (own_N t0) r5 (own_N ib) (own_N ib) (own_N (min (t0 - ib) (zpb - ib)))) [(.int (own_N (min (t0 - ib) (zpb - ib)))), (.int (own_N ib)), (.ref qb), (.int (own_N ib)), (.ref r2)])) rfl (by rw [hml]; rfl) rfl (hb hby d7_357) (by decide) (W := 0) (by show 2 * 0 + _ ≤ _; exact Nat.le_of_eq rfl) (by decide)
                  refine own_go (B := T782.setTop (mkF m 360 (LS_RRRIIRIII r0 r1 r2 (own_N f0) (own_N t0) r5 (own_N ib) (own_N ib) (own_N (min (t0 - ib) (zpb - ib)))) [])) (fun t k => st782 _ k) ?_
                  have ne784 : r0 ≠ qb := Exa.ne bE bEq (by decide)
                  have bF_positionCount_v783 := bF_positionCount.keep K782 (ninS ne784 nin0)
                  refine own_go (B := T782.setTop (mkF m 362 (LS_RRRIIRIII r0 r1 r2 (own_N f0) (own_N t0) r5 (own_N ib) (own_N ib) (own_N (min (t0 - ib) (zpb - ib)))) [(.ref r0), (.ref r0)])) (fun t k => ?_) ?_
                  · refine XS.aloadN X782.here hx rfl (hb hby d7_360) rfl rfl ?_
                    refine XS.dup X782.here hx rfl (hb hby d7_361) rfl rfl ?_
                    exact k
                  obtain ⟨T785, X785, e785, st785⟩ := getF X782 hx hZ hown (host := "") (Or.inl (hw _ (List.mem_of_getElem? (i := 44) rfl))) Via.refl e782 bF_positionCount_v783 (g := (mkF m 362 (LS_RRRIIRIII r0 r1 r2 (own_N f0) (own_N t0) r5 (own_N ib) (own_N ib) (own_N (min (t0 - ib) (zpb - ib)))) [(.ref r0), (.ref r0)])) rfl rfl (hb hby d7_362)
                  refine own_go (B := T785.setTop (mkF m 365 (LS_RRRIIRIII r0 r1 r2 (own_N f0) (own_N t0) r5 (own_N ib) (own_N ib) (own_N (min (t0 - ib) (zpb - ib)))) [(.int (own_N ib)), (.ref r0)])) (fun t k => st785 _ k) ?_
                  refine own_go (B := T785.setTop (mkF m 368 (LS_RRRIIRIII r0 r1 r2 (own_N f0) (own_N t0) r5 (own_N ib) (own_N ib) (own_N (min (t0 - ib) (zpb - ib)))) [(.int (own_N (ib + min (t0 - ib) (zpb - ib)))), (.ref r0)])) (fun t k => ?_) ?_
                  · refine XS.iload X785.here hx rfl (hb hby d7_365) rfl ?_
                    refine XS.iadd X785.here hx rfl (hb hby d7_367) rfl ?_
                    change Steps p.tables e below (T785.setTop (mkF m 368 (LS_RRRIIRIII r0 r1 r2 (own_N f0) (own_N t0) r5 (own_N ib) (own_N ib) (own_N (min (t0 - ib) (zpb - ib)))) [(.int ((own_N ib) + (own_N (min (t0 - ib) (zpb - ib))))), (.ref r0)])) _
                    rw [show ((own_N ib) + (own_N (min (t0 - ib) (zpb - ib)))) = (own_N (ib + min (t0 - ib) (zpb - ib))) from own_Nadd (by omega)]
                    exact k
                  have bE_v786 := bE.keep K782
                  obtain ⟨T787, h787, X787, e787, W787, st787⟩ := putF X785 hx hZ hown (host := "") (Or.inl (hw _ (List.mem_of_getElem? (i := 44) rfl))) Via.refl e785 bF_positionCount_v783 bE_v786 (Or.inl (hw _ (List.mem_of_getElem? (i := 45) rfl))) (hw _ (List.mem_of_getElem? (i := 17) rfl)) (ty := .int) (by decide) rfl rfl (g := (mkF m 368 (LS_RRRIIRIII r0 r1 r2 (own_N f0) (own_N t0) r5 (own_N ib) (own_N ib) (own_N (min (t0 - ib) (zpb - ib)))) [(.int (own_N (ib + min (t0 - ib) (zpb - ib)))), (.ref r0)])) rfl rfl (hb hby d7_368)
                  have N787 := Fr.snoc X787 N782 g_r0
                  have Fw787 := bF_positionCount_v783.same W787
                  refine own_go (B := T787.setTop (mkF m 371 (LS_RRRIIRIII r0 r1 r2 (own_N f0) (own_N t0) r5 (own_N ib) (own_N ib) (own_N (min (t0 - ib) (zpb - ib)))) [])) (fun t k => st787 _ k) ?_
                  refine own_go (B := T787.setTop (mkF m 187 (LS_RRRIIRIII r0 r1 r2 (own_N f0) (own_N t0) r5 (own_N (ib + min (t0 - ib) (zpb - ib))) (own_N ib) (own_N (min (t0 - ib) (zpb - ib)))) [])) (fun t k => ?_) ?_
                  · refine XS.iload X787.here hx rfl (hb hby d7_371) rfl ?_
                    refine XS.iload X787.here hx rfl (hb hby d7_373) rfl ?_
                    show Steps p.tables e below (T787.setTop (mkF m 375 (LS_RRRIIRIII r0 r1 r2 (own_N f0) (own_N t0) r5 (own_N ib) (own_N ib) (own_N (min (t0 - ib) (zpb - ib)))) [(.int (own_N (min (t0 - ib) (zpb - ib)))), (.int (own_N ib))])) _
                    refine XS.iadd X787.here hx rfl (hb hby d7_375) rfl ?_
                    change Steps p.tables e below (T787.setTop (mkF m 376 (LS_RRRIIRIII r0 r1 r2 (own_N f0) (own_N t0) r5 (own_N ib) (own_N ib) (own_N (min (t0 - ib) (zpb - ib)))) [(.int ((own_N ib) + (own_N (min (t0 - ib) (zpb - ib)))))])) _
                    rw [show ((own_N ib) + (own_N (min (t0 - ib) (zpb - ib)))) = (own_N (ib + min (t0 - ib) (zpb - ib))) from own_Nadd (by omega)]
                    refine XS.istore X787.here hx rfl (hb hby d7_376) rfl (l' := (LS_RRRIIRIII r0 r1 r2 (own_N f0) (own_N t0) r5 (own_N (ib + min (t0 - ib) (zpb - ib))) (own_N ib) (own_N (min (t0 - ib) (zpb - ib))))) rfl ?_
                    refine XS.goto X787.here hx rfl (pc0 := 378) (pc' := 187) rfl (hb hby d7_378) (by decide) (by decide) ?_
                    exact k
                  have bZ_v788 := Nat.le_trans bZ K782.1
                  have bZ_v789 := Nat.le_trans bZ_v788 (Nat.le_of_eq W787.size.symm)
                  have bK_v790 := bK.trans K782 (allS hib all0)
                  have bK_v791 := bK_v790.wr W787 (Or.inl (List.mem_of_getElem? (i := 0) rfl))
                  have bE_v792 := bE_v786.wr W787
                  have bF_entries_v793 := bF_entries.keep K782 (ninS ne784 nin0)
                  have bF_entries_v794 := bF_entries_v793.other W787 (Or.inr (slot_ne (Or.inl (hw _ (List.mem_of_getElem? (i := 26) rfl))) (Or.inl (hw _ (List.mem_of_getElem? (i := 45) rfl))) (by decide) (t := (.array .int)) (t' := .int) (by decide) (by decide)))
                  have bF_size_v795 := bF_size.keep K782 (ninS ne784 nin0)
                  have bF_size_v796 := bF_size_v795.other W787 (Or.inr (slot_ne (Or.inl (hw _ (List.mem_of_getElem? (i := 47) rfl))) (Or.inl (hw _ (List.mem_of_getElem? (i := 45) rfl))) (by decide) (t := .int) (t' := .int) (by decide) (by decide)))
                  have bF_lastDoc_v797 := bF_lastDoc.keep K782 (ninS ne784 nin0)
                  have bF_lastDoc_v798 := bF_lastDoc_v797.other W787 (Or.inr (slot_ne (Or.inl (hw _ (List.mem_of_getElem? (i := 28) rfl))) (Or.inl (hw _ (List.mem_of_getElem? (i := 45) rfl))) (by decide) (t := .int) (t' := .int) (by decide) (by decide)))
                  have bF_lastFreq_v799 := bF_lastFreq.keep K782 (ninS ne784 nin0)
                  have bF_lastFreq_v800 := bF_lastFreq_v799.other W787 (Or.inr (slot_ne (Or.inl (hw _ (List.mem_of_getElem? (i := 49) rfl))) (Or.inl (hw _ (List.mem_of_getElem? (i := 45) rfl))) (by decide) (t := .int) (t' := .int) (by decide) (by decide)))
                  have bF_maxFreq_v801 := bF_maxFreq.keep K782 (ninS ne784 nin0)
                  have bF_maxFreq_v802 := bF_maxFreq_v801.other W787 (Or.inr (slot_ne (Or.inl (hw _ (List.mem_of_getElem? (i := 55) rfl))) (Or.inl (hw _ (List.mem_of_getElem? (i := 45) rfl))) (by decide) (t := .int) (t' := .int) (by decide) (by decide)))
                  have bF_shortestLength_v803 := bF_shortestLength.keep K782 (ninS ne784 nin0)
                  have bF_shortestLength_v804 := bF_shortestLength_v803.other W787 (Or.inr (slot_ne (Or.inl (hw _ (List.mem_of_getElem? (i := 30) rfl))) (Or.inl (hw _ (List.mem_of_getElem? (i := 45) rfl))) (by decide) (t := .int) (t' := .int) (by decide) (by decide)))
                  have bF_pages_v805 := bF_pages.keep K782 (ninS ne784 nin0)
                  have bF_pages_v806 := bF_pages_v805.other W787 (Or.inr (slot_ne (Or.inl (hw _ (List.mem_of_getElem? (i := 34) rfl))) (Or.inl (hw _ (List.mem_of_getElem? (i := 45) rfl))) (by decide) (t := (.array (.array .int))) (t' := .int) (by decide) (by decide)))
                  have bF_page_v807 := bF_page.keep K782 (ninS ne784 nin0)
                  have bF_page_v808 := bF_page_v807.other W787 (Or.inr (slot_ne (Or.inl (hw _ (List.mem_of_getElem? (i := 36) rfl))) (Or.inl (hw _ (List.mem_of_getElem? (i := 45) rfl))) (by decide) (t := (.array .int)) (t' := .int) (by decide) (by decide)))
                  have bVe_v809 := bVe.keep K782 (ninS neb nin0)
                  have ne811 : r0 ≠ ea := Exa.neArv bE_v786 bVe_v809 (hw _ (List.mem_of_getElem? (i := 17) rfl))
                  have bVe_v810 := bVe_v809.other W787 (Ne.symm ne811)
                  have V782_v812 := V782.other W787 (Ne.symm ne784)
                  have bEq_v813 := bEq.keep K782
                  have bEq_v814 := bEq_v813.wr W787
                  have ne816 : pg ≠ qb := own_neT bVg bVq (by decide)
                  have bVg_v815 := bVg.keep K782 (ninS ne816 nin0)
                  have ne818 : r0 ≠ pg := Exa.neArv bE bVg (hw _ (List.mem_of_getElem? (i := 17) rfl))
                  have bVg_v817 := bVg_v815.other W787 (Ne.symm ne818)
                  have bVp_v819 := bVp.keep K782 (ninS (Ne.symm nqb2) nin0)
                  have ne821 : r0 ≠ r2 := Exa.neArv bE_v786 bVp_v819 (hw _ (List.mem_of_getElem? (i := 17) rfl))
                  have bVp_v820 := bVp_v819.other W787 (Ne.symm ne821)
                  have bVd_v822 := bVd.keep K782 (ninS (Ne.symm nqb1) nin0)
                  have ne824 : r0 ≠ r1 := Exa.neArv bE_v786 bVd_v822 (hw _ (List.mem_of_getElem? (i := 17) rfl))
                  have bVd_v823 := bVd_v822.other W787 (Ne.symm ne824)
                  have ne826 : r5 ≠ qb := own_neT bVl bVq (by decide)
                  have bVl_v825 := bVl.keep K782 (ninS ne826 nin0)
                  have ne828 : r0 ≠ r5 := Exa.neArv bE bVl (hw _ (List.mem_of_getElem? (i := 17) rfl))
                  have bVl_v827 := bVl_v825.other W787 (Ne.symm ne828)
                  exact IHb ((ib + min (t0 - ib) (zpb - ib)), 0, (.val (.int (own_N ib))), (.val (.int (own_N (min (t0 - ib) (zpb - ib)))))) _ _ (show t0 - ((ib + min (t0 - ib) (zpb - ib))) < t0 - ib by omega) (own_mono X787 (by simp) (by simp)) N787 (by rw [e787]; exact ⟨qb, kqb, _, _, bZ_v789, bK_v791, bE_v792, bF_entries_v794, bF_size_v796, bF_lastDoc_v798, bF_lastFreq_v800, bF_maxFreq_v802, bF_shortestLength_v804, Fw787, bF_pages_v806, bF_page_v808, bVe_v810, V782_v812, bEq_v814, bVg_v817, bVp_v820, bVd_v823, bVl_v827, hib, g_qb, neb, nqb1, nqb2, ⟨by omega, by omega, by omega⟩, (own_pfcp hpb), ⟨by omega, by omega⟩, Or.inl rfl, Or.inr ⟨_, rfl⟩, Or.inr ⟨_, rfl⟩⟩)
            · refine own_go (B := Tb.setTop (mkF m 381 (LS_RRRIIRIWW r0 r1 r2 (own_N f0) (own_N t0) r5 (own_N ib) wb7 wb8) [])) (fun t k => ?_) ?_
              · refine XS.icmpYes Xb.here hx rfl (pc0 := 191) (pc' := 381) rfl (hb hby d7_191) rfl (flt hc191_465).2.1 (by decide) (by decide) ?_
                exact k
              obtain ⟨fs, hr, hrun, hended, hW, hsame⟩ := Xb.leave (v := none) (fun _ => rfl) (BodyLoose.notSynchronized Bd)
              refine ⟨_, _, ?_, hrun, hended, _, _, rfl, ?_, ⟨_, rfl⟩, hW, hsame.mono (by decide) (by decide)⟩
              · show Steps p.tables e below (Tb.setTop (mkF m 381 (LS_RRRIIRIWW r0 r1 r2 (own_N f0) (own_N t0) r5 (own_N ib) wb7 wb8) [])) _
                exact Xb.returnOut hx Bd.returns (hb hby d7_381) hr
              · show Qadd Z r0 r1 r2 r5 d ps nd np kd kp kl zl f0 t0 eo qo pg ke kq kg en pf ze zp lf mf sl h0 n0 _ Tb.heap _
                have hbt2 : ib = t0 := by have := own_nlt (x := ib) (n := t0) (by omega) (by omega) hc191_465; omega
                exact ⟨ea, qb, kea, kqb, ena, pfb, 8, zpb, lfa, mfa, sla, rfl, Nb, bK, bF_entries, (by rw [← hiat]; exact bF_size), (by rw [← hiat]; exact bF_lastDoc), bF_lastFreq, bF_maxFreq, bF_shortestLength, (by rw [← hbt2]; exact bF_positionCount), bF_pages, bF_page, bVe, bVq, bEq, bVg, hia, hib, g_ea, g_qb, neb, nea1, nea2, nqb1, nqb2, Or.inl rfl, (by rw [← hiat]; exact haz), (by rw [← hiat]; exact hHa), ⟨hzb.1, by omega, hzb.2.2⟩, (by rw [← hbt2]; exact hpb)⟩
          · have Xb := own_mono (cells' := 1) (slots' := 32) Xb0 (by simp) (by simp)
            refine own_go (B := Tb.setTop (mkF m 187 (LS_RRRIIRIWW r0 r1 r2 (own_N f0) (own_N t0) r5 (own_N ib) wb7 wb8) [])) (fun t k => k) ?_
            refine own_go (B := Tb.setTop (mkF m 191 (LS_RRRIIRIWW r0 r1 r2 (own_N f0) (own_N t0) r5 (own_N ib) wb7 wb8) [(.int (own_N t0)), (.int (own_N ib))])) (fun t k => ?_) ?_
            · refine XS.iload Xb.here hx rfl (hb hby d7_187) rfl ?_
              refine XS.iload Xb.here hx rfl (hb hby d7_189) rfl ?_
              exact k
            by_cases hc191_829 : (own_N ib) < (own_N t0)
            · refine own_go (B := Tb.setTop (mkF m 194 (LS_RRRIIRIWW r0 r1 r2 (own_N f0) (own_N t0) r5 (own_N ib) wb7 wb8) [])) (fun t k => ?_) ?_
              · refine XS.icmpNo Xb.here hx rfl (hb hby d7_191) rfl (tlt hc191_829).2.1 ?_
                exact k
              exact absurd (own_lt (by omega) (by omega) hc191_829) (by omega)
            · refine own_go (B := Tb.setTop (mkF m 381 (LS_RRRIIRIWW r0 r1 r2 (own_N f0) (own_N t0) r5 (own_N ib) wb7 wb8) [])) (fun t k => ?_) ?_
              · refine XS.icmpYes Xb.here hx rfl (pc0 := 191) (pc' := 381) rfl (hb hby d7_191) rfl (flt hc191_829).2.1 (by decide) (by decide) ?_
                exact k
              obtain ⟨fs, hr, hrun, hended, hW, hsame⟩ := Xb.leave (v := none) (fun _ => rfl) (BodyLoose.notSynchronized Bd)
              refine ⟨_, _, ?_, hrun, hended, _, _, rfl, ?_, ⟨_, rfl⟩, hW, hsame.mono (by decide) (by decide)⟩
              · show Steps p.tables e below (Tb.setTop (mkF m 381 (LS_RRRIIRIWW r0 r1 r2 (own_N f0) (own_N t0) r5 (own_N ib) wb7 wb8) [])) _
                exact Xb.returnOut hx Bd.returns (hb hby d7_381) hr
              · show Qadd Z r0 r1 r2 r5 d ps nd np kd kp kl zl f0 t0 eo qo pg ke kq kg en pf ze zp lf mf sl h0 n0 _ Tb.heap _
                have hbt2 : ib = t0 := by have := own_nlt (x := ib) (n := t0) (by omega) (by omega) hc191_829; omega
                exact ⟨ea, qb, kea, kqb, ena, pfb, 8, zpb, lfa, mfa, sla, rfl, Nb, bK, bF_entries, (by rw [← hiat]; exact bF_size), (by rw [← hiat]; exact bF_lastDoc), bF_lastFreq, bF_maxFreq, bF_shortestLength, (by rw [← hbt2]; exact bF_positionCount), bF_pages, bF_page, bVe, bVq, bEq, bVg, hia, hib, g_ea, g_qb, neb, nea1, nea2, nqb1, nqb2, Or.inl rfl, (by rw [← hiat]; exact haz), (by rw [← hiat]; exact hHa), ⟨hzb.1, by omega, hzb.2.2⟩, (by rw [← hbt2]; exact hpb)⟩
        · exact fun rest => rest (f0, 0, wa7, .unset) _ _ (own_mono Xa (by simp) (by simp)) Na ⟨qo, kq, pf, zp, aZ, aK, aE, aF_entries, aF_size, aF_lastDoc, aF_lastFreq, aF_maxFreq, aF_shortestLength, aF_positionCount, aF_pages, aF_page, aVe, aVq, aEq, aVg, aVp, aVd, aVl, Or.inl (List.mem_of_getElem? (i := 2) rfl), g_qo, nea, nqq1, nqq2, hzp, hpf, ⟨Nat.le_refl _, hft⟩, Or.inl rfl, hwa7, Or.inl rfl⟩
    · have Xa := own_mono (cells' := 1) (slots' := 32) Xa0 (by simp) (by simp)
      refine own_go (B := Ta.setTop (mkF m 27 (LS_RRRIIRIWu r0 r1 r2 (own_N f0) (own_N t0) r5 (own_N ia) wa7) [])) (fun t k => k) ?_
      refine own_go (B := Ta.setTop (mkF m 31 (LS_RRRIIRIWu r0 r1 r2 (own_N f0) (own_N t0) r5 (own_N ia) wa7) [(.int (own_N t0)), (.int (own_N ia))])) (fun t k => ?_) ?_
      · refine XS.iload Xa.here hx rfl (hb hby d7_27) rfl ?_
        refine XS.iload Xa.here hx rfl (hb hby d7_29) rfl ?_
        exact k
      by_cases hc31_830 : (own_N ia) < (own_N t0)
      · have hlt : ia < t0 := own_lt (by omega) (by omega) hc31_830
        obtain ⟨cl831, Ar831, qa831, Sa831, Na831, Ha831, Ga831⟩ := id aVd
        have hin832 : ¬ ((own_N ia) < 0 ∨ cl831.slots.size ≤ ((own_N ia)).toNatClampNeg) := own_inb (X := ia) Sa831 (by omega) (Nat.lt_of_lt_of_le hlt hnd.1)
        have hat832 : cl831.slots[((own_N ia)).toNatClampNeg]? = some (.int (d ia)) := Has.at Ha831 hin832 (own_getV (X := ia) (by omega) (Nat.lt_of_lt_of_le hlt hnd.1))
        refine own_go (B := Ta.setTop (mkF m 43 (LS_RRRIIRIIu r0 r1 r2 (own_N f0) (own_N t0) r5 (own_N ia) (d ia)) [(.ref r0), (.int (d ia))])) (fun t k => ?_) ?_
        · refine XS.icmpNo Xa.here hx rfl (hb hby d7_31) rfl (tlt hc31_830).2.1 ?_
          refine XS.aloadN Xa.here hx rfl (hb hby d7_34) rfl rfl ?_
          show Steps p.tables e below (Ta.setTop (mkF m 35 (LS_RRRIIRIWu r0 r1 r2 (own_N f0) (own_N t0) r5 (own_N ia) wa7) [(.ref r1)])) _
          refine XS.iload Xa.here hx rfl (hb hby d7_35) rfl ?_
          refine Xa.iaload hx (j := (own_N ia)) (v := (.int (d ia))) Ar831.1 (State.isArrayOf_alike hZ.alike Ar831.2.1) Ar831.2.2 hin832 hat832 (g := (mkF m 37 (LS_RRRIIRIWu r0 r1 r2 (own_N f0) (own_N t0) r5 (own_N ia) wa7) [(.int (own_N ia)), (.ref r1)])) rfl rfl (hb hby d7_37) _ ?_
          refine XS.istore Xa.here hx rfl (hb hby d7_38) rfl (l' := (LS_RRRIIRIIu r0 r1 r2 (own_N f0) (own_N t0) r5 (own_N ia) (d ia))) (by rcases hwa7 with rfl | ⟨_, rfl⟩ <;> rfl) ?_
          show Steps p.tables e below (Ta.setTop (mkF m 40 (LS_RRRIIRIIu r0 r1 r2 (own_N f0) (own_N t0) r5 (own_N ia) (d ia)) [])) _
          refine XS.iload Xa.here hx rfl (hb hby d7_40) rfl ?_
          refine XS.aloadN Xa.here hx rfl (hb hby d7_42) rfl rfl ?_
          exact k
        obtain ⟨T833, X833, e833, st833⟩ := getF Xa hx hZ hown (host := "") (Or.inl (hw _ (List.mem_of_getElem? (i := 27) rfl))) Via.refl rfl aF_lastDoc (g := (mkF m 43 (LS_RRRIIRIIu r0 r1 r2 (own_N f0) (own_N t0) r5 (own_N ia) (d ia)) [(.ref r0), (.int (d ia))])) rfl rfl (hb hby d7_43)
        refine own_go (B := T833.setTop (mkF m 46 (LS_RRRIIRIIu r0 r1 r2 (own_N f0) (own_N t0) r5 (own_N ia) (d ia)) [(.int (own_ld d ia)), (.int (d ia))])) (fun t k => st833 _ k) ?_
        by_cases hc46_834 : (d ia) = (own_ld d ia)
        · refine own_go (B := T833.setTop (mkF m 158 (LS_RRRIIRIIu r0 r1 r2 (own_N f0) (own_N t0) r5 (own_N ia) (d ia)) [(.ref r0), (.ref r0)])) (fun t k => ?_) ?_
          · refine XS.icmpYes X833.here hx rfl (pc0 := 46) (pc' := 156) rfl (hb hby d7_46) rfl (teq hc46_834).1 (by decide) (by decide) ?_
            refine XS.aloadN X833.here hx rfl (hb hby d7_156) rfl rfl ?_
            show Steps p.tables e below (T833.setTop (mkF m 157 (LS_RRRIIRIIu r0 r1 r2 (own_N f0) (own_N t0) r5 (own_N ia) (d ia)) [(.ref r0)])) _
            refine XS.aloadN X833.here hx rfl (hb hby d7_157) rfl rfl ?_
            exact k
          obtain ⟨T835, X835, e835, st835⟩ := getF X833 hx hZ hown (host := "") (Or.inl (hw _ (List.mem_of_getElem? (i := 54) rfl))) Via.refl e833 aF_maxFreq (g := (mkF m 158 (LS_RRRIIRIIu r0 r1 r2 (own_N f0) (own_N t0) r5 (own_N ia) (d ia)) [(.ref r0), (.ref r0)])) rfl rfl (hb hby d7_158)
          refine own_go (B := T835.setTop (mkF m 161 (LS_RRRIIRIIu r0 r1 r2 (own_N f0) (own_N t0) r5 (own_N ia) (d ia)) [(.int mfa), (.ref r0)])) (fun t k => st835 _ k) ?_
          refine own_go (B := T835.setTop (mkF m 163 (LS_RRRIIRIIu r0 r1 r2 (own_N f0) (own_N t0) r5 (own_N ia) (d ia)) [(.ref r0), (.ref r0), (.int mfa), (.ref r0)])) (fun t k => ?_) ?_
          · refine XS.aloadN X835.here hx rfl (hb hby d7_161) rfl rfl ?_
            refine XS.dup X835.here hx rfl (hb hby d7_162) rfl rfl ?_
            exact k
          obtain ⟨T836, X836, e836, st836⟩ := getF X835 hx hZ hown (host := "") (Or.inl (hw _ (List.mem_of_getElem? (i := 48) rfl))) Via.refl e835 aF_lastFreq (g := (mkF m 163 (LS_RRRIIRIIu r0 r1 r2 (own_N f0) (own_N t0) r5 (own_N ia) (d ia)) [(.ref r0), (.ref r0), (.int mfa), (.ref r0)])) rfl rfl (hb hby d7_163)
          refine own_go (B := T836.setTop (mkF m 166 (LS_RRRIIRIIu r0 r1 r2 (own_N f0) (own_N t0) r5 (own_N ia) (d ia)) [(.int lfa), (.ref r0), (.int mfa), (.ref r0)])) (fun t k => st836 _ k) ?_
          refine own_go (B := T836.setTop (mkF m 169 (LS_RRRIIRIIu r0 r1 r2 (own_N f0) (own_N t0) r5 (own_N ia) (d ia)) [(.int (lfa + (1 : Int32))), (.ref r0), (.int (lfa + (1 : Int32))), (.int mfa), (.ref r0)])) (fun t k => ?_) ?_
          · refine XS.iconst X836.here hx rfl (hb hby d7_166) ?_
            refine XS.iadd X836.here hx rfl (hb hby d7_167) rfl ?_
            show Steps p.tables e below (T836.setTop (mkF m 168 (LS_RRRIIRIIu r0 r1 r2 (own_N f0) (own_N t0) r5 (own_N ia) (d ia)) [(.int (lfa + (1 : Int32))), (.ref r0), (.int mfa), (.ref r0)])) _
            refine XS.dupX1 X836.here hx rfl (hb hby d7_168) rfl rfl rfl ?_
            exact k
          obtain ⟨T837, h837, X837, e837, W837, st837⟩ := putF X836 hx hZ hown (host := "") (Or.inl (hw _ (List.mem_of_getElem? (i := 48) rfl))) Via.refl e836 aF_lastFreq aE (Or.inl (hw _ (List.mem_of_getElem? (i := 49) rfl))) (hw _ (List.mem_of_getElem? (i := 17) rfl)) (ty := .int) (by decide) rfl rfl (g := (mkF m 169 (LS_RRRIIRIIu r0 r1 r2 (own_N f0) (own_N t0) r5 (own_N ia) (d ia)) [(.int (lfa + (1 : Int32))), (.ref r0), (.int (lfa + (1 : Int32))), (.int mfa), (.ref r0)])) rfl rfl (hb hby d7_169)
          have N837 := Fr.snoc X837 Na g_r0
          have Fw837 := aF_lastFreq.same W837
          refine own_go (B := T837.setTop (mkF m 172 (LS_RRRIIRIIu r0 r1 r2 (own_N f0) (own_N t0) r5 (own_N ia) (d ia)) [(.int (lfa + (1 : Int32))), (.int mfa), (.ref r0)])) (fun t k => st837 _ k) ?_
          have aZ_v838 := Nat.le_trans aZ (Nat.le_of_eq W837.size.symm)
          obtain ⟨_, _, ⟨T839, L839, k839, n839⟩, -, X839, ⟨Lc839, hQ839, l839, y839, z839⟩, st839⟩ := Jvm.LawKit.callS X837 hx (y := (⟨"java/lang/Math", "max", "(II)I"⟩ : MethodName)) hown (mvT hZ (hw _ (List.mem_of_getElem? (i := 56) rfl))) (mvT hZ (hw _ (List.mem_of_getElem? (i := 57) rfl))) (mvT hZ (hw _ (List.mem_of_getElem? (i := 52) rfl))) (mvT hZ (hw _ (List.mem_of_getElem? (i := 58) rfl))) (by decide) (backOf (W := 1) (rmmax l Z a0 hw [] mfa (lfa + (1 : Int32)) h837 n0 aZ_v838) hZ (hw _ (List.mem_of_getElem? (i := 58) rfl)) (hw _ (List.mem_of_getElem? (i := 52) rfl)) (by decide) (by decide)) (g := (mkF m 172 (LS_RRRIIRIIu r0 r1 r2 (own_N f0) (own_N t0) r5 (own_N ia) (d ia)) [(.int (lfa + (1 : Int32))), (.int mfa), (.ref r0)])) rfl (by rw [hml]; rfl) (argsL := [(.int mfa), (.int (lfa + (1 : Int32)))]) (rest := [(.ref r0)]) (lenOf pd__II_I rfl) rfl (by show 2 * 0 + _ ≤ _; exact Nat.le_of_eq rfl) (hb hby d7_172) (fun _ _ => ⟨rfl, e837, (by decide : 1 + 0 ≤ _), (by decide : 32 + 0 ≤ _)⟩)
          dsimp only [Pt.U, Pt.locs, Pt.cells, Pt.slots] at X839 l839 y839 z839 st839 hQ839
          subst l839 y839 z839
          obtain ⟨rfl, N839q, e839⟩ := hQ839
          have N839 := Fr.app N837 N839q
          refine own_go (B := T839.setTop (mkF m 175 (LS_RRRIIRIIu r0 r1 r2 (own_N f0) (own_N t0) r5 (own_N ia) (d ia)) [(.int (if mfa < (lfa + (1 : Int32)) then (lfa + (1 : Int32)) else mfa)), (.ref r0)])) (fun t k => st839 _ k) ?_
          have aE_v840 := aE.wr W837
          have aF_maxFreq_v841 := aF_maxFreq.other W837 (Or.inr (slot_ne (Or.inl (hw _ (List.mem_of_getElem? (i := 55) rfl))) (Or.inl (hw _ (List.mem_of_getElem? (i := 49) rfl))) (by decide) (t := .int) (t' := .int) (by decide) (by decide)))
          obtain ⟨T842, h842, X842, e842, W842, st842⟩ := putF X839 hx hZ hown (host := "") (Or.inl (hw _ (List.mem_of_getElem? (i := 54) rfl))) Via.refl e839 aF_maxFreq_v841 aE_v840 (Or.inl (hw _ (List.mem_of_getElem? (i := 55) rfl))) (hw _ (List.mem_of_getElem? (i := 17) rfl)) (ty := .int) (by decide) rfl rfl (g := (mkF m 175 (LS_RRRIIRIIu r0 r1 r2 (own_N f0) (own_N t0) r5 (own_N ia) (d ia)) [(.int (if mfa < (lfa + (1 : Int32)) then (lfa + (1 : Int32)) else mfa)), (.ref r0)])) rfl rfl (hb hby d7_175)
          have N842 := Fr.snoc X842 N839 g_r0
          have Fw842 := aF_maxFreq_v841.same W842
          refine own_go (B := T842.setTop (mkF m 178 (LS_RRRIIRIIu r0 r1 r2 (own_N f0) (own_N t0) r5 (own_N ia) (d ia)) [])) (fun t k => st842 _ k) ?_
          refine own_go (B := T842.setTop (mkF m 27 (LS_RRRIIRIIu r0 r1 r2 (own_N f0) (own_N t0) r5 (own_N (ia + 1)) (d ia)) [])) (fun t k => ?_) ?_
          · refine XS.iinc X842.here hx rfl (hb hby d7_178) rfl (l' := (LS_RRRIIRIIu r0 r1 r2 (own_N f0) (own_N t0) r5 ((own_N ia) + (1 : Int32)) (d ia))) rfl ?_
            change Steps p.tables e below (T842.setTop (mkF m 181 (LS_RRRIIRIIu r0 r1 r2 (own_N f0) (own_N t0) r5 ((own_N ia) + (1 : Int32)) (d ia)) [])) _
            rw [show ((own_N ia) + (1 : Int32)) = (own_N (ia + 1)) from own_N1 (by omega)]
            refine XS.goto X842.here hx rfl (pc0 := 181) (pc' := 27) rfl (hb hby d7_181) (by decide) (by decide) ?_
            exact k
          have aZ_v843 := Nat.le_trans aZ_v838 (Nat.le_of_eq W842.size.symm)
          have aK_v844 := aK.wr W837 (Or.inl (List.mem_of_getElem? (i := 0) rfl))
          have aK_v845 := aK_v844.wr W842 (Or.inl (List.mem_of_getElem? (i := 0) rfl))
          have aE_v846 := aE_v840.wr W842
          have aF_entries_v847 := aF_entries.other W837 (Or.inr (slot_ne (Or.inl (hw _ (List.mem_of_getElem? (i := 26) rfl))) (Or.inl (hw _ (List.mem_of_getElem? (i := 49) rfl))) (by decide) (t := (.array .int)) (t' := .int) (by decide) (by decide)))
          have aF_entries_v848 := aF_entries_v847.other W842 (Or.inr (slot_ne (Or.inl (hw _ (List.mem_of_getElem? (i := 26) rfl))) (Or.inl (hw _ (List.mem_of_getElem? (i := 55) rfl))) (by decide) (t := (.array .int)) (t' := .int) (by decide) (by decide)))
          have aF_size_v849 := aF_size.other W837 (Or.inr (slot_ne (Or.inl (hw _ (List.mem_of_getElem? (i := 47) rfl))) (Or.inl (hw _ (List.mem_of_getElem? (i := 49) rfl))) (by decide) (t := .int) (t' := .int) (by decide) (by decide)))
          have aF_size_v850 := aF_size_v849.other W842 (Or.inr (slot_ne (Or.inl (hw _ (List.mem_of_getElem? (i := 47) rfl))) (Or.inl (hw _ (List.mem_of_getElem? (i := 55) rfl))) (by decide) (t := .int) (t' := .int) (by decide) (by decide)))
          have aF_lastDoc_v851 := aF_lastDoc.other W837 (Or.inr (slot_ne (Or.inl (hw _ (List.mem_of_getElem? (i := 28) rfl))) (Or.inl (hw _ (List.mem_of_getElem? (i := 49) rfl))) (by decide) (t := .int) (t' := .int) (by decide) (by decide)))
          have aF_lastDoc_v852 := aF_lastDoc_v851.other W842 (Or.inr (slot_ne (Or.inl (hw _ (List.mem_of_getElem? (i := 28) rfl))) (Or.inl (hw _ (List.mem_of_getElem? (i := 55) rfl))) (by decide) (t := .int) (t' := .int) (by decide) (by decide)))
          have Fw837_v853 := Fw837.other W842 (Or.inr (slot_ne (Or.inl (hw _ (List.mem_of_getElem? (i := 49) rfl))) (Or.inl (hw _ (List.mem_of_getElem? (i := 55) rfl))) (by decide) (t := .int) (t' := .int) (by decide) (by decide)))
          have aF_shortestLength_v854 := aF_shortestLength.other W837 (Or.inr (slot_ne (Or.inl (hw _ (List.mem_of_getElem? (i := 30) rfl))) (Or.inl (hw _ (List.mem_of_getElem? (i := 49) rfl))) (by decide) (t := .int) (t' := .int) (by decide) (by decide)))
          have aF_shortestLength_v855 := aF_shortestLength_v854.other W842 (Or.inr (slot_ne (Or.inl (hw _ (List.mem_of_getElem? (i := 30) rfl))) (Or.inl (hw _ (List.mem_of_getElem? (i := 55) rfl))) (by decide) (t := .int) (t' := .int) (by decide) (by decide)))
          have aF_positionCount_v856 := aF_positionCount.other W837 (Or.inr (slot_ne (Or.inl (hw _ (List.mem_of_getElem? (i := 45) rfl))) (Or.inl (hw _ (List.mem_of_getElem? (i := 49) rfl))) (by decide) (t := .int) (t' := .int) (by decide) (by decide)))
          have aF_positionCount_v857 := aF_positionCount_v856.other W842 (Or.inr (slot_ne (Or.inl (hw _ (List.mem_of_getElem? (i := 45) rfl))) (Or.inl (hw _ (List.mem_of_getElem? (i := 55) rfl))) (by decide) (t := .int) (t' := .int) (by decide) (by decide)))
          have aF_pages_v858 := aF_pages.other W837 (Or.inr (slot_ne (Or.inl (hw _ (List.mem_of_getElem? (i := 34) rfl))) (Or.inl (hw _ (List.mem_of_getElem? (i := 49) rfl))) (by decide) (t := (.array (.array .int))) (t' := .int) (by decide) (by decide)))
          have aF_pages_v859 := aF_pages_v858.other W842 (Or.inr (slot_ne (Or.inl (hw _ (List.mem_of_getElem? (i := 34) rfl))) (Or.inl (hw _ (List.mem_of_getElem? (i := 55) rfl))) (by decide) (t := (.array (.array .int))) (t' := .int) (by decide) (by decide)))
          have aF_page_v860 := aF_page.other W837 (Or.inr (slot_ne (Or.inl (hw _ (List.mem_of_getElem? (i := 36) rfl))) (Or.inl (hw _ (List.mem_of_getElem? (i := 49) rfl))) (by decide) (t := (.array .int)) (t' := .int) (by decide) (by decide)))
          have aF_page_v861 := aF_page_v860.other W842 (Or.inr (slot_ne (Or.inl (hw _ (List.mem_of_getElem? (i := 36) rfl))) (Or.inl (hw _ (List.mem_of_getElem? (i := 55) rfl))) (by decide) (t := (.array .int)) (t' := .int) (by decide) (by decide)))
          have ne863 : r0 ≠ ea := Exa.neArv aE aVe (hw _ (List.mem_of_getElem? (i := 17) rfl))
          have aVe_v862 := aVe.other W837 (Ne.symm ne863)
          have aVe_v864 := aVe_v862.other W842 (Ne.symm ne863)
          have ne866 : qo ≠ r0 := Exa.ne aEq aE (by decide)
          have aVq_v865 := aVq.other W837 ne866
          have aVq_v867 := aVq_v865.other W842 ne866
          have aEq_v868 := aEq.wr W837
          have aEq_v869 := aEq_v868.wr W842
          have ne871 : r0 ≠ pg := Exa.neArv aE aVg (hw _ (List.mem_of_getElem? (i := 17) rfl))
          have aVg_v870 := aVg.other W837 (Ne.symm ne871)
          have aVg_v872 := aVg_v870.other W842 (Ne.symm ne871)
          have ne874 : r0 ≠ r2 := Exa.neArv aE aVp (hw _ (List.mem_of_getElem? (i := 17) rfl))
          have aVp_v873 := aVp.other W837 (Ne.symm ne874)
          have aVp_v875 := aVp_v873.other W842 (Ne.symm ne874)
          have ne877 : r0 ≠ r1 := Exa.neArv aE aVd (hw _ (List.mem_of_getElem? (i := 17) rfl))
          have aVd_v876 := aVd.other W837 (Ne.symm ne877)
          have aVd_v878 := aVd_v876.other W842 (Ne.symm ne877)
          have ne880 : r0 ≠ r5 := Exa.neArv aE aVl (hw _ (List.mem_of_getElem? (i := 17) rfl))
          have aVl_v879 := aVl.other W837 (Ne.symm ne880)
          have aVl_v881 := aVl_v879.other W842 (Ne.symm ne880)
          exact IHa (ia + 1, 16, (.val (.int (d ia)))) _ _ (show t0 - (ia + 1) < t0 - ia by omega) (own_mono X842 (by simp) (by simp)) N842 (by rw [e842]; exact ⟨ea, kea, _, _, _, _, aZ_v843, aK_v845, aE_v846, aF_entries_v848, (by rw [own_sz_old hc46_834]; exact aF_size_v850), (by show Fld Z _ r0 _ _ _ (.int (d ia)); rw [hc46_834]; exact aF_lastDoc_v852), Fw837_v853, Fw842, aF_shortestLength_v855, aF_positionCount_v857, aF_pages_v859, aF_page_v861, aVe_v864, aVq_v867, aEq_v869, aVg_v872, aVp_v875, aVd_v878, aVl_v881, hia, g_ea, nea, nea1, nea2, Or.inr rfl, (by show 2 * own_sz d (ia + 1) ≤ 16; rw [own_sz_old hc46_834]; omega), (own_H_old hHa hc46_834), Nat.le_succ_of_le hfa, hlt, Or.inr ⟨_, rfl⟩⟩)
        · refine own_go (B := T833.setTop (mkF m 51 (LS_RRRIIRIIu r0 r1 r2 (own_N f0) (own_N t0) r5 (own_N ia) (d ia)) [(.ref r0), (.int (2 : Int32))])) (fun t k => ?_) ?_
          · refine XS.icmpNo X833.here hx rfl (hb hby d7_46) rfl (feq hc46_834).1 ?_
            refine XS.iconst X833.here hx rfl (hb hby d7_49) ?_
            show Steps p.tables e below (T833.setTop (mkF m 50 (LS_RRRIIRIIu r0 r1 r2 (own_N f0) (own_N t0) r5 (own_N ia) (d ia)) [(.int (2 : Int32))])) _
            refine XS.aloadN X833.here hx rfl (hb hby d7_50) rfl rfl ?_
            exact k
          obtain ⟨T882, X882, e882, st882⟩ := getF X833 hx hZ hown (host := "") (Or.inl (hw _ (List.mem_of_getElem? (i := 46) rfl))) Via.refl e833 aF_size (g := (mkF m 51 (LS_RRRIIRIIu r0 r1 r2 (own_N f0) (own_N t0) r5 (own_N ia) (d ia)) [(.ref r0), (.int (2 : Int32))])) rfl rfl (hb hby d7_51)
          refine own_go (B := T882.setTop (mkF m 54 (LS_RRRIIRIIu r0 r1 r2 (own_N f0) (own_N t0) r5 (own_N ia) (d ia)) [(.int (own_N (own_sz d ia))), (.int (2 : Int32))])) (fun t k => st882 _ k) ?_
          refine own_go (B := T882.setTop (mkF m 56 (LS_RRRIIRIIu r0 r1 r2 (own_N f0) (own_N t0) r5 (own_N ia) (d ia)) [(.ref r0), (.int (own_N (2 * own_sz d ia)))])) (fun t k => ?_) ?_
          · refine XS.imul X882.here hx rfl (hb hby d7_54) rfl ?_
            change Steps p.tables e below (T882.setTop (mkF m 55 (LS_RRRIIRIIu r0 r1 r2 (own_N f0) (own_N t0) r5 (own_N ia) (d ia)) [(.int ((2 : Int32) * (own_N (own_sz d ia))))])) _
            rw [show ((2 : Int32) * (own_N (own_sz d ia))) = (own_N (2 * own_sz d ia)) from own_N2 (by omega)]
            refine XS.aloadN X882.here hx rfl (hb hby d7_55) rfl rfl ?_
            exact k
          obtain ⟨T883, X883, e883, st883⟩ := getF X882 hx hZ hown (host := "") (Or.inl (hw _ (List.mem_of_getElem? (i := 25) rfl))) Via.refl e882 aF_entries (g := (mkF m 56 (LS_RRRIIRIIu r0 r1 r2 (own_N f0) (own_N t0) r5 (own_N ia) (d ia)) [(.ref r0), (.int (own_N (2 * own_sz d ia)))])) rfl rfl (hb hby d7_56)
          refine own_go (B := T883.setTop (mkF m 59 (LS_RRRIIRIIu r0 r1 r2 (own_N f0) (own_N t0) r5 (own_N ia) (d ia)) [(.ref ea), (.int (own_N (2 * own_sz d ia)))])) (fun t k => st883 _ k) ?_
          obtain ⟨cl884, Ar884, qa884, Sa884, Na884, Ha884, Ga884⟩ := id aVe
          have hX : 2 * own_sz d ia < 16 := by omega
          refine own_go (B := T883.setTop (mkF m 81 (LS_RRRIIRIIu r0 r1 r2 (own_N f0) (own_N t0) r5 (own_N ia) (d ia)) [(.ref r0)])) (fun t k => ?_) ?_
          · refine X883.arraylength hx (by rw [e883]; exact Ar884.1) (State.isArrayOf_alike hZ.alike Ar884.2.1) (g := (mkF m 59 (LS_RRRIIRIIu r0 r1 r2 (own_N f0) (own_N t0) r5 (own_N ia) (d ia)) [(.ref ea), (.int (own_N (2 * own_sz d ia)))])) rfl rfl (hb hby d7_59) _ ?_
            rw [len_of Sa884 Na884]
            refine XS.icmpYes X883.here hx rfl (pc0 := 60) (pc' := 80) rfl (hb hby d7_60) rfl (feq (fun q => by have := own_eq (x := 2 * own_sz d ia) (n := 16) (by omega) (by decide) q; omega)).2 (by decide) (by decide) ?_
            show Steps p.tables e below (T883.setTop (mkF m 80 (LS_RRRIIRIIu r0 r1 r2 (own_N f0) (own_N t0) r5 (own_N ia) (d ia)) [])) _
            refine XS.aloadN X883.here hx rfl (hb hby d7_80) rfl rfl ?_
            exact k
          obtain ⟨T885, X885, e885, st885⟩ := getF X883 hx hZ hown (host := "") (Or.inl (hw _ (List.mem_of_getElem? (i := 25) rfl))) Via.refl e883 aF_entries (g := (mkF m 81 (LS_RRRIIRIIu r0 r1 r2 (own_N f0) (own_N t0) r5 (own_N ia) (d ia)) [(.ref r0)])) rfl rfl (hb hby d7_81)
          refine own_go (B := T885.setTop (mkF m 84 (LS_RRRIIRIIu r0 r1 r2 (own_N f0) (own_N t0) r5 (own_N ia) (d ia)) [(.ref ea)])) (fun t k => st885 _ k) ?_
          refine own_go (B := T885.setTop (mkF m 86 (LS_RRRIIRIIu r0 r1 r2 (own_N f0) (own_N t0) r5 (own_N ia) (d ia)) [(.ref r0), (.int (2 : Int32)), (.ref ea)])) (fun t k => ?_) ?_
          · refine XS.iconst X885.here hx rfl (hb hby d7_84) ?_
            refine XS.aloadN X885.here hx rfl (hb hby d7_85) rfl rfl ?_
            exact k
          obtain ⟨T886, X886, e886, st886⟩ := getF X885 hx hZ hown (host := "") (Or.inl (hw _ (List.mem_of_getElem? (i := 46) rfl))) Via.refl e885 aF_size (g := (mkF m 86 (LS_RRRIIRIIu r0 r1 r2 (own_N f0) (own_N t0) r5 (own_N ia) (d ia)) [(.ref r0), (.int (2 : Int32)), (.ref ea)])) rfl rfl (hb hby d7_86)
          refine own_go (B := T886.setTop (mkF m 89 (LS_RRRIIRIIu r0 r1 r2 (own_N f0) (own_N t0) r5 (own_N ia) (d ia)) [(.int (own_N (own_sz d ia))), (.int (2 : Int32)), (.ref ea)])) (fun t k => st886 _ k) ?_
          refine own_go (B := T886.setTop (mkF m 92 (LS_RRRIIRIIu r0 r1 r2 (own_N f0) (own_N t0) r5 (own_N ia) (d ia)) [(.int (d ia)), (.int (own_N (2 * own_sz d ia))), (.ref ea)])) (fun t k => ?_) ?_
          · refine XS.imul X886.here hx rfl (hb hby d7_89) rfl ?_
            change Steps p.tables e below (T886.setTop (mkF m 90 (LS_RRRIIRIIu r0 r1 r2 (own_N f0) (own_N t0) r5 (own_N ia) (d ia)) [(.int ((2 : Int32) * (own_N (own_sz d ia)))), (.ref ea)])) _
            rw [show ((2 : Int32) * (own_N (own_sz d ia))) = (own_N (2 * own_sz d ia)) from own_N2 (by omega)]
            refine XS.iload X886.here hx rfl (hb hby d7_90) rfl ?_
            exact k
          obtain ⟨cl887, Ar887, qa887, Sa887, Na887, Ha887, Ga887⟩ := id aVe
          have hin888 : ¬ ((own_N (2 * own_sz d ia)) < 0 ∨ cl887.slots.size ≤ ((own_N (2 * own_sz d ia))).toNatClampNeg) := own_inb (X := (2 * own_sz d ia)) Sa887 (by decide) (by omega)
          obtain ⟨T888, h888, X888, e888, W888, st888⟩ := stI X886 hx hZ e886 Ar887 (j := (own_N (2 * own_sz d ia))) hin888 (g := (mkF m 92 (LS_RRRIIRIIu r0 r1 r2 (own_N f0) (own_N t0) r5 (own_N ia) (d ia)) [(.int (d ia)), (.int (own_N (2 * own_sz d ia))), (.ref ea)])) rfl rfl (hb hby d7_92)
          have N888 := Fr.snoc X888 Na g_ea
          have V888 : Arv Z h888 ea kea .int (own_N 16) (own_V (own_up ena ((2 * own_sz d ia)) (d ia)) 16) (.int (0 : Int32)) := own_setV (X := (2 * own_sz d ia)) Ar887 qa887 Sa887 Na887 Ha887 Ga887 W888 (by decide) (by omega)
          refine own_go (B := T888.setTop (mkF m 93 (LS_RRRIIRIIu r0 r1 r2 (own_N f0) (own_N t0) r5 (own_N ia) (d ia)) [])) (fun t k => st888 _ k) ?_
          have aE_v891 := aE.wr W888
          have ne890 : r0 ≠ ea := Exa.neArv aE_v891 V888 (hw _ (List.mem_of_getElem? (i := 17) rfl))
          have aF_entries_v889 := aF_entries.other W888 (Or.inl ne890)
          refine own_go (B := T888.setTop (mkF m 94 (LS_RRRIIRIIu r0 r1 r2 (own_N f0) (own_N t0) r5 (own_N ia) (d ia)) [(.ref r0)])) (fun t k => ?_) ?_
          · refine XS.aloadN X888.here hx rfl (hb hby d7_93) rfl rfl ?_
            exact k
          obtain ⟨T892, X892, e892, st892⟩ := getF X888 hx hZ hown (host := "") (Or.inl (hw _ (List.mem_of_getElem? (i := 25) rfl))) Via.refl e888 aF_entries_v889 (g := (mkF m 94 (LS_RRRIIRIIu r0 r1 r2 (own_N f0) (own_N t0) r5 (own_N ia) (d ia)) [(.ref r0)])) rfl rfl (hb hby d7_94)
          refine own_go (B := T892.setTop (mkF m 97 (LS_RRRIIRIIu r0 r1 r2 (own_N f0) (own_N t0) r5 (own_N ia) (d ia)) [(.ref ea)])) (fun t k => st892 _ k) ?_
          have aF_size_v893 := aF_size.other W888 (Or.inl ne890)
          refine own_go (B := T892.setTop (mkF m 99 (LS_RRRIIRIIu r0 r1 r2 (own_N f0) (own_N t0) r5 (own_N ia) (d ia)) [(.ref r0), (.int (2 : Int32)), (.ref ea)])) (fun t k => ?_) ?_
          · refine XS.iconst X892.here hx rfl (hb hby d7_97) ?_
            refine XS.aloadN X892.here hx rfl (hb hby d7_98) rfl rfl ?_
            exact k
          obtain ⟨T894, X894, e894, st894⟩ := getF X892 hx hZ hown (host := "") (Or.inl (hw _ (List.mem_of_getElem? (i := 46) rfl))) Via.refl e892 aF_size_v893 (g := (mkF m 99 (LS_RRRIIRIIu r0 r1 r2 (own_N f0) (own_N t0) r5 (own_N ia) (d ia)) [(.ref r0), (.int (2 : Int32)), (.ref ea)])) rfl rfl (hb hby d7_99)
          refine own_go (B := T894.setTop (mkF m 102 (LS_RRRIIRIIu r0 r1 r2 (own_N f0) (own_N t0) r5 (own_N ia) (d ia)) [(.int (own_N (own_sz d ia))), (.int (2 : Int32)), (.ref ea)])) (fun t k => st894 _ k) ?_
          have aF_positionCount_v895 := aF_positionCount.other W888 (Or.inl ne890)
          refine own_go (B := T894.setTop (mkF m 106 (LS_RRRIIRIIu r0 r1 r2 (own_N f0) (own_N t0) r5 (own_N ia) (d ia)) [(.ref r0), (.int (own_N (2 * own_sz d ia + 1))), (.ref ea)])) (fun t k => ?_) ?_
          · refine XS.imul X894.here hx rfl (hb hby d7_102) rfl ?_
            change Steps p.tables e below (T894.setTop (mkF m 103 (LS_RRRIIRIIu r0 r1 r2 (own_N f0) (own_N t0) r5 (own_N ia) (d ia)) [(.int ((2 : Int32) * (own_N (own_sz d ia)))), (.ref ea)])) _
            rw [show ((2 : Int32) * (own_N (own_sz d ia))) = (own_N (2 * own_sz d ia)) from own_N2 (by omega)]
            refine XS.iconst X894.here hx rfl (hb hby d7_103) ?_
            show Steps p.tables e below (T894.setTop (mkF m 104 (LS_RRRIIRIIu r0 r1 r2 (own_N f0) (own_N t0) r5 (own_N ia) (d ia)) [(.int (1 : Int32)), (.int (own_N (2 * own_sz d ia))), (.ref ea)])) _
            refine XS.iadd X894.here hx rfl (hb hby d7_104) rfl ?_
            change Steps p.tables e below (T894.setTop (mkF m 105 (LS_RRRIIRIIu r0 r1 r2 (own_N f0) (own_N t0) r5 (own_N ia) (d ia)) [(.int ((own_N (2 * own_sz d ia)) + (1 : Int32))), (.ref ea)])) _
            rw [show ((own_N (2 * own_sz d ia)) + (1 : Int32)) = (own_N (2 * own_sz d ia + 1)) from own_N1 (by omega)]
            refine XS.aloadN X894.here hx rfl (hb hby d7_105) rfl rfl ?_
            exact k
          obtain ⟨T896, X896, e896, st896⟩ := getF X894 hx hZ hown (host := "") (Or.inl (hw _ (List.mem_of_getElem? (i := 44) rfl))) Via.refl e894 aF_positionCount_v895 (g := (mkF m 106 (LS_RRRIIRIIu r0 r1 r2 (own_N f0) (own_N t0) r5 (own_N ia) (d ia)) [(.ref r0), (.int (own_N (2 * own_sz d ia + 1))), (.ref ea)])) rfl rfl (hb hby d7_106)
          refine own_go (B := T896.setTop (mkF m 109 (LS_RRRIIRIIu r0 r1 r2 (own_N f0) (own_N t0) r5 (own_N ia) (d ia)) [(.int (own_N f0)), (.int (own_N (2 * own_sz d ia + 1))), (.ref ea)])) (fun t k => st896 _ k) ?_
          refine own_go (B := T896.setTop (mkF m 114 (LS_RRRIIRIIu r0 r1 r2 (own_N f0) (own_N t0) r5 (own_N ia) (d ia)) [(.int (own_N ia)), (.int (own_N (2 * own_sz d ia + 1))), (.ref ea)])) (fun t k => ?_) ?_
          · refine XS.iload X896.here hx rfl (hb hby d7_109) rfl ?_
            refine XS.iadd X896.here hx rfl (hb hby d7_111) rfl ?_
            change Steps p.tables e below (T896.setTop (mkF m 112 (LS_RRRIIRIIu r0 r1 r2 (own_N f0) (own_N t0) r5 (own_N ia) (d ia)) [(.int ((own_N f0) + (own_N ia))), (.int (own_N (2 * own_sz d ia + 1))), (.ref ea)])) _
            rw [show ((own_N f0) + (own_N ia)) = (own_N (f0 + ia)) from own_Nadd (by omega)]
            show Steps p.tables e below (T896.setTop (mkF m 112 (LS_RRRIIRIIu r0 r1 r2 (own_N f0) (own_N t0) r5 (own_N ia) (d ia)) [(.int (own_N (f0 + ia))), (.int (own_N (2 * own_sz d ia + 1))), (.ref ea)])) _
            refine XS.iloadN X896.here hx rfl (hb hby d7_112) rfl ?_
            refine XS.isub X896.here hx rfl (hb hby d7_113) rfl ?_
            change Steps p.tables e below (T896.setTop (mkF m 114 (LS_RRRIIRIIu r0 r1 r2 (own_N f0) (own_N t0) r5 (own_N ia) (d ia)) [(.int ((own_N (f0 + ia)) - (own_N f0))), (.int (own_N (2 * own_sz d ia + 1))), (.ref ea)])) _
            rw [show ((own_N (f0 + ia)) - (own_N f0)) = (own_N ia) from (own_Nsub (by omega) (by omega)).trans (congrArg own_N (by omega))]
            exact k
          obtain ⟨cl897, Ar897, qa897, Sa897, Na897, Ha897, Ga897⟩ := id V888
          have hin898 : ¬ ((own_N (2 * own_sz d ia + 1)) < 0 ∨ cl897.slots.size ≤ ((own_N (2 * own_sz d ia + 1))).toNatClampNeg) := own_inb (X := (2 * own_sz d ia + 1)) Sa897 (by decide) (by omega)
          obtain ⟨T898, h898, X898, e898, W898, st898⟩ := stI X896 hx hZ e896 Ar897 (j := (own_N (2 * own_sz d ia + 1))) hin898 (g := (mkF m 114 (LS_RRRIIRIIu r0 r1 r2 (own_N f0) (own_N t0) r5 (own_N ia) (d ia)) [(.int (own_N ia)), (.int (own_N (2 * own_sz d ia + 1))), (.ref ea)])) rfl rfl (hb hby d7_114)
          have N898 := Fr.snoc X898 N888 g_ea
          have V898 : Arv Z h898 ea kea .int (own_N 16) (own_V (own_up (own_up ena ((2 * own_sz d ia)) (d ia)) ((2 * own_sz d ia + 1)) (own_N ia)) 16) (.int (0 : Int32)) := own_setV (X := (2 * own_sz d ia + 1)) Ar897 qa897 Sa897 Na897 Ha897 Ga897 W898 (by decide) (by omega)
          refine own_go (B := T898.setTop (mkF m 115 (LS_RRRIIRIIu r0 r1 r2 (own_N f0) (own_N t0) r5 (own_N ia) (d ia)) [])) (fun t k => st898 _ k) ?_
          have aF_size_v899 := aF_size_v893.other W898 (Or.inl ne890)
          refine own_go (B := T898.setTop (mkF m 117 (LS_RRRIIRIIu r0 r1 r2 (own_N f0) (own_N t0) r5 (own_N ia) (d ia)) [(.ref r0), (.ref r0)])) (fun t k => ?_) ?_
          · refine XS.aloadN X898.here hx rfl (hb hby d7_115) rfl rfl ?_
            refine XS.dup X898.here hx rfl (hb hby d7_116) rfl rfl ?_
            exact k
          obtain ⟨T900, X900, e900, st900⟩ := getF X898 hx hZ hown (host := "") (Or.inl (hw _ (List.mem_of_getElem? (i := 46) rfl))) Via.refl e898 aF_size_v899 (g := (mkF m 117 (LS_RRRIIRIIu r0 r1 r2 (own_N f0) (own_N t0) r5 (own_N ia) (d ia)) [(.ref r0), (.ref r0)])) rfl rfl (hb hby d7_117)
          refine own_go (B := T900.setTop (mkF m 120 (LS_RRRIIRIIu r0 r1 r2 (own_N f0) (own_N t0) r5 (own_N ia) (d ia)) [(.int (own_N (own_sz d ia))), (.ref r0)])) (fun t k => st900 _ k) ?_
          refine own_go (B := T900.setTop (mkF m 122 (LS_RRRIIRIIu r0 r1 r2 (own_N f0) (own_N t0) r5 (own_N ia) (d ia)) [(.int (own_N (own_sz d ia + 1))), (.ref r0)])) (fun t k => ?_) ?_
          · refine XS.iconst X900.here hx rfl (hb hby d7_120) ?_
            refine XS.iadd X900.here hx rfl (hb hby d7_121) rfl ?_
            change Steps p.tables e below (T900.setTop (mkF m 122 (LS_RRRIIRIIu r0 r1 r2 (own_N f0) (own_N t0) r5 (own_N ia) (d ia)) [(.int ((own_N (own_sz d ia)) + (1 : Int32))), (.ref r0)])) _
            rw [show ((own_N (own_sz d ia)) + (1 : Int32)) = (own_N (own_sz d ia + 1)) from own_N1 (by omega)]
            exact k
          have aE_v901 := aE_v891.wr W898
          obtain ⟨T902, h902, X902, e902, W902, st902⟩ := putF X900 hx hZ hown (host := "") (Or.inl (hw _ (List.mem_of_getElem? (i := 46) rfl))) Via.refl e900 aF_size_v899 aE_v901 (Or.inl (hw _ (List.mem_of_getElem? (i := 47) rfl))) (hw _ (List.mem_of_getElem? (i := 17) rfl)) (ty := .int) (by decide) rfl rfl (g := (mkF m 122 (LS_RRRIIRIIu r0 r1 r2 (own_N f0) (own_N t0) r5 (own_N ia) (d ia)) [(.int (own_N (own_sz d ia + 1))), (.ref r0)])) rfl rfl (hb hby d7_122)
          have N902 := Fr.snoc X902 N898 g_r0
          have Fw902 := aF_size_v899.same W902
          refine own_go (B := T902.setTop (mkF m 125 (LS_RRRIIRIIu r0 r1 r2 (own_N f0) (own_N t0) r5 (own_N ia) (d ia)) [])) (fun t k => st902 _ k) ?_
          refine own_go (B := T902.setTop (mkF m 128 (LS_RRRIIRIIu r0 r1 r2 (own_N f0) (own_N t0) r5 (own_N ia) (d ia)) [(.int (d ia)), (.ref r0)])) (fun t k => ?_) ?_
          · refine XS.aloadN X902.here hx rfl (hb hby d7_125) rfl rfl ?_
            refine XS.iload X902.here hx rfl (hb hby d7_126) rfl ?_
            exact k
          have aE_v903 := aE_v901.wr W902
          have aF_lastDoc_v904 := aF_lastDoc.other W888 (Or.inl ne890)
          have aF_lastDoc_v905 := aF_lastDoc_v904.other W898 (Or.inl ne890)
          have aF_lastDoc_v906 := aF_lastDoc_v905.other W902 (Or.inr (slot_ne (Or.inl (hw _ (List.mem_of_getElem? (i := 28) rfl))) (Or.inl (hw _ (List.mem_of_getElem? (i := 47) rfl))) (by decide) (t := .int) (t' := .int) (by decide) (by decide)))
          obtain ⟨T907, h907, X907, e907, W907, st907⟩ := putF X902 hx hZ hown (host := "") (Or.inl (hw _ (List.mem_of_getElem? (i := 27) rfl))) Via.refl e902 aF_lastDoc_v906 aE_v903 (Or.inl (hw _ (List.mem_of_getElem? (i := 28) rfl))) (hw _ (List.mem_of_getElem? (i := 17) rfl)) (ty := .int) (by decide) rfl rfl (g := (mkF m 128 (LS_RRRIIRIIu r0 r1 r2 (own_N f0) (own_N t0) r5 (own_N ia) (d ia)) [(.int (d ia)), (.ref r0)])) rfl rfl (hb hby d7_128)
          have N907 := Fr.snoc X907 N902 g_r0
          have Fw907 := aF_lastDoc_v906.same W907
          refine own_go (B := T907.setTop (mkF m 131 (LS_RRRIIRIIu r0 r1 r2 (own_N f0) (own_N t0) r5 (own_N ia) (d ia)) [])) (fun t k => st907 _ k) ?_
          refine own_go (B := T907.setTop (mkF m 133 (LS_RRRIIRIIu r0 r1 r2 (own_N f0) (own_N t0) r5 (own_N ia) (d ia)) [(.int (0 : Int32)), (.ref r0)])) (fun t k => ?_) ?_
          · refine XS.aloadN X907.here hx rfl (hb hby d7_131) rfl rfl ?_
            refine XS.iconst X907.here hx rfl (hb hby d7_132) ?_
            exact k
          have aE_v908 := aE_v903.wr W907
          have aF_lastFreq_v909 := aF_lastFreq.other W888 (Or.inl ne890)
          have aF_lastFreq_v910 := aF_lastFreq_v909.other W898 (Or.inl ne890)
          have aF_lastFreq_v911 := aF_lastFreq_v910.other W902 (Or.inr (slot_ne (Or.inl (hw _ (List.mem_of_getElem? (i := 49) rfl))) (Or.inl (hw _ (List.mem_of_getElem? (i := 47) rfl))) (by decide) (t := .int) (t' := .int) (by decide) (by decide)))
          have aF_lastFreq_v912 := aF_lastFreq_v911.other W907 (Or.inr (slot_ne (Or.inl (hw _ (List.mem_of_getElem? (i := 49) rfl))) (Or.inl (hw _ (List.mem_of_getElem? (i := 28) rfl))) (by decide) (t := .int) (t' := .int) (by decide) (by decide)))
          obtain ⟨T913, h913, X913, e913, W913, st913⟩ := putF X907 hx hZ hown (host := "") (Or.inl (hw _ (List.mem_of_getElem? (i := 48) rfl))) Via.refl e907 aF_lastFreq_v912 aE_v908 (Or.inl (hw _ (List.mem_of_getElem? (i := 49) rfl))) (hw _ (List.mem_of_getElem? (i := 17) rfl)) (ty := .int) (by decide) rfl rfl (g := (mkF m 133 (LS_RRRIIRIIu r0 r1 r2 (own_N f0) (own_N t0) r5 (own_N ia) (d ia)) [(.int (0 : Int32)), (.ref r0)])) rfl rfl (hb hby d7_133)
          have N913 := Fr.snoc X913 N907 g_r0
          have Fw913 := aF_lastFreq_v912.same W913
          refine own_go (B := T913.setTop (mkF m 136 (LS_RRRIIRIIu r0 r1 r2 (own_N f0) (own_N t0) r5 (own_N ia) (d ia)) [])) (fun t k => st913 _ k) ?_
          have aF_shortestLength_v914 := aF_shortestLength.other W888 (Or.inl ne890)
          have aF_shortestLength_v915 := aF_shortestLength_v914.other W898 (Or.inl ne890)
          have aF_shortestLength_v916 := aF_shortestLength_v915.other W902 (Or.inr (slot_ne (Or.inl (hw _ (List.mem_of_getElem? (i := 30) rfl))) (Or.inl (hw _ (List.mem_of_getElem? (i := 47) rfl))) (by decide) (t := .int) (t' := .int) (by decide) (by decide)))
          have aF_shortestLength_v917 := aF_shortestLength_v916.other W907 (Or.inr (slot_ne (Or.inl (hw _ (List.mem_of_getElem? (i := 30) rfl))) (Or.inl (hw _ (List.mem_of_getElem? (i := 28) rfl))) (by decide) (t := .int) (t' := .int) (by decide) (by decide)))
          have aF_shortestLength_v918 := aF_shortestLength_v917.other W913 (Or.inr (slot_ne (Or.inl (hw _ (List.mem_of_getElem? (i := 30) rfl))) (Or.inl (hw _ (List.mem_of_getElem? (i := 49) rfl))) (by decide) (t := .int) (t' := .int) (by decide) (by decide)))
          refine own_go (B := T913.setTop (mkF m 138 (LS_RRRIIRIIu r0 r1 r2 (own_N f0) (own_N t0) r5 (own_N ia) (d ia)) [(.ref r0), (.ref r0)])) (fun t k => ?_) ?_
          · refine XS.aloadN X913.here hx rfl (hb hby d7_136) rfl rfl ?_
            refine XS.aloadN X913.here hx rfl (hb hby d7_137) rfl rfl ?_
            exact k
          obtain ⟨T919, X919, e919, st919⟩ := getF X913 hx hZ hown (host := "") (Or.inl (hw _ (List.mem_of_getElem? (i := 29) rfl))) Via.refl e913 aF_shortestLength_v918 (g := (mkF m 138 (LS_RRRIIRIIu r0 r1 r2 (own_N f0) (own_N t0) r5 (own_N ia) (d ia)) [(.ref r0), (.ref r0)])) rfl rfl (hb hby d7_138)
          refine own_go (B := T919.setTop (mkF m 141 (LS_RRRIIRIIu r0 r1 r2 (own_N f0) (own_N t0) r5 (own_N ia) (d ia)) [(.int sla), (.ref r0)])) (fun t k => st919 _ k) ?_
          have ne922 : r5 ≠ ea := own_neT aVl aVe (by decide)
          have aVl_v921 := aVl.other W888 ne922
          have aVl_v923 := aVl_v921.other W898 ne922
          have ne925 : r0 ≠ r5 := Exa.neArv aE aVl (hw _ (List.mem_of_getElem? (i := 17) rfl))
          have aVl_v924 := aVl_v923.other W902 (Ne.symm ne925)
          have aVl_v926 := aVl_v924.other W907 (Ne.symm ne925)
          have aVl_v927 := aVl_v926.other W913 (Ne.symm ne925)
          obtain ⟨cl920, Ar920, qa920, Sa920, Na920, Ha920, Ga920⟩ := id aVl_v927
          have hin928 : ¬ ((d ia) < 0 ∨ cl920.slots.size ≤ ((d ia)).toNatClampNeg) := inb_of Sa920 (hdl ia hlt)
          have hat928 : cl920.slots[((d ia)).toNatClampNeg]? = some (.int (0 : Int32)) := Has.at Ha920 hin928 rfl
          refine own_go (B := T919.setTop (mkF m 150 (LS_RRRIIRIIu r0 r1 r2 (own_N f0) (own_N t0) r5 (own_N ia) (d ia)) [(.int ((0 : Int32) &&& (255 : Int32))), (.int sla), (.ref r0)])) (fun t k => ?_) ?_
          · refine XS.aload X919.here hx rfl (hb hby d7_141) rfl rfl ?_
            refine XS.iload X919.here hx rfl (hb hby d7_143) rfl ?_
            show Steps p.tables e below (T919.setTop (mkF m 145 (LS_RRRIIRIIu r0 r1 r2 (own_N f0) (own_N t0) r5 (own_N ia) (d ia)) [(.int (d ia)), (.ref r5), (.int sla), (.ref r0)])) _
            refine X919.baloadBytes hx (j := (d ia)) (v := (.int (0 : Int32))) (by rw [e919]; exact Ar920.1) (State.isArrayOf_alike hZ.alike Ar920.2.1) Ar920.2.2 hin928 hat928 (g := (mkF m 145 (LS_RRRIIRIIu r0 r1 r2 (own_N f0) (own_N t0) r5 (own_N ia) (d ia)) [(.int (d ia)), (.ref r5), (.int sla), (.ref r0)])) rfl rfl (hb hby d7_145) _ ?_
            refine XS.sipush X919.here hx rfl (hb hby d7_146) ?_
            refine XS.iand X919.here hx rfl (hb hby d7_149) rfl ?_
            exact k
          have aZ_v929 := Nat.le_trans aZ (Nat.le_of_eq W888.size.symm)
          have aZ_v930 := Nat.le_trans aZ_v929 (Nat.le_of_eq W898.size.symm)
          have aZ_v931 := Nat.le_trans aZ_v930 (Nat.le_of_eq W902.size.symm)
          have aZ_v932 := Nat.le_trans aZ_v931 (Nat.le_of_eq W907.size.symm)
          have aZ_v933 := Nat.le_trans aZ_v932 (Nat.le_of_eq W913.size.symm)
          obtain ⟨_, _, ⟨T934, L934, k934, n934⟩, -, X934, ⟨Lc934, hQ934, l934, y934, z934⟩, st934⟩ := Jvm.LawKit.callS X919 hx (y := (⟨"java/lang/Math", "min", "(II)I"⟩ : MethodName)) hown (mvT hZ (hw _ (List.mem_of_getElem? (i := 50) rfl))) (mvT hZ (hw _ (List.mem_of_getElem? (i := 51) rfl))) (mvT hZ (hw _ (List.mem_of_getElem? (i := 52) rfl))) (mvT hZ (hw _ (List.mem_of_getElem? (i := 53) rfl))) (by decide) (backOf (W := 1) (rmmin l Z a0 hw [] sla ((0 : Int32) &&& (255 : Int32)) h913 n0 aZ_v933) hZ (hw _ (List.mem_of_getElem? (i := 53) rfl)) (hw _ (List.mem_of_getElem? (i := 52) rfl)) (by decide) (by decide)) (g := (mkF m 150 (LS_RRRIIRIIu r0 r1 r2 (own_N f0) (own_N t0) r5 (own_N ia) (d ia)) [(.int ((0 : Int32) &&& (255 : Int32))), (.int sla), (.ref r0)])) rfl (by rw [hml]; rfl) (argsL := [(.int sla), (.int ((0 : Int32) &&& (255 : Int32)))]) (rest := [(.ref r0)]) (lenOf pd__II_I rfl) rfl (by show 2 * 0 + _ ≤ _; exact Nat.le_of_eq rfl) (hb hby d7_150) (fun _ _ => ⟨rfl, e919, (by decide : 1 + 0 ≤ _), (by decide : 32 + 0 ≤ _)⟩)
          dsimp only [Pt.U, Pt.locs, Pt.cells, Pt.slots] at X934 l934 y934 z934 st934 hQ934
          subst l934 y934 z934
          obtain ⟨rfl, N934q, e934⟩ := hQ934
          have N934 := Fr.app N913 N934q
          refine own_go (B := T934.setTop (mkF m 153 (LS_RRRIIRIIu r0 r1 r2 (own_N f0) (own_N t0) r5 (own_N ia) (d ia)) [(.int (if ((0 : Int32) &&& (255 : Int32)) < sla then ((0 : Int32) &&& (255 : Int32)) else sla)), (.ref r0)])) (fun t k => st934 _ k) ?_
          have aE_v935 := aE_v908.wr W913
          obtain ⟨T936, h936, X936, e936, W936, st936⟩ := putF X934 hx hZ hown (host := "") (Or.inl (hw _ (List.mem_of_getElem? (i := 29) rfl))) Via.refl e934 aF_shortestLength_v918 aE_v935 (Or.inl (hw _ (List.mem_of_getElem? (i := 30) rfl))) (hw _ (List.mem_of_getElem? (i := 17) rfl)) (ty := .int) (by decide) rfl rfl (g := (mkF m 153 (LS_RRRIIRIIu r0 r1 r2 (own_N f0) (own_N t0) r5 (own_N ia) (d ia)) [(.int (if ((0 : Int32) &&& (255 : Int32)) < sla then ((0 : Int32) &&& (255 : Int32)) else sla)), (.ref r0)])) rfl rfl (hb hby d7_153)
          have N936 := Fr.snoc X936 N934 g_r0
          have Fw936 := aF_shortestLength_v918.same W936
          refine own_go (B := T936.setTop (mkF m 156 (LS_RRRIIRIIu r0 r1 r2 (own_N f0) (own_N t0) r5 (own_N ia) (d ia)) [])) (fun t k => st936 _ k) ?_
          have aF_maxFreq_v937 := aF_maxFreq.other W888 (Or.inl ne890)
          have aF_maxFreq_v938 := aF_maxFreq_v937.other W898 (Or.inl ne890)
          have aF_maxFreq_v939 := aF_maxFreq_v938.other W902 (Or.inr (slot_ne (Or.inl (hw _ (List.mem_of_getElem? (i := 55) rfl))) (Or.inl (hw _ (List.mem_of_getElem? (i := 47) rfl))) (by decide) (t := .int) (t' := .int) (by decide) (by decide)))
          have aF_maxFreq_v940 := aF_maxFreq_v939.other W907 (Or.inr (slot_ne (Or.inl (hw _ (List.mem_of_getElem? (i := 55) rfl))) (Or.inl (hw _ (List.mem_of_getElem? (i := 28) rfl))) (by decide) (t := .int) (t' := .int) (by decide) (by decide)))
          have aF_maxFreq_v941 := aF_maxFreq_v940.other W913 (Or.inr (slot_ne (Or.inl (hw _ (List.mem_of_getElem? (i := 55) rfl))) (Or.inl (hw _ (List.mem_of_getElem? (i := 49) rfl))) (by decide) (t := .int) (t' := .int) (by decide) (by decide)))
          have aF_maxFreq_v942 := aF_maxFreq_v941.other W936 (Or.inr (slot_ne (Or.inl (hw _ (List.mem_of_getElem? (i := 55) rfl))) (Or.inl (hw _ (List.mem_of_getElem? (i := 30) rfl))) (by decide) (t := .int) (t' := .int) (by decide) (by decide)))
          refine own_go (B := T936.setTop (mkF m 158 (LS_RRRIIRIIu r0 r1 r2 (own_N f0) (own_N t0) r5 (own_N ia) (d ia)) [(.ref r0), (.ref r0)])) (fun t k => ?_) ?_
          · refine XS.aloadN X936.here hx rfl (hb hby d7_156) rfl rfl ?_
            refine XS.aloadN X936.here hx rfl (hb hby d7_157) rfl rfl ?_
            exact k
          obtain ⟨T943, X943, e943, st943⟩ := getF X936 hx hZ hown (host := "") (Or.inl (hw _ (List.mem_of_getElem? (i := 54) rfl))) Via.refl e936 aF_maxFreq_v942 (g := (mkF m 158 (LS_RRRIIRIIu r0 r1 r2 (own_N f0) (own_N t0) r5 (own_N ia) (d ia)) [(.ref r0), (.ref r0)])) rfl rfl (hb hby d7_158)
          refine own_go (B := T943.setTop (mkF m 161 (LS_RRRIIRIIu r0 r1 r2 (own_N f0) (own_N t0) r5 (own_N ia) (d ia)) [(.int mfa), (.ref r0)])) (fun t k => st943 _ k) ?_
          have Fw913_v944 := Fw913.other W936 (Or.inr (slot_ne (Or.inl (hw _ (List.mem_of_getElem? (i := 49) rfl))) (Or.inl (hw _ (List.mem_of_getElem? (i := 30) rfl))) (by decide) (t := .int) (t' := .int) (by decide) (by decide)))
          refine own_go (B := T943.setTop (mkF m 163 (LS_RRRIIRIIu r0 r1 r2 (own_N f0) (own_N t0) r5 (own_N ia) (d ia)) [(.ref r0), (.ref r0), (.int mfa), (.ref r0)])) (fun t k => ?_) ?_
          · refine XS.aloadN X943.here hx rfl (hb hby d7_161) rfl rfl ?_
            refine XS.dup X943.here hx rfl (hb hby d7_162) rfl rfl ?_
            exact k
          obtain ⟨T945, X945, e945, st945⟩ := getF X943 hx hZ hown (host := "") (Or.inl (hw _ (List.mem_of_getElem? (i := 48) rfl))) Via.refl e943 Fw913_v944 (g := (mkF m 163 (LS_RRRIIRIIu r0 r1 r2 (own_N f0) (own_N t0) r5 (own_N ia) (d ia)) [(.ref r0), (.ref r0), (.int mfa), (.ref r0)])) rfl rfl (hb hby d7_163)
          refine own_go (B := T945.setTop (mkF m 166 (LS_RRRIIRIIu r0 r1 r2 (own_N f0) (own_N t0) r5 (own_N ia) (d ia)) [(.int (0 : Int32)), (.ref r0), (.int mfa), (.ref r0)])) (fun t k => st945 _ k) ?_
          refine own_go (B := T945.setTop (mkF m 169 (LS_RRRIIRIIu r0 r1 r2 (own_N f0) (own_N t0) r5 (own_N ia) (d ia)) [(.int ((0 : Int32) + (1 : Int32))), (.ref r0), (.int ((0 : Int32) + (1 : Int32))), (.int mfa), (.ref r0)])) (fun t k => ?_) ?_
          · refine XS.iconst X945.here hx rfl (hb hby d7_166) ?_
            refine XS.iadd X945.here hx rfl (hb hby d7_167) rfl ?_
            show Steps p.tables e below (T945.setTop (mkF m 168 (LS_RRRIIRIIu r0 r1 r2 (own_N f0) (own_N t0) r5 (own_N ia) (d ia)) [(.int ((0 : Int32) + (1 : Int32))), (.ref r0), (.int mfa), (.ref r0)])) _
            refine XS.dupX1 X945.here hx rfl (hb hby d7_168) rfl rfl rfl ?_
            exact k
          have aE_v946 := aE_v935.wr W936
          obtain ⟨T947, h947, X947, e947, W947, st947⟩ := putF X945 hx hZ hown (host := "") (Or.inl (hw _ (List.mem_of_getElem? (i := 48) rfl))) Via.refl e945 Fw913_v944 aE_v946 (Or.inl (hw _ (List.mem_of_getElem? (i := 49) rfl))) (hw _ (List.mem_of_getElem? (i := 17) rfl)) (ty := .int) (by decide) rfl rfl (g := (mkF m 169 (LS_RRRIIRIIu r0 r1 r2 (own_N f0) (own_N t0) r5 (own_N ia) (d ia)) [(.int ((0 : Int32) + (1 : Int32))), (.ref r0), (.int ((0 : Int32) + (1 : Int32))), (.int mfa), (.ref r0)])) rfl rfl (hb hby d7_169)
          have N947 := Fr.snoc X947 N936 g_r0
          have Fw947 := Fw913_v944.same W947
          refine own_go (B := T947.setTop (mkF m 172 (LS_RRRIIRIIu r0 r1 r2 (own_N f0) (own_N t0) r5 (own_N ia) (d ia)) [(.int ((0 : Int32) + (1 : Int32))), (.int mfa), (.ref r0)])) (fun t k => st947 _ k) ?_
          have aZ_v948 := Nat.le_trans aZ_v933 (Nat.le_of_eq W936.size.symm)
          have aZ_v949 := Nat.le_trans aZ_v948 (Nat.le_of_eq W947.size.symm)
          obtain ⟨_, _, ⟨T950, L950, k950, n950⟩, -, X950, ⟨Lc950, hQ950, l950, y950, z950⟩, st950⟩ := Jvm.LawKit.callS X947 hx (y := (⟨"java/lang/Math", "max", "(II)I"⟩ : MethodName)) hown (mvT hZ (hw _ (List.mem_of_getElem? (i := 56) rfl))) (mvT hZ (hw _ (List.mem_of_getElem? (i := 57) rfl))) (mvT hZ (hw _ (List.mem_of_getElem? (i := 52) rfl))) (mvT hZ (hw _ (List.mem_of_getElem? (i := 58) rfl))) (by decide) (backOf (W := 1) (rmmax l Z a0 hw [] mfa ((0 : Int32) + (1 : Int32)) h947 n0 aZ_v949) hZ (hw _ (List.mem_of_getElem? (i := 58) rfl)) (hw _ (List.mem_of_getElem? (i := 52) rfl)) (by decide) (by decide)) (g := (mkF m 172 (LS_RRRIIRIIu r0 r1 r2 (own_N f0) (own_N t0) r5 (own_N ia) (d ia)) [(.int ((0 : Int32) + (1 : Int32))), (.int mfa), (.ref r0)])) rfl (by rw [hml]; rfl) (argsL := [(.int mfa), (.int ((0 : Int32) + (1 : Int32)))]) (rest := [(.ref r0)]) (lenOf pd__II_I rfl) rfl (by show 2 * 0 + _ ≤ _; exact Nat.le_of_eq rfl) (hb hby d7_172) (fun _ _ => ⟨rfl, e947, (by decide : 1 + 0 ≤ _), (by decide : 32 + 0 ≤ _)⟩)
          dsimp only [Pt.U, Pt.locs, Pt.cells, Pt.slots] at X950 l950 y950 z950 st950 hQ950
          subst l950 y950 z950
          obtain ⟨rfl, N950q, e950⟩ := hQ950
          have N950 := Fr.app N947 N950q
          refine own_go (B := T950.setTop (mkF m 175 (LS_RRRIIRIIu r0 r1 r2 (own_N f0) (own_N t0) r5 (own_N ia) (d ia)) [(.int (if mfa < ((0 : Int32) + (1 : Int32)) then ((0 : Int32) + (1 : Int32)) else mfa)), (.ref r0)])) (fun t k => st950 _ k) ?_
          have aE_v951 := aE_v946.wr W947
          have aF_maxFreq_v952 := aF_maxFreq_v942.other W947 (Or.inr (slot_ne (Or.inl (hw _ (List.mem_of_getElem? (i := 55) rfl))) (Or.inl (hw _ (List.mem_of_getElem? (i := 49) rfl))) (by decide) (t := .int) (t' := .int) (by decide) (by decide)))
          obtain ⟨T953, h953, X953, e953, W953, st953⟩ := putF X950 hx hZ hown (host := "") (Or.inl (hw _ (List.mem_of_getElem? (i := 54) rfl))) Via.refl e950 aF_maxFreq_v952 aE_v951 (Or.inl (hw _ (List.mem_of_getElem? (i := 55) rfl))) (hw _ (List.mem_of_getElem? (i := 17) rfl)) (ty := .int) (by decide) rfl rfl (g := (mkF m 175 (LS_RRRIIRIIu r0 r1 r2 (own_N f0) (own_N t0) r5 (own_N ia) (d ia)) [(.int (if mfa < ((0 : Int32) + (1 : Int32)) then ((0 : Int32) + (1 : Int32)) else mfa)), (.ref r0)])) rfl rfl (hb hby d7_175)
          have N953 := Fr.snoc X953 N950 g_r0
          have Fw953 := aF_maxFreq_v952.same W953
          refine own_go (B := T953.setTop (mkF m 178 (LS_RRRIIRIIu r0 r1 r2 (own_N f0) (own_N t0) r5 (own_N ia) (d ia)) [])) (fun t k => st953 _ k) ?_
          refine own_go (B := T953.setTop (mkF m 27 (LS_RRRIIRIIu r0 r1 r2 (own_N f0) (own_N t0) r5 (own_N (ia + 1)) (d ia)) [])) (fun t k => ?_) ?_
          · refine XS.iinc X953.here hx rfl (hb hby d7_178) rfl (l' := (LS_RRRIIRIIu r0 r1 r2 (own_N f0) (own_N t0) r5 ((own_N ia) + (1 : Int32)) (d ia))) rfl ?_
            change Steps p.tables e below (T953.setTop (mkF m 181 (LS_RRRIIRIIu r0 r1 r2 (own_N f0) (own_N t0) r5 ((own_N ia) + (1 : Int32)) (d ia)) [])) _
            rw [show ((own_N ia) + (1 : Int32)) = (own_N (ia + 1)) from own_N1 (by omega)]
            refine XS.goto X953.here hx rfl (pc0 := 181) (pc' := 27) rfl (hb hby d7_181) (by decide) (by decide) ?_
            exact k
          have aZ_v954 := Nat.le_trans aZ_v949 (Nat.le_of_eq W953.size.symm)
          have aK_v955 := aK.wr W888 hia
          have aK_v956 := aK_v955.wr W898 hia
          have aK_v957 := aK_v956.wr W902 (Or.inl (List.mem_of_getElem? (i := 0) rfl))
          have aK_v958 := aK_v957.wr W907 (Or.inl (List.mem_of_getElem? (i := 0) rfl))
          have aK_v959 := aK_v958.wr W913 (Or.inl (List.mem_of_getElem? (i := 0) rfl))
          have aK_v960 := aK_v959.wr W936 (Or.inl (List.mem_of_getElem? (i := 0) rfl))
          have aK_v961 := aK_v960.wr W947 (Or.inl (List.mem_of_getElem? (i := 0) rfl))
          have aK_v962 := aK_v961.wr W953 (Or.inl (List.mem_of_getElem? (i := 0) rfl))
          have aE_v963 := aE_v951.wr W953
          have aF_entries_v964 := aF_entries_v889.other W898 (Or.inl ne890)
          have aF_entries_v965 := aF_entries_v964.other W902 (Or.inr (slot_ne (Or.inl (hw _ (List.mem_of_getElem? (i := 26) rfl))) (Or.inl (hw _ (List.mem_of_getElem? (i := 47) rfl))) (by decide) (t := (.array .int)) (t' := .int) (by decide) (by decide)))
          have aF_entries_v966 := aF_entries_v965.other W907 (Or.inr (slot_ne (Or.inl (hw _ (List.mem_of_getElem? (i := 26) rfl))) (Or.inl (hw _ (List.mem_of_getElem? (i := 28) rfl))) (by decide) (t := (.array .int)) (t' := .int) (by decide) (by decide)))
          have aF_entries_v967 := aF_entries_v966.other W913 (Or.inr (slot_ne (Or.inl (hw _ (List.mem_of_getElem? (i := 26) rfl))) (Or.inl (hw _ (List.mem_of_getElem? (i := 49) rfl))) (by decide) (t := (.array .int)) (t' := .int) (by decide) (by decide)))
          have aF_entries_v968 := aF_entries_v967.other W936 (Or.inr (slot_ne (Or.inl (hw _ (List.mem_of_getElem? (i := 26) rfl))) (Or.inl (hw _ (List.mem_of_getElem? (i := 30) rfl))) (by decide) (t := (.array .int)) (t' := .int) (by decide) (by decide)))
          have aF_entries_v969 := aF_entries_v968.other W947 (Or.inr (slot_ne (Or.inl (hw _ (List.mem_of_getElem? (i := 26) rfl))) (Or.inl (hw _ (List.mem_of_getElem? (i := 49) rfl))) (by decide) (t := (.array .int)) (t' := .int) (by decide) (by decide)))
          have aF_entries_v970 := aF_entries_v969.other W953 (Or.inr (slot_ne (Or.inl (hw _ (List.mem_of_getElem? (i := 26) rfl))) (Or.inl (hw _ (List.mem_of_getElem? (i := 55) rfl))) (by decide) (t := (.array .int)) (t' := .int) (by decide) (by decide)))
          have Fw902_v971 := Fw902.other W907 (Or.inr (slot_ne (Or.inl (hw _ (List.mem_of_getElem? (i := 47) rfl))) (Or.inl (hw _ (List.mem_of_getElem? (i := 28) rfl))) (by decide) (t := .int) (t' := .int) (by decide) (by decide)))
          have Fw902_v972 := Fw902_v971.other W913 (Or.inr (slot_ne (Or.inl (hw _ (List.mem_of_getElem? (i := 47) rfl))) (Or.inl (hw _ (List.mem_of_getElem? (i := 49) rfl))) (by decide) (t := .int) (t' := .int) (by decide) (by decide)))
          have Fw902_v973 := Fw902_v972.other W936 (Or.inr (slot_ne (Or.inl (hw _ (List.mem_of_getElem? (i := 47) rfl))) (Or.inl (hw _ (List.mem_of_getElem? (i := 30) rfl))) (by decide) (t := .int) (t' := .int) (by decide) (by decide)))
          have Fw902_v974 := Fw902_v973.other W947 (Or.inr (slot_ne (Or.inl (hw _ (List.mem_of_getElem? (i := 47) rfl))) (Or.inl (hw _ (List.mem_of_getElem? (i := 49) rfl))) (by decide) (t := .int) (t' := .int) (by decide) (by decide)))
          have Fw902_v975 := Fw902_v974.other W953 (Or.inr (slot_ne (Or.inl (hw _ (List.mem_of_getElem? (i := 47) rfl))) (Or.inl (hw _ (List.mem_of_getElem? (i := 55) rfl))) (by decide) (t := .int) (t' := .int) (by decide) (by decide)))
          have Fw907_v976 := Fw907.other W913 (Or.inr (slot_ne (Or.inl (hw _ (List.mem_of_getElem? (i := 28) rfl))) (Or.inl (hw _ (List.mem_of_getElem? (i := 49) rfl))) (by decide) (t := .int) (t' := .int) (by decide) (by decide)))
          have Fw907_v977 := Fw907_v976.other W936 (Or.inr (slot_ne (Or.inl (hw _ (List.mem_of_getElem? (i := 28) rfl))) (Or.inl (hw _ (List.mem_of_getElem? (i := 30) rfl))) (by decide) (t := .int) (t' := .int) (by decide) (by decide)))
          have Fw907_v978 := Fw907_v977.other W947 (Or.inr (slot_ne (Or.inl (hw _ (List.mem_of_getElem? (i := 28) rfl))) (Or.inl (hw _ (List.mem_of_getElem? (i := 49) rfl))) (by decide) (t := .int) (t' := .int) (by decide) (by decide)))
          have Fw907_v979 := Fw907_v978.other W953 (Or.inr (slot_ne (Or.inl (hw _ (List.mem_of_getElem? (i := 28) rfl))) (Or.inl (hw _ (List.mem_of_getElem? (i := 55) rfl))) (by decide) (t := .int) (t' := .int) (by decide) (by decide)))
          have Fw947_v980 := Fw947.other W953 (Or.inr (slot_ne (Or.inl (hw _ (List.mem_of_getElem? (i := 49) rfl))) (Or.inl (hw _ (List.mem_of_getElem? (i := 55) rfl))) (by decide) (t := .int) (t' := .int) (by decide) (by decide)))
          have Fw936_v981 := Fw936.other W947 (Or.inr (slot_ne (Or.inl (hw _ (List.mem_of_getElem? (i := 30) rfl))) (Or.inl (hw _ (List.mem_of_getElem? (i := 49) rfl))) (by decide) (t := .int) (t' := .int) (by decide) (by decide)))
          have Fw936_v982 := Fw936_v981.other W953 (Or.inr (slot_ne (Or.inl (hw _ (List.mem_of_getElem? (i := 30) rfl))) (Or.inl (hw _ (List.mem_of_getElem? (i := 55) rfl))) (by decide) (t := .int) (t' := .int) (by decide) (by decide)))
          have aF_positionCount_v983 := aF_positionCount_v895.other W898 (Or.inl ne890)
          have aF_positionCount_v984 := aF_positionCount_v983.other W902 (Or.inr (slot_ne (Or.inl (hw _ (List.mem_of_getElem? (i := 45) rfl))) (Or.inl (hw _ (List.mem_of_getElem? (i := 47) rfl))) (by decide) (t := .int) (t' := .int) (by decide) (by decide)))
          have aF_positionCount_v985 := aF_positionCount_v984.other W907 (Or.inr (slot_ne (Or.inl (hw _ (List.mem_of_getElem? (i := 45) rfl))) (Or.inl (hw _ (List.mem_of_getElem? (i := 28) rfl))) (by decide) (t := .int) (t' := .int) (by decide) (by decide)))
          have aF_positionCount_v986 := aF_positionCount_v985.other W913 (Or.inr (slot_ne (Or.inl (hw _ (List.mem_of_getElem? (i := 45) rfl))) (Or.inl (hw _ (List.mem_of_getElem? (i := 49) rfl))) (by decide) (t := .int) (t' := .int) (by decide) (by decide)))
          have aF_positionCount_v987 := aF_positionCount_v986.other W936 (Or.inr (slot_ne (Or.inl (hw _ (List.mem_of_getElem? (i := 45) rfl))) (Or.inl (hw _ (List.mem_of_getElem? (i := 30) rfl))) (by decide) (t := .int) (t' := .int) (by decide) (by decide)))
          have aF_positionCount_v988 := aF_positionCount_v987.other W947 (Or.inr (slot_ne (Or.inl (hw _ (List.mem_of_getElem? (i := 45) rfl))) (Or.inl (hw _ (List.mem_of_getElem? (i := 49) rfl))) (by decide) (t := .int) (t' := .int) (by decide) (by decide)))
          have aF_positionCount_v989 := aF_positionCount_v988.other W953 (Or.inr (slot_ne (Or.inl (hw _ (List.mem_of_getElem? (i := 45) rfl))) (Or.inl (hw _ (List.mem_of_getElem? (i := 55) rfl))) (by decide) (t := .int) (t' := .int) (by decide) (by decide)))
          have aF_pages_v990 := aF_pages.other W888 (Or.inl ne890)
          have aF_pages_v991 := aF_pages_v990.other W898 (Or.inl ne890)
          have aF_pages_v992 := aF_pages_v991.other W902 (Or.inr (slot_ne (Or.inl (hw _ (List.mem_of_getElem? (i := 34) rfl))) (Or.inl (hw _ (List.mem_of_getElem? (i := 47) rfl))) (by decide) (t := (.array (.array .int))) (t' := .int) (by decide) (by decide)))
          have aF_pages_v993 := aF_pages_v992.other W907 (Or.inr (slot_ne (Or.inl (hw _ (List.mem_of_getElem? (i := 34) rfl))) (Or.inl (hw _ (List.mem_of_getElem? (i := 28) rfl))) (by decide) (t := (.array (.array .int))) (t' := .int) (by decide) (by decide)))
          have aF_pages_v994 := aF_pages_v993.other W913 (Or.inr (slot_ne (Or.inl (hw _ (List.mem_of_getElem? (i := 34) rfl))) (Or.inl (hw _ (List.mem_of_getElem? (i := 49) rfl))) (by decide) (t := (.array (.array .int))) (t' := .int) (by decide) (by decide)))
          have aF_pages_v995 := aF_pages_v994.other W936 (Or.inr (slot_ne (Or.inl (hw _ (List.mem_of_getElem? (i := 34) rfl))) (Or.inl (hw _ (List.mem_of_getElem? (i := 30) rfl))) (by decide) (t := (.array (.array .int))) (t' := .int) (by decide) (by decide)))
          have aF_pages_v996 := aF_pages_v995.other W947 (Or.inr (slot_ne (Or.inl (hw _ (List.mem_of_getElem? (i := 34) rfl))) (Or.inl (hw _ (List.mem_of_getElem? (i := 49) rfl))) (by decide) (t := (.array (.array .int))) (t' := .int) (by decide) (by decide)))
          have aF_pages_v997 := aF_pages_v996.other W953 (Or.inr (slot_ne (Or.inl (hw _ (List.mem_of_getElem? (i := 34) rfl))) (Or.inl (hw _ (List.mem_of_getElem? (i := 55) rfl))) (by decide) (t := (.array (.array .int))) (t' := .int) (by decide) (by decide)))
          have aF_page_v998 := aF_page.other W888 (Or.inl ne890)
          have aF_page_v999 := aF_page_v998.other W898 (Or.inl ne890)
          have aF_page_v1000 := aF_page_v999.other W902 (Or.inr (slot_ne (Or.inl (hw _ (List.mem_of_getElem? (i := 36) rfl))) (Or.inl (hw _ (List.mem_of_getElem? (i := 47) rfl))) (by decide) (t := (.array .int)) (t' := .int) (by decide) (by decide)))
          have aF_page_v1001 := aF_page_v1000.other W907 (Or.inr (slot_ne (Or.inl (hw _ (List.mem_of_getElem? (i := 36) rfl))) (Or.inl (hw _ (List.mem_of_getElem? (i := 28) rfl))) (by decide) (t := (.array .int)) (t' := .int) (by decide) (by decide)))
          have aF_page_v1002 := aF_page_v1001.other W913 (Or.inr (slot_ne (Or.inl (hw _ (List.mem_of_getElem? (i := 36) rfl))) (Or.inl (hw _ (List.mem_of_getElem? (i := 49) rfl))) (by decide) (t := (.array .int)) (t' := .int) (by decide) (by decide)))
          have aF_page_v1003 := aF_page_v1002.other W936 (Or.inr (slot_ne (Or.inl (hw _ (List.mem_of_getElem? (i := 36) rfl))) (Or.inl (hw _ (List.mem_of_getElem? (i := 30) rfl))) (by decide) (t := (.array .int)) (t' := .int) (by decide) (by decide)))
          have aF_page_v1004 := aF_page_v1003.other W947 (Or.inr (slot_ne (Or.inl (hw _ (List.mem_of_getElem? (i := 36) rfl))) (Or.inl (hw _ (List.mem_of_getElem? (i := 49) rfl))) (by decide) (t := (.array .int)) (t' := .int) (by decide) (by decide)))
          have aF_page_v1005 := aF_page_v1004.other W953 (Or.inr (slot_ne (Or.inl (hw _ (List.mem_of_getElem? (i := 36) rfl))) (Or.inl (hw _ (List.mem_of_getElem? (i := 55) rfl))) (by decide) (t := (.array .int)) (t' := .int) (by decide) (by decide)))
          have V898_v1006 := V898.other W902 (Ne.symm ne890)
          have V898_v1007 := V898_v1006.other W907 (Ne.symm ne890)
          have V898_v1008 := V898_v1007.other W913 (Ne.symm ne890)
          have V898_v1009 := V898_v1008.other W936 (Ne.symm ne890)
          have V898_v1010 := V898_v1009.other W947 (Ne.symm ne890)
          have V898_v1011 := V898_v1010.other W953 (Ne.symm ne890)
          have aVq_v1012 := aVq.other W888 (Ne.symm nea)
          have aVq_v1013 := aVq_v1012.other W898 (Ne.symm nea)
          have ne1015 : qo ≠ r0 := Exa.ne aEq aE (by decide)
          have aVq_v1014 := aVq_v1013.other W902 ne1015
          have aVq_v1016 := aVq_v1014.other W907 ne1015
          have aVq_v1017 := aVq_v1016.other W913 ne1015
          have aVq_v1018 := aVq_v1017.other W936 ne1015
          have aVq_v1019 := aVq_v1018.other W947 ne1015
          have aVq_v1020 := aVq_v1019.other W953 ne1015
          have aEq_v1021 := aEq.wr W888
          have aEq_v1022 := aEq_v1021.wr W898
          have aEq_v1023 := aEq_v1022.wr W902
          have aEq_v1024 := aEq_v1023.wr W907
          have aEq_v1025 := aEq_v1024.wr W913
          have aEq_v1026 := aEq_v1025.wr W936
          have aEq_v1027 := aEq_v1026.wr W947
          have aEq_v1028 := aEq_v1027.wr W953
          have ne1030 : pg ≠ ea := own_neT aVg aVe (by decide)
          have aVg_v1029 := aVg.other W888 ne1030
          have aVg_v1031 := aVg_v1029.other W898 ne1030
          have ne1033 : r0 ≠ pg := Exa.neArv aE aVg (hw _ (List.mem_of_getElem? (i := 17) rfl))
          have aVg_v1032 := aVg_v1031.other W902 (Ne.symm ne1033)
          have aVg_v1034 := aVg_v1032.other W907 (Ne.symm ne1033)
          have aVg_v1035 := aVg_v1034.other W913 (Ne.symm ne1033)
          have aVg_v1036 := aVg_v1035.other W936 (Ne.symm ne1033)
          have aVg_v1037 := aVg_v1036.other W947 (Ne.symm ne1033)
          have aVg_v1038 := aVg_v1037.other W953 (Ne.symm ne1033)
          have aVp_v1039 := aVp.other W888 (Ne.symm nea2)
          have aVp_v1040 := aVp_v1039.other W898 (Ne.symm nea2)
          have ne1042 : r0 ≠ r2 := Exa.neArv aE_v901 aVp_v1040 (hw _ (List.mem_of_getElem? (i := 17) rfl))
          have aVp_v1041 := aVp_v1040.other W902 (Ne.symm ne1042)
          have aVp_v1043 := aVp_v1041.other W907 (Ne.symm ne1042)
          have aVp_v1044 := aVp_v1043.other W913 (Ne.symm ne1042)
          have aVp_v1045 := aVp_v1044.other W936 (Ne.symm ne1042)
          have aVp_v1046 := aVp_v1045.other W947 (Ne.symm ne1042)
          have aVp_v1047 := aVp_v1046.other W953 (Ne.symm ne1042)
          have aVd_v1048 := aVd.other W888 (Ne.symm nea1)
          have aVd_v1049 := aVd_v1048.other W898 (Ne.symm nea1)
          have ne1051 : r0 ≠ r1 := Exa.neArv aE_v901 aVd_v1049 (hw _ (List.mem_of_getElem? (i := 17) rfl))
          have aVd_v1050 := aVd_v1049.other W902 (Ne.symm ne1051)
          have aVd_v1052 := aVd_v1050.other W907 (Ne.symm ne1051)
          have aVd_v1053 := aVd_v1052.other W913 (Ne.symm ne1051)
          have aVd_v1054 := aVd_v1053.other W936 (Ne.symm ne1051)
          have aVd_v1055 := aVd_v1054.other W947 (Ne.symm ne1051)
          have aVd_v1056 := aVd_v1055.other W953 (Ne.symm ne1051)
          have aVl_v1057 := aVl.other W888 ne922
          have aVl_v1058 := aVl_v1057.other W898 ne922
          have aVl_v1059 := aVl_v1058.other W902 (Ne.symm ne925)
          have aVl_v1060 := aVl_v1059.other W907 (Ne.symm ne925)
          have aVl_v1061 := aVl_v1060.other W913 (Ne.symm ne925)
          have aVl_v1062 := aVl_v1061.other W936 (Ne.symm ne925)
          have aVl_v1063 := aVl_v1062.other W947 (Ne.symm ne925)
          have aVl_v1064 := aVl_v1063.other W953 (Ne.symm ne925)
          exact IHa (ia + 1, 16, (.val (.int (d ia)))) _ _ (show t0 - (ia + 1) < t0 - ia by omega) (own_mono X953 (by simp) (by simp)) N953 (by rw [e953]; exact ⟨ea, kea, _, _, _, _, aZ_v954, aK_v962, aE_v963, aF_entries_v970, (by rw [own_sz_new hc46_834]; exact Fw902_v975), Fw907_v979, Fw947_v980, Fw953, Fw936_v982, aF_positionCount_v989, aF_pages_v997, aF_page_v1005, V898_v1011, aVq_v1020, aEq_v1028, aVg_v1038, aVp_v1047, aVd_v1056, aVl_v1064, hia, g_ea, nea, nea1, nea2, Or.inr rfl, (by show 2 * own_sz d (ia + 1) ≤ 16; rw [own_sz_new hc46_834]; omega), (own_H_new hHa hc46_834), Nat.le_succ_of_le hfa, hlt, Or.inr ⟨_, rfl⟩⟩)
      · have hiat : ia = t0 := by have := own_nlt (by omega) (by omega) hc31_830; omega
        refine own_go (B := Ta.setTop (mkF m 187 (LS_RRRIIRIWu r0 r1 r2 (own_N f0) (own_N t0) r5 (own_N f0) wa7) [])) (fun t k => ?_) ?_
        · refine XS.icmpYes Xa.here hx rfl (pc0 := 31) (pc' := 184) rfl (hb hby d7_31) rfl (flt hc31_830).2.1 (by decide) (by decide) ?_
          refine XS.iloadN Xa.here hx rfl (hb hby d7_184) rfl ?_
          show Steps p.tables e below (Ta.setTop (mkF m 185 (LS_RRRIIRIWu r0 r1 r2 (own_N f0) (own_N t0) r5 (own_N ia) wa7) [(.int (own_N f0))])) _
          refine XS.istore Xa.here hx rfl (hb hby d7_185) rfl (l' := (LS_RRRIIRIWu r0 r1 r2 (own_N f0) (own_N t0) r5 (own_N f0) wa7)) rfl ?_
          exact k
        refine own_loop Xa Na (ι := Nat × Nat × Slot × Slot) (fun i => t0 - i.1) (fun i => i.2.1 + 1) (fun i => 32 * i.2.1 + 32) (fun i hh => ∃ (qb : Addr) (kqb : ClassId) (pfb : Nat → Int32) (zpb : Nat), n0 ≤ Array.size hh ∧ Keep h0 hh [r0, eo, qo, pg] ∧ Exa Z hh r0 "com/example/terms_to_scores/termstoscores/index/Postings" ∧ Fld Z hh r0 "com/example/terms_to_scores/termstoscores/index/Postings" "entries" "[I" (.ref ea) ∧ Fld Z hh r0 "com/example/terms_to_scores/termstoscores/index/Postings" "size" "I" (.int (own_N (own_sz d ia))) ∧ Fld Z hh r0 "com/example/terms_to_scores/termstoscores/index/Postings" "lastDoc" "I" (.int (own_ld d ia)) ∧ Fld Z hh r0 "com/example/terms_to_scores/termstoscores/index/Postings" "lastFreq" "I" (.int lfa) ∧ Fld Z hh r0 "com/example/terms_to_scores/termstoscores/index/Postings" "maxFreq" "I" (.int mfa) ∧ Fld Z hh r0 "com/example/terms_to_scores/termstoscores/index/Postings" "shortestLength" "I" (.int sla) ∧ Fld Z hh r0 "com/example/terms_to_scores/termstoscores/index/Postings" "positionCount" "I" (.int (own_N i.1)) ∧ Fld Z hh r0 "com/example/terms_to_scores/termstoscores/index/Postings" "pages" "[[I" (.ref pg) ∧ Fld Z hh r0 "com/example/terms_to_scores/termstoscores/index/Postings" "page" "[I" (.ref qb) ∧ Arv Z hh ea kea .int (own_N 16) (own_V ena 16) (.int (0 : Int32)) ∧ Arv Z hh qb kqb .int (own_N zpb) (own_V pfb zpb) (.int (0 : Int32)) ∧ Exa Z hh qb "[I" ∧ Arv Z hh pg kg (.array .int) (1 : Int32) [.ref qb] .null ∧ Arv Z hh r2 kp .int (own_N np) (own_V ps np) (.int (0 : Int32)) ∧ Arv Z hh r1 kd .int (own_N nd) (own_V d nd) (.int (0 : Int32)) ∧ Arv Z hh r5 kl .byte zl [] (.int (0 : Int32)) ∧ (qb ∈ [r0, eo, qo, pg] ∨ h0.size ≤ qb) ∧ n0 ≤ qb ∧ ea ≠ qb ∧ qb ≠ r1 ∧ qb ≠ r2 ∧ (4 ≤ zpb ∧ i.1 ≤ zpb ∧ zpb ≤ 30) ∧ (∀ t, t < i.1 → pfb t = ps t) ∧ (f0 ≤ i.1 ∧ i.1 ≤ t0) ∧ (i.2.1 = 0 ∨ (i.2.1 = 1 ∧ i.1 = t0)) ∧ (i.2.2.1 = Slot.unset ∨ ∃ x : Int32, i.2.2.1 = Slot.val (.int x)) ∧ (i.2.2.2 = Slot.unset ∨ ∃ x : Int32, i.2.2.2 = Slot.val (.int x))) (fun i => mkF m 187 (LS_RRRIIRIWW r0 r1 r2 (own_N f0) (own_N t0) r5 (own_N i.1) i.2.2.1 i.2.2.2) []) ?_ ?_
        · rintro ⟨ib, gb, wb7, wb8⟩ Tb Lb Xb0 Nb ⟨qb, kqb, pfb, zpb, bZ, bK, bE, bF_entries, bF_size, bF_lastDoc, bF_lastFreq, bF_maxFreq, bF_shortestLength, bF_positionCount, bF_pages, bF_page, bVe, bVq, bEq, bVg, bVp, bVd, bVl, hib, g_qb, neb, nqb1, nqb2, hzb, hpb, hfb, hgb, hwb7, hwb8⟩ IHb
          dsimp only at bF_positionCount hzb hpb hfb hgb
          rcases hgb with rfl | ⟨rfl, hbt⟩
          · have Xb := own_mono (cells' := 1) (slots' := 32) Xb0 (by simp) (by simp)
            refine own_go (B := Tb.setTop (mkF m 187 (LS_RRRIIRIWW r0 r1 r2 (own_N f0) (own_N t0) r5 (own_N ib) wb7 wb8) [])) (fun t k => k) ?_
            refine own_go (B := Tb.setTop (mkF m 191 (LS_RRRIIRIWW r0 r1 r2 (own_N f0) (own_N t0) r5 (own_N ib) wb7 wb8) [(.int (own_N t0)), (.int (own_N ib))])) (fun t k => ?_) ?_
            · refine XS.iload Xb.here hx rfl (hb hby d7_187) rfl ?_
              refine XS.iload Xb.here hx rfl (hb hby d7_189) rfl ?_
              exact k
            by_cases hc191_1065 : (own_N ib) < (own_N t0)
            · have hlb : ib < t0 := own_lt (by omega) (by omega) hc191_1065
              refine own_go (B := Tb.setTop (mkF m 195 (LS_RRRIIRIWW r0 r1 r2 (own_N f0) (own_N t0) r5 (own_N ib) wb7 wb8) [(.ref r0)])) (fun t k => ?_) ?_
              · refine XS.icmpNo Xb.here hx rfl (hb hby d7_191) rfl (tlt hc191_1065).2.1 ?_
                refine XS.aloadN Xb.here hx rfl (hb hby d7_194) rfl rfl ?_
                exact k
              obtain ⟨T1066, X1066, e1066, st1066⟩ := getF Xb hx hZ hown (host := "") (Or.inl (hw _ (List.mem_of_getElem? (i := 44) rfl))) Via.refl rfl bF_positionCount (g := (mkF m 195 (LS_RRRIIRIWW r0 r1 r2 (own_N f0) (own_N t0) r5 (own_N ib) wb7 wb8) [(.ref r0)])) rfl rfl (hb hby d7_195)
              refine own_go (B := T1066.setTop (mkF m 198 (LS_RRRIIRIWW r0 r1 r2 (own_N f0) (own_N t0) r5 (own_N ib) wb7 wb8) [(.int (own_N ib))])) (fun t k => st1066 _ k) ?_
              refine own_go (B := T1066.setTop (mkF m 206 (LS_RRRIIRIIW r0 r1 r2 (own_N f0) (own_N t0) r5 (own_N ib) (own_N ib) wb8) [(.int (own_N ib))])) (fun t k => ?_) ?_
              · refine XS.sipush X1066.here hx rfl (hb hby d7_198) ?_
                refine XS.iand X1066.here hx rfl (hb hby d7_201) rfl ?_
                change Steps p.tables e below (T1066.setTop (mkF m 202 (LS_RRRIIRIWW r0 r1 r2 (own_N f0) (own_N t0) r5 (own_N ib) wb7 wb8) [(.int ((own_N ib) &&& (8191 : Int32)))])) _
                rw [show ((own_N ib) &&& (8191 : Int32)) = (own_N ib) from own_Nm (by omega)]
                show Steps p.tables e below (T1066.setTop (mkF m 202 (LS_RRRIIRIWW r0 r1 r2 (own_N f0) (own_N t0) r5 (own_N ib) wb7 wb8) [(.int (own_N ib))])) _
                refine XS.istore X1066.here hx rfl (hb hby d7_202) rfl (l' := (LS_RRRIIRIIW r0 r1 r2 (own_N f0) (own_N t0) r5 (own_N ib) (own_N ib) wb8)) (by rcases hwb7 with rfl | ⟨_, rfl⟩ <;> rfl) ?_
                refine XS.iload X1066.here hx rfl (hb hby d7_204) rfl ?_
                exact k
              by_cases hc206_1067 : (own_N ib) = (0 : Int32)
              · refine own_go (B := T1066.setTop (mkF m 210 (LS_RRRIIRIIW r0 r1 r2 (own_N f0) (own_N t0) r5 (own_N ib) (own_N ib) wb8) [(.ref r0)])) (fun t k => ?_) ?_
                · refine XS.ifNo X1066.here hx rfl (hb hby d7_206) rfl ((if0 _ _).trans (teq hc206_1067).2) ?_
                  refine XS.aloadN X1066.here hx rfl (hb hby d7_209) rfl rfl ?_
                  exact k
                obtain ⟨T1068, X1068, e1068, st1068⟩ := getF X1066 hx hZ hown (host := "") (Or.inl (hw _ (List.mem_of_getElem? (i := 44) rfl))) Via.refl e1066 bF_positionCount (g := (mkF m 210 (LS_RRRIIRIIW r0 r1 r2 (own_N f0) (own_N t0) r5 (own_N ib) (own_N ib) wb8) [(.ref r0)])) rfl rfl (hb hby d7_210)
                refine own_go (B := T1068.setTop (mkF m 213 (LS_RRRIIRIIW r0 r1 r2 (own_N f0) (own_N t0) r5 (own_N ib) (own_N ib) wb8) [(.int (own_N ib))])) (fun t k => st1068 _ k) ?_
                refine own_go (B := T1068.setTop (mkF m 279 (LS_RRRIIRIIW r0 r1 r2 (own_N f0) (own_N t0) r5 (own_N ib) (own_N ib) wb8) [(.ref r0), (.int (own_N ib))])) (fun t k => ?_) ?_
                · refine XS.ifYes X1068.here hx rfl (pc0 := 213) (pc' := 276) rfl (hb hby d7_213) rfl ((if0 _ _).trans (flt (fun q => absurd (own_lt (x := 0) (n := ib) (by decide) (by omega) q) (by have := own_eq (x := ib) (n := 0) (by omega) (by decide) hc206_1067; omega))).2.2.2) (by decide) (by decide) ?_
                  refine XS.iload X1068.here hx rfl (hb hby d7_276) rfl ?_
                  show Steps p.tables e below (T1068.setTop (mkF m 278 (LS_RRRIIRIIW r0 r1 r2 (own_N f0) (own_N t0) r5 (own_N ib) (own_N ib) wb8) [(.int (own_N ib))])) _
                  refine XS.aloadN X1068.here hx rfl (hb hby d7_278) rfl rfl ?_
                  exact k
                obtain ⟨T1069, X1069, e1069, st1069⟩ := getF X1068 hx hZ hown (host := "") (Or.inl (hw _ (List.mem_of_getElem? (i := 35) rfl))) Via.refl e1068 bF_page (g := (mkF m 279 (LS_RRRIIRIIW r0 r1 r2 (own_N f0) (own_N t0) r5 (own_N ib) (own_N ib) wb8) [(.ref r0), (.int (own_N ib))])) rfl rfl (hb hby d7_279)
                refine own_go (B := T1069.setTop (mkF m 282 (LS_RRRIIRIIW r0 r1 r2 (own_N f0) (own_N t0) r5 (own_N ib) (own_N ib) wb8) [(.ref qb), (.int (own_N ib))])) (fun t k => st1069 _ k) ?_
                obtain ⟨cl1070, Ar1070, qa1070, Sa1070, Na1070, Ha1070, Ga1070⟩ := id bVq
                refine own_go (B := T1069.setTop (mkF m 283 (LS_RRRIIRIIW r0 r1 r2 (own_N f0) (own_N t0) r5 (own_N ib) (own_N ib) wb8) [(.int (own_N zpb)), (.int (own_N ib))])) (fun t k => ?_) ?_
                · refine X1069.arraylength hx (by rw [e1069]; exact Ar1070.1) (State.isArrayOf_alike hZ.alike Ar1070.2.1) (g := (mkF m 282 (LS_RRRIIRIIW r0 r1 r2 (own_N f0) (own_N t0) r5 (own_N ib) (own_N ib) wb8) [(.ref qb), (.int (own_N ib))])) rfl rfl (hb hby d7_282) _ ?_
                  rw [len_of Sa1070 Na1070]
                  exact k
                by_cases hc283_1071 : (own_N ib) = (own_N zpb)
                · have hbz : ib = zpb := own_eq (by omega) (by omega) hc283_1071
                  refine own_go (B := T1069.setTop (mkF m 288 (LS_RRRIIRIIW r0 r1 r2 (own_N f0) (own_N t0) r5 (own_N ib) (own_N ib) wb8) [(.ref r0), (.ref r0)])) (fun t k => ?_) ?_
                  · refine XS.icmpNo X1069.here hx rfl (hb hby d7_283) rfl (teq hc283_1071).2 ?_
                    refine XS.aloadN X1069.here hx rfl (hb hby d7_286) rfl rfl ?_
                    show Steps p.tables e below (T1069.setTop (mkF m 287 (LS_RRRIIRIIW r0 r1 r2 (own_N f0) (own_N t0) r5 (own_N ib) (own_N ib) wb8) [(.ref r0)])) _
                    refine XS.aloadN X1069.here hx rfl (hb hby d7_287) rfl rfl ?_
                    exact k
                  obtain ⟨T1072, X1072, e1072, st1072⟩ := getF X1069 hx hZ hown (host := "") (Or.inl (hw _ (List.mem_of_getElem? (i := 35) rfl))) Via.refl e1069 bF_page (g := (mkF m 288 (LS_RRRIIRIIW r0 r1 r2 (own_N f0) (own_N t0) r5 (own_N ib) (own_N ib) wb8) [(.ref r0), (.ref r0)])) rfl rfl (hb hby d7_288)
                  refine own_go (B := T1072.setTop (mkF m 291 (LS_RRRIIRIIW r0 r1 r2 (own_N f0) (own_N t0) r5 (own_N ib) (own_N ib) wb8) [(.ref qb), (.ref r0)])) (fun t k => st1072 _ k) ?_
                  refine own_go (B := T1072.setTop (mkF m 303 (LS_RRRIIRIIW r0 r1 r2 (own_N f0) (own_N t0) r5 (own_N ib) (own_N ib) wb8) [(.int (own_N t0)), (.int (own_N (2 * ib))), (.ref qb), (.ref r0)])) (fun t k => ?_) ?_
                  · refine XS.iload X1072.here hx rfl (hb hby d7_291) rfl ?_
                    refine XS.iconst X1072.here hx rfl (hb hby d7_293) ?_
                    show Steps p.tables e below (T1072.setTop (mkF m 294 (LS_RRRIIRIIW r0 r1 r2 (own_N f0) (own_N t0) r5 (own_N ib) (own_N ib) wb8) [(.int (2 : Int32)), (.int (own_N ib)), (.ref qb), (.ref r0)])) _
                    refine XS.imul X1072.here hx rfl (hb hby d7_294) rfl ?_
                    change Steps p.tables e below (T1072.setTop (mkF m 295 (LS_RRRIIRIIW r0 r1 r2 (own_N f0) (own_N t0) r5 (own_N ib) (own_N ib) wb8) [(.int ((own_N ib) * (2 : Int32))), (.ref qb), (.ref r0)])) _
                    rw [show ((own_N ib) * (2 : Int32)) = (own_N (2 * ib)) from own_N2' (by omega)]
                    refine XS.iload X1072.here hx rfl (hb hby d7_295) rfl ?_
                    refine XS.iload X1072.here hx rfl (hb hby d7_297) rfl ?_
                    show Steps p.tables e below (T1072.setTop (mkF m 299 (LS_RRRIIRIIW r0 r1 r2 (own_N f0) (own_N t0) r5 (own_N ib) (own_N ib) wb8) [(.int (own_N t0)), (.int (own_N ib)), (.int (own_N (2 * ib))), (.ref qb), (.ref r0)])) _
                    refine XS.iadd X1072.here hx rfl (hb hby d7_299) rfl ?_
                    change Steps p.tables e below (T1072.setTop (mkF m 300 (LS_RRRIIRIIW r0 r1 r2 (own_N f0) (own_N t0) r5 (own_N ib) (own_N ib) wb8) [(.int ((own_N ib) + (own_N t0))), (.int (own_N (2 * ib))), (.ref qb), (.ref r0)])) _
                    rw [show ((own_N ib) + (own_N t0)) = (own_N (ib + t0)) from own_Nadd (by omega)]
                    refine XS.iload X1072.here hx rfl (hb hby d7_300) rfl ?_
                    refine XS.isub X1072.here hx rfl (hb hby d7_302) rfl ?_
                    change Steps p.tables e below (T1072.setTop (mkF m 303 (LS_RRRIIRIIW r0 r1 r2 (own_N f0) (own_N t0) r5 (own_N ib) (own_N ib) wb8) [(.int ((own_N (ib + t0)) - (own_N ib))), (.int (own_N (2 * ib))), (.ref qb), (.ref r0)])) _
                    rw [show ((own_N (ib + t0)) - (own_N ib)) = (own_N t0) from (own_Nsub (by omega) (by omega)).trans (congrArg own_N (by omega))]
                    exact k
                  obtain ⟨_, _, ⟨T1073, L1073, k1073, n1073⟩, -, X1073, ⟨Lc1073, hQ1073, l1073, y1073, z1073⟩, st1073⟩ := Jvm.LawKit.callS X1072 hx (y := (⟨"java/lang/Math", "max", "(II)I"⟩ : MethodName)) hown (mvT hZ (hw _ (List.mem_of_getElem? (i := 56) rfl))) (mvT hZ (hw _ (List.mem_of_getElem? (i := 57) rfl))) (mvT hZ (hw _ (List.mem_of_getElem? (i := 52) rfl))) (mvT hZ (hw _ (List.mem_of_getElem? (i := 58) rfl))) (by decide) (backOf (W := 2) (rmmax l Z a0 hw [] (own_N (2 * ib)) (own_N t0) Tb.heap n0 bZ) hZ (hw _ (List.mem_of_getElem? (i := 58) rfl)) (hw _ (List.mem_of_getElem? (i := 52) rfl)) (by decide) (by decide)) (g := (mkF m 303 (LS_RRRIIRIIW r0 r1 r2 (own_N f0) (own_N t0) r5 (own_N ib) (own_N ib) wb8) [(.int (own_N t0)), (.int (own_N (2 * ib))), (.ref qb), (.ref r0)])) rfl (by rw [hml]; rfl) (argsL := [(.int (own_N (2 * ib))), (.int (own_N t0))]) (rest := [(.ref qb), (.ref r0)]) (lenOf pd__II_I rfl) rfl (by show 2 * 0 + _ ≤ _; exact Nat.le_of_eq rfl) (hb hby d7_303) (fun _ _ => ⟨rfl, e1072, (by decide : 1 + 0 ≤ _), (by decide : 32 + 0 ≤ _)⟩)
                  dsimp only [Pt.U, Pt.locs, Pt.cells, Pt.slots] at X1073 l1073 y1073 z1073 st1073 hQ1073
                  subst l1073 y1073 z1073
                  obtain ⟨rfl, N1073q, e1073⟩ := hQ1073
                  have N1073 := Fr.app Nb N1073q
                  refine own_go (B := T1073.setTop (mkF m 306 (LS_RRRIIRIIW r0 r1 r2 (own_N f0) (own_N t0) r5 (own_N ib) (own_N ib) wb8) [(.int (if (own_N (2 * ib)) < (own_N t0) then (own_N t0) else (own_N (2 * ib)))), (.ref qb), (.ref r0)])) (fun t k => st1073 _ k) ?_
                  have hmx : 2 * ib ≤ max (2 * ib) t0 ∧ t0 ≤ max (2 * ib) t0 ∧ max (2 * ib) t0 ≤ 30 := by omega
                  refine own_go (B := T1073.setTop (mkF m 309 (LS_RRRIIRIIW r0 r1 r2 (own_N f0) (own_N t0) r5 (own_N ib) (own_N ib) wb8) [(.int (8192 : Int32)), (.int (own_N (max (2 * ib) t0))), (.ref qb), (.ref r0)])) (fun t k => ?_) ?_
                  · change Steps p.tables e below (T1073.setTop (mkF m 306 (LS_RRRIIRIIW r0 r1 r2 (own_N f0) (own_N t0) r5 (own_N ib) (own_N ib) wb8) [(.int (if (own_N (2 * ib)) < (own_N t0) then (own_N t0) else (own_N (2 * ib)))), (.ref qb), (.ref r0)])) _
                    rw [show (if (own_N (2 * ib)) < (own_N t0) then (own_N t0) else (own_N (2 * ib))) = (own_N (max (2 * ib) t0)) from own_Nmax (by omega) (by omega)]
                    refine XS.sipush X1073.here hx rfl (hb hby d7_306) ?_
                    exact k
                  obtain ⟨_, _, ⟨T1074, L1074, k1074, n1074⟩, -, X1074, ⟨Lc1074, hQ1074, l1074, y1074, z1074⟩, st1074⟩ := Jvm.LawKit.callS X1073 hx (y := (⟨"java/lang/Math", "min", "(II)I"⟩ : MethodName)) hown (mvT hZ (hw _ (List.mem_of_getElem? (i := 50) rfl))) (mvT hZ (hw _ (List.mem_of_getElem? (i := 51) rfl))) (mvT hZ (hw _ (List.mem_of_getElem? (i := 52) rfl))) (mvT hZ (hw _ (List.mem_of_getElem? (i := 53) rfl))) (by decide) (backOf (W := 2) (rmmin l Z a0 hw [] (own_N (max (2 * ib) t0)) (8192 : Int32) Tb.heap n0 bZ) hZ (hw _ (List.mem_of_getElem? (i := 53) rfl)) (hw _ (List.mem_of_getElem? (i := 52) rfl)) (by decide) (by decide)) (g := (mkF m 309 (LS_RRRIIRIIW r0 r1 r2 (own_N f0) (own_N t0) r5 (own_N ib) (own_N ib) wb8) [(.int (8192 : Int32)), (.int (own_N (max (2 * ib) t0))), (.ref qb), (.ref r0)])) rfl (by rw [hml]; rfl) (argsL := [(.int (own_N (max (2 * ib) t0))), (.int (8192 : Int32))]) (rest := [(.ref qb), (.ref r0)]) (lenOf pd__II_I rfl) rfl (by show 2 * 0 + _ ≤ _; exact Nat.le_of_eq rfl) (hb hby d7_309) (fun _ _ => ⟨rfl, e1073, (by decide : 1 + 0 ≤ _), (by decide : 32 + 0 ≤ _)⟩)
                  dsimp only [Pt.U, Pt.locs, Pt.cells, Pt.slots] at X1074 l1074 y1074 z1074 st1074 hQ1074
                  subst l1074 y1074 z1074
                  obtain ⟨rfl, N1074q, e1074⟩ := hQ1074
                  have N1074 := Fr.app N1073 N1074q
                  refine own_go (B := T1074.setTop (mkF m 312 (LS_RRRIIRIIW r0 r1 r2 (own_N f0) (own_N t0) r5 (own_N ib) (own_N ib) wb8) [(.int (if (8192 : Int32) < (own_N (max (2 * ib) t0)) then (8192 : Int32) else (own_N (max (2 * ib) t0)))), (.ref qb), (.ref r0)])) (fun t k => st1074 _ k) ?_
                  refine own_go (B := T1074.setTop (mkF m 312 (LS_RRRIIRIIW r0 r1 r2 (own_N f0) (own_N t0) r5 (own_N ib) (own_N ib) wb8) [(.int (own_N (max (2 * ib) t0))), (.ref qb), (.ref r0)])) (fun t k => ?_) ?_
                  · change Steps p.tables e below (T1074.setTop (mkF m 312 (LS_RRRIIRIIW r0 r1 r2 (own_N f0) (own_N t0) r5 (own_N ib) (own_N ib) wb8) [(.int (if (8192 : Int32) < (own_N (max (2 * ib) t0)) then (8192 : Int32) else (own_N (max (2 * ib) t0)))), (.ref qb), (.ref r0)])) _
                    rw [show (if (8192 : Int32) < (own_N (max (2 * ib) t0)) then (8192 : Int32) else (own_N (max (2 * ib) t0))) = (own_N (max (2 * ib) t0)) from (own_Nmin (u := 8192) (by omega) (by decide)).trans (congrArg own_N (by omega))]
                    exact k
                  obtain ⟨_, _, ⟨T1075, L1075, k1075, n1075⟩, -, X1075, ⟨Lc1075, hQ1075, l1075, y1075, z1075⟩, st1075⟩ := Jvm.LawKit.callS X1074 hx (y := (⟨"java/util/Arrays", "copyOf", "([II)[I"⟩ : MethodName)) hown (mvT hZ (hw _ (List.mem_of_getElem? (i := 73) rfl))) (mvT hZ (hw _ (List.mem_of_getElem? (i := 74) rfl))) (mvT hZ (hw _ (List.mem_of_getElem? (i := 75) rfl))) (mvT hZ (hw _ (List.mem_of_getElem? (i := 76) rfl))) (by decide) (backOf (W := 1) (rmcpy l Z a0 hw [] qb kqb pfb zpb ((max (2 * ib) t0)) Tb.heap n0 bZ bVq (by omega) (by omega)) hZ (hw _ (List.mem_of_getElem? (i := 76) rfl)) (hw _ (List.mem_of_getElem? (i := 75) rfl)) (by decide) (by decide)) (g := (mkF m 312 (LS_RRRIIRIIW r0 r1 r2 (own_N f0) (own_N t0) r5 (own_N ib) (own_N ib) wb8) [(.int (own_N (max (2 * ib) t0))), (.ref qb), (.ref r0)])) rfl (by rw [hml]; rfl) (argsL := [(.ref qb), (.int (own_N (max (2 * ib) t0)))]) (rest := [(.ref r0)]) (lenOf pd___II__I rfl) rfl (by show 2 * 0 + _ ≤ _; exact Nat.le_of_eq rfl) (hb hby d7_312) (fun _ _ => ⟨rfl, e1074, (by decide : 1 + 1 ≤ _), (by decide : 32 + 32 ≤ _)⟩)
                  dsimp only [Pt.U, Pt.locs, Pt.cells, Pt.slots] at X1075 l1075 y1075 z1075 st1075 hQ1075
                  subst l1075 y1075 z1075
                  obtain ⟨o1075, ko1075, rfl, N1075q, K1075, hfr1075, Eo1075, Vo1075⟩ := hQ1075
                  have N1075 := Fr.app N1074 N1075q
                  have g_o1075 : n0 ≤ o1075 := Nat.le_trans bZ hfr1075
                  have sz_o1075 : h0.size ≤ o1075 := Nat.le_trans bK.1 hfr1075
                  refine own_go (B := T1075.setTop (mkF m 315 (LS_RRRIIRIIW r0 r1 r2 (own_N f0) (own_N t0) r5 (own_N ib) (own_N ib) wb8) [(.ref o1075), (.ref r0)])) (fun t k => st1075 _ k) ?_
                  have bE_v1076 := bE.keep K1075
                  have bF_page_v1077 := bF_page.keep K1075 nin0
                  obtain ⟨T1078, h1078, X1078, e1078, W1078, st1078⟩ := putF X1075 hx hZ hown (host := "") (Or.inl (hw _ (List.mem_of_getElem? (i := 35) rfl))) Via.refl rfl bF_page_v1077 bE_v1076 (Or.inl (hw _ (List.mem_of_getElem? (i := 36) rfl))) (hw _ (List.mem_of_getElem? (i := 17) rfl)) (ty := (.array .int)) (by decide) rfl rfl (g := (mkF m 315 (LS_RRRIIRIIW r0 r1 r2 (own_N f0) (own_N t0) r5 (own_N ib) (own_N ib) wb8) [(.ref o1075), (.ref r0)])) rfl rfl (hb hby d7_315)
                  have N1078 := Fr.snoc X1078 N1075 g_r0
                  have Fw1078 := bF_page_v1077.same W1078
                  refine own_go (B := T1078.setTop (mkF m 318 (LS_RRRIIRIIW r0 r1 r2 (own_N f0) (own_N t0) r5 (own_N ib) (own_N ib) wb8) [])) (fun t k => st1078 _ k) ?_
                  have bF_pages_v1079 := bF_pages.keep K1075 nin0
                  have bF_pages_v1080 := bF_pages_v1079.other W1078 (Or.inr (slot_ne (Or.inl (hw _ (List.mem_of_getElem? (i := 34) rfl))) (Or.inl (hw _ (List.mem_of_getElem? (i := 36) rfl))) (by decide) (t := (.array (.array .int))) (t' := (.array .int)) (by decide) (by decide)))
                  refine own_go (B := T1078.setTop (mkF m 319 (LS_RRRIIRIIW r0 r1 r2 (own_N f0) (own_N t0) r5 (own_N ib) (own_N ib) wb8) [(.ref r0)])) (fun t k => ?_) ?_
                  · refine XS.aloadN X1078.here hx rfl (hb hby d7_318) rfl rfl ?_
                    exact k
                  obtain ⟨T1081, X1081, e1081, st1081⟩ := getF X1078 hx hZ hown (host := "") (Or.inl (hw _ (List.mem_of_getElem? (i := 33) rfl))) Via.refl e1078 bF_pages_v1080 (g := (mkF m 319 (LS_RRRIIRIIW r0 r1 r2 (own_N f0) (own_N t0) r5 (own_N ib) (own_N ib) wb8) [(.ref r0)])) rfl rfl (hb hby d7_319)
                  refine own_go (B := T1081.setTop (mkF m 322 (LS_RRRIIRIIW r0 r1 r2 (own_N f0) (own_N t0) r5 (own_N ib) (own_N ib) wb8) [(.ref pg)])) (fun t k => st1081 _ k) ?_
                  refine own_go (B := T1081.setTop (mkF m 324 (LS_RRRIIRIIW r0 r1 r2 (own_N f0) (own_N t0) r5 (own_N ib) (own_N ib) wb8) [(.ref r0), (.int (0 : Int32)), (.ref pg)])) (fun t k => ?_) ?_
                  · refine XS.iconst X1081.here hx rfl (hb hby d7_322) ?_
                    refine XS.aloadN X1081.here hx rfl (hb hby d7_323) rfl rfl ?_
                    exact k
                  obtain ⟨T1082, X1082, e1082, st1082⟩ := getF X1081 hx hZ hown (host := "") (Or.inl (hw _ (List.mem_of_getElem? (i := 35) rfl))) Via.refl e1081 Fw1078 (g := (mkF m 324 (LS_RRRIIRIIW r0 r1 r2 (own_N f0) (own_N t0) r5 (own_N ib) (own_N ib) wb8) [(.ref r0), (.int (0 : Int32)), (.ref pg)])) rfl rfl (hb hby d7_324)
                  refine own_go (B := T1082.setTop (mkF m 327 (LS_RRRIIRIIW r0 r1 r2 (own_N f0) (own_N t0) r5 (own_N ib) (own_N ib) wb8) [(.ref o1075), (.int (0 : Int32)), (.ref pg)])) (fun t k => st1082 _ k) ?_
                  have bVg_v1084 := bVg.keep K1075 nin0
                  have ne1086 : r0 ≠ pg := Exa.neArv bE_v1076 bVg_v1084 (hw _ (List.mem_of_getElem? (i := 17) rfl))
                  have bVg_v1085 := bVg_v1084.other W1078 (Ne.symm ne1086)
                  obtain ⟨cl1083, Ar1083, qa1083, Sa1083, Na1083, Ha1083, Ga1083⟩ := id bVg_v1085
                  have hin1087 : ¬ ((0 : Int32) < 0 ∨ cl1083.slots.size ≤ ((0 : Int32)).toNatClampNeg) := inb_of Sa1083 ⟨by decide, by decide⟩
                  have Eo1075_v1088 := Eo1075.wr W1078
                  obtain ⟨T1087, h1087, X1087, e1087, W1087, st1087⟩ := stR X1082 hx hZ e1082 Ar1083 (j := (0 : Int32)) hin1087 rfl (Sto.ofVA Ar1083 qa1083 Og (Ins.self Eo1075_v1088)) (g := (mkF m 327 (LS_RRRIIRIIW r0 r1 r2 (own_N f0) (own_N t0) r5 (own_N ib) (own_N ib) wb8) [(.ref o1075), (.int (0 : Int32)), (.ref pg)])) rfl rfl (hb hby d7_327)
                  have N1087 := Fr.snoc X1087 N1078 g_pg
                  have V1087 : Arv Z h1087 pg kg (.array .int) (1 : Int32) [(.ref o1075)] .null := Arv.set Ar1083 qa1083 Sa1083 Na1083 Ha1083 Ga1083 rfl W1087 0 rfl (Nat.le_of_ble_eq_true rfl)
                  refine own_go (B := T1087.setTop (mkF m 328 (LS_RRRIIRIIW r0 r1 r2 (own_N f0) (own_N t0) r5 (own_N ib) (own_N ib) wb8) [])) (fun t k => st1087 _ k) ?_
                  have Fw1078_v1089 := Fw1078.other W1087 (Or.inl ne1086)
                  refine own_go (B := T1087.setTop (mkF m 334 (LS_RRRIIRIIW r0 r1 r2 (own_N f0) (own_N t0) r5 (own_N ib) (own_N ib) wb8) [(.ref r0), (.int (own_N (t0 - ib)))])) (fun t k => ?_) ?_
                  · refine XS.iload X1087.here hx rfl (hb hby d7_328) rfl ?_
                    refine XS.iload X1087.here hx rfl (hb hby d7_330) rfl ?_
                    show Steps p.tables e below (T1087.setTop (mkF m 332 (LS_RRRIIRIIW r0 r1 r2 (own_N f0) (own_N t0) r5 (own_N ib) (own_N ib) wb8) [(.int (own_N ib)), (.int (own_N t0))])) _
                    refine XS.isub X1087.here hx rfl (hb hby d7_332) rfl ?_
                    change Steps p.tables e below (T1087.setTop (mkF m 333 (LS_RRRIIRIIW r0 r1 r2 (own_N f0) (own_N t0) r5 (own_N ib) (own_N ib) wb8) [(.int ((own_N t0) - (own_N ib)))])) _
                    rw [show ((own_N t0) - (own_N ib)) = (own_N (t0 - ib)) from own_Nsub (by omega) (by omega)]
                    refine XS.aloadN X1087.here hx rfl (hb hby d7_333) rfl rfl ?_
                    exact k
                  obtain ⟨T1090, X1090, e1090, st1090⟩ := getF X1087 hx hZ hown (host := "") (Or.inl (hw _ (List.mem_of_getElem? (i := 35) rfl))) Via.refl e1087 Fw1078_v1089 (g := (mkF m 334 (LS_RRRIIRIIW r0 r1 r2 (own_N f0) (own_N t0) r5 (own_N ib) (own_N ib) wb8) [(.ref r0), (.int (own_N (t0 - ib)))])) rfl rfl (hb hby d7_334)
                  refine own_go (B := T1090.setTop (mkF m 337 (LS_RRRIIRIIW r0 r1 r2 (own_N f0) (own_N t0) r5 (own_N ib) (own_N ib) wb8) [(.ref o1075), (.int (own_N (t0 - ib)))])) (fun t k => st1090 _ k) ?_
                  have ne1093 : o1075 ≠ r0 := Exa.ne Eo1075 bE_v1076 (by decide)
                  have Vo1075_v1092 := Vo1075.other W1078 ne1093
                  have ne1095 : o1075 ≠ pg := own_neT Vo1075 bVg_v1084 (by decide)
                  have Vo1075_v1094 := Vo1075_v1092.other W1087 ne1095
                  obtain ⟨cl1091, Ar1091, qa1091, Sa1091, Na1091, Ha1091, Ga1091⟩ := id Vo1075_v1094
                  refine own_go (B := T1090.setTop (mkF m 341 (LS_RRRIIRIIW r0 r1 r2 (own_N f0) (own_N t0) r5 (own_N ib) (own_N ib) wb8) [(.int (own_N ((max (2 * ib) t0) - ib))), (.int (own_N (t0 - ib)))])) (fun t k => ?_) ?_
                  · refine X1090.arraylength hx (by rw [e1090]; exact Ar1091.1) (State.isArrayOf_alike hZ.alike Ar1091.2.1) (g := (mkF m 337 (LS_RRRIIRIIW r0 r1 r2 (own_N f0) (own_N t0) r5 (own_N ib) (own_N ib) wb8) [(.ref o1075), (.int (own_N (t0 - ib)))])) rfl rfl (hb hby d7_337) _ ?_
                    rw [len_of Sa1091 Na1091]
                    refine XS.iload X1090.here hx rfl (hb hby d7_338) rfl ?_
                    show Steps p.tables e below (T1090.setTop (mkF m 340 (LS_RRRIIRIIW r0 r1 r2 (own_N f0) (own_N t0) r5 (own_N ib) (own_N ib) wb8) [(.int (own_N ib)), (.int (own_N (max (2 * ib) t0))), (.int (own_N (t0 - ib)))])) _
                    refine XS.isub X1090.here hx rfl (hb hby d7_340) rfl ?_
                    change Steps p.tables e below (T1090.setTop (mkF m 341 (LS_RRRIIRIIW r0 r1 r2 (own_N f0) (own_N t0) r5 (own_N ib) (own_N ib) wb8) [(.int ((own_N (max (2 * ib) t0)) - (own_N ib))), (.int (own_N (t0 - ib)))])) _
                    rw [show ((own_N (max (2 * ib) t0)) - (own_N ib)) = (own_N ((max (2 * ib) t0) - ib)) from own_Nsub (by omega) (by omega)]
                    exact k
                  have bZ_v1096 := Nat.le_trans bZ K1075.1
                  have bZ_v1097 := Nat.le_trans bZ_v1096 (Nat.le_of_eq W1078.size.symm)
                  have bZ_v1098 := Nat.le_trans bZ_v1097 (Nat.le_of_eq W1087.size.symm)
                  obtain ⟨_, _, ⟨T1099, L1099, k1099, n1099⟩, -, X1099, ⟨Lc1099, hQ1099, l1099, y1099, z1099⟩, st1099⟩ := Jvm.LawKit.callS X1090 hx (y := (⟨"java/lang/Math", "min", "(II)I"⟩ : MethodName)) hown (mvT hZ (hw _ (List.mem_of_getElem? (i := 50) rfl))) (mvT hZ (hw _ (List.mem_of_getElem? (i := 51) rfl))) (mvT hZ (hw _ (List.mem_of_getElem? (i := 52) rfl))) (mvT hZ (hw _ (List.mem_of_getElem? (i := 53) rfl))) (by decide) (backOf (W := 0) (rmmin l Z a0 hw [] (own_N (t0 - ib)) (own_N ((max (2 * ib) t0) - ib)) h1087 n0 bZ_v1098) hZ (hw _ (List.mem_of_getElem? (i := 53) rfl)) (hw _ (List.mem_of_getElem? (i := 52) rfl)) (by decide) (by decide)) (g := (mkF m 341 (LS_RRRIIRIIW r0 r1 r2 (own_N f0) (own_N t0) r5 (own_N ib) (own_N ib) wb8) [(.int (own_N ((max (2 * ib) t0) - ib))), (.int (own_N (t0 - ib)))])) rfl (by rw [hml]; rfl) (argsL := [(.int (own_N (t0 - ib))), (.int (own_N ((max (2 * ib) t0) - ib)))]) (rest := []) (lenOf pd__II_I rfl) rfl (by show 2 * 0 + _ ≤ _; exact Nat.le_of_eq rfl) (hb hby d7_341) (fun _ _ => ⟨rfl, e1090, (by decide : 2 + 0 ≤ _), (by decide : 64 + 0 ≤ _)⟩)
                  dsimp only [Pt.U, Pt.locs, Pt.cells, Pt.slots] at X1099 l1099 y1099 z1099 st1099 hQ1099
                  subst l1099 y1099 z1099
                  obtain ⟨rfl, N1099q, e1099⟩ := hQ1099
                  have N1099 := Fr.app N1087 N1099q
                  refine own_go (B := T1099.setTop (mkF m 344 (LS_RRRIIRIIW r0 r1 r2 (own_N f0) (own_N t0) r5 (own_N ib) (own_N ib) wb8) [(.int (if (own_N ((max (2 * ib) t0) - ib)) < (own_N (t0 - ib)) then (own_N ((max (2 * ib) t0) - ib)) else (own_N (t0 - ib))))])) (fun t k => st1099 _ k) ?_
                  refine own_go (B := T1099.setTop (mkF m 350 (LS_RRRIIRIII r0 r1 r2 (own_N f0) (own_N t0) r5 (own_N ib) (own_N ib) (own_N (t0 - ib))) [(.ref r0), (.int (own_N ib)), (.ref r2)])) (fun t k => ?_) ?_
                  · change Steps p.tables e below (T1099.setTop (mkF m 344 (LS_RRRIIRIIW r0 r1 r2 (own_N f0) (own_N t0) r5 (own_N ib) (own_N ib) wb8) [(.int (if (own_N ((max (2 * ib) t0) - ib)) < (own_N (t0 - ib)) then (own_N ((max (2 * ib) t0) - ib)) else (own_N (t0 - ib))))])) _
                    rw [show (if (own_N ((max (2 * ib) t0) - ib)) < (own_N (t0 - ib)) then (own_N ((max (2 * ib) t0) - ib)) else (own_N (t0 - ib))) = (own_N (t0 - ib)) from (own_Nmin (by omega) (by omega)).trans (congrArg own_N (by omega))]
                    refine XS.istore X1099.here hx rfl (hb hby d7_344) rfl (l' := (LS_RRRIIRIII r0 r1 r2 (own_N f0) (own_N t0) r5 (own_N ib) (own_N ib) (own_N (t0 - ib)))) (by rcases hwb8 with rfl | ⟨_, rfl⟩ <;> rfl) ?_
                    refine XS.aloadN X1099.here hx rfl (hb hby d7_346) rfl rfl ?_
                    show Steps p.tables e below (T1099.setTop (mkF m 347 (LS_RRRIIRIII r0 r1 r2 (own_N f0) (own_N t0) r5 (own_N ib) (own_N ib) (own_N (t0 - ib))) [(.ref r2)])) _
                    refine XS.iload X1099.here hx rfl (hb hby d7_347) rfl ?_
                    refine XS.aloadN X1099.here hx rfl (hb hby d7_349) rfl rfl ?_
                    exact k
                  obtain ⟨T1100, X1100, e1100, st1100⟩ := getF X1099 hx hZ hown (host := "") (Or.inl (hw _ (List.mem_of_getElem? (i := 35) rfl))) Via.refl e1099 Fw1078_v1089 (g := (mkF m 350 (LS_RRRIIRIII r0 r1 r2 (own_N f0) (own_N t0) r5 (own_N ib) (own_N ib) (own_N (t0 - ib))) [(.ref r0), (.int (own_N ib)), (.ref r2)])) rfl rfl (hb hby d7_350)
                  refine own_go (B := T1100.setTop (mkF m 353 (LS_RRRIIRIII r0 r1 r2 (own_N f0) (own_N t0) r5 (own_N ib) (own_N ib) (own_N (t0 - ib))) [(.ref o1075), (.int (own_N ib)), (.ref r2)])) (fun t k => st1100 _ k) ?_
                  refine own_go (B := T1100.setTop (mkF m 357 (LS_RRRIIRIII r0 r1 r2 (own_N f0) (own_N t0) r5 (own_N ib) (own_N ib) (own_N (t0 - ib))) [(.int (own_N (t0 - ib))), (.int (own_N ib)), (.ref o1075), (.int (own_N ib)), (.ref r2)])) (fun t k => ?_) ?_
                  · refine XS.iload X1100.here hx rfl (hb hby d7_353) rfl ?_
                    refine XS.iload X1100.here hx rfl (hb hby d7_355) rfl ?_
                    exact k
                  have bVp_v1102 := bVp.keep K1075 nin0
                  have ne1104 : r0 ≠ r2 := Exa.neArv bE_v1076 bVp_v1102 (hw _ (List.mem_of_getElem? (i := 17) rfl))
                  have bVp_v1103 := bVp_v1102.other W1078 (Ne.symm ne1104)
                  have ne1106 : r2 ≠ pg := own_neT bVp bVg (by decide)
                  have bVp_v1105 := bVp_v1103.other W1087 ne1106
                  have Vo1075_v1107 := Vo1075_v1092.other W1087 ne1095
                  obtain ⟨T1101, h1101, L1101, X1101, e1101, N1101, K1101, V1101, st1101⟩ := own_cpA (sp := ib) (dp := ib) (nn := (t0 - ib)) X1100 hx hZ hown (hw _ (List.mem_of_getElem? (i := 59) rfl)) (hw _ (List.mem_of_getElem? (i := 62) rfl)) (hw _ (List.mem_of_getElem? (i := 60) rfl)) (hw _ (List.mem_of_getElem? (i := 61) rfl)) e1100 bVp_v1105 Vo1075_v1107 (by omega) (by omega) (by omega) (by omega) N1099 g_o1075 (g := (mkF m 357 (LS_RRRIIRIII r0 r1 r2 (own_N f0) (own_N t0) r5 (own_N ib) (own_N ib) (own_N (t0 - ib))) [(.int (own_N (t0 - ib))), (.int (own_N ib)), (.ref o1075), (.int (own_N ib)), (.ref r2)])) rfl (by rw [hml]; rfl) rfl (hb hby d7_357) (by decide) (W := 0) (by show 2 * 0 + _ ≤ _; exact Nat.le_of_eq rfl) (by decide)
                  refine own_go (B := T1101.setTop (mkF m 360 (LS_RRRIIRIII r0 r1 r2 (own_N f0) (own_N t0) r5 (own_N ib) (own_N ib) (own_N (t0 - ib))) [])) (fun t k => st1101 _ k) ?_
                  have bF_positionCount_v1108 := bF_positionCount.keep K1075 nin0
                  have bF_positionCount_v1109 := bF_positionCount_v1108.other W1078 (Or.inr (slot_ne (Or.inl (hw _ (List.mem_of_getElem? (i := 45) rfl))) (Or.inl (hw _ (List.mem_of_getElem? (i := 36) rfl))) (by decide) (t := .int) (t' := (.array .int)) (by decide) (by decide)))
                  have bF_positionCount_v1110 := bF_positionCount_v1109.other W1087 (Or.inl ne1086)
                  have bF_positionCount_v1111 := bF_positionCount_v1110.keep K1101 (ninS (Ne.symm ne1093) nin0)
                  refine own_go (B := T1101.setTop (mkF m 362 (LS_RRRIIRIII r0 r1 r2 (own_N f0) (own_N t0) r5 (own_N ib) (own_N ib) (own_N (t0 - ib))) [(.ref r0), (.ref r0)])) (fun t k => ?_) ?_
                  · refine XS.aloadN X1101.here hx rfl (hb hby d7_360) rfl rfl ?_
                    refine XS.dup X1101.here hx rfl (hb hby d7_361) rfl rfl ?_
                    exact k
                  obtain ⟨T1112, X1112, e1112, st1112⟩ := getF X1101 hx hZ hown (host := "") (Or.inl (hw _ (List.mem_of_getElem? (i := 44) rfl))) Via.refl e1101 bF_positionCount_v1111 (g := (mkF m 362 (LS_RRRIIRIII r0 r1 r2 (own_N f0) (own_N t0) r5 (own_N ib) (own_N ib) (own_N (t0 - ib))) [(.ref r0), (.ref r0)])) rfl rfl (hb hby d7_362)
                  refine own_go (B := T1112.setTop (mkF m 365 (LS_RRRIIRIII r0 r1 r2 (own_N f0) (own_N t0) r5 (own_N ib) (own_N ib) (own_N (t0 - ib))) [(.int (own_N ib)), (.ref r0)])) (fun t k => st1112 _ k) ?_
                  refine own_go (B := T1112.setTop (mkF m 368 (LS_RRRIIRIII r0 r1 r2 (own_N f0) (own_N t0) r5 (own_N ib) (own_N ib) (own_N (t0 - ib))) [(.int (own_N t0)), (.ref r0)])) (fun t k => ?_) ?_
                  · refine XS.iload X1112.here hx rfl (hb hby d7_365) rfl ?_
                    refine XS.iadd X1112.here hx rfl (hb hby d7_367) rfl ?_
                    change Steps p.tables e below (T1112.setTop (mkF m 368 (LS_RRRIIRIII r0 r1 r2 (own_N f0) (own_N t0) r5 (own_N ib) (own_N ib) (own_N (t0 - ib))) [(.int ((own_N ib) + (own_N (t0 - ib)))), (.ref r0)])) _
                    rw [show ((own_N ib) + (own_N (t0 - ib))) = (own_N t0) from (own_Nadd (by omega)).trans (congrArg own_N (by omega))]
                    exact k
                  have bE_v1113 := bE_v1076.wr W1078
                  have bE_v1114 := bE_v1113.wr W1087
                  have bE_v1115 := bE_v1114.keep K1101
                  obtain ⟨T1116, h1116, X1116, e1116, W1116, st1116⟩ := putF X1112 hx hZ hown (host := "") (Or.inl (hw _ (List.mem_of_getElem? (i := 44) rfl))) Via.refl e1112 bF_positionCount_v1111 bE_v1115 (Or.inl (hw _ (List.mem_of_getElem? (i := 45) rfl))) (hw _ (List.mem_of_getElem? (i := 17) rfl)) (ty := .int) (by decide) rfl rfl (g := (mkF m 368 (LS_RRRIIRIII r0 r1 r2 (own_N f0) (own_N t0) r5 (own_N ib) (own_N ib) (own_N (t0 - ib))) [(.int (own_N t0)), (.ref r0)])) rfl rfl (hb hby d7_368)
                  have N1116 := Fr.snoc X1116 N1101 g_r0
                  have Fw1116 := bF_positionCount_v1111.same W1116
                  refine own_go (B := T1116.setTop (mkF m 371 (LS_RRRIIRIII r0 r1 r2 (own_N f0) (own_N t0) r5 (own_N ib) (own_N ib) (own_N (t0 - ib))) [])) (fun t k => st1116 _ k) ?_
                  refine own_go (B := T1116.setTop (mkF m 187 (LS_RRRIIRIII r0 r1 r2 (own_N f0) (own_N t0) r5 (own_N t0) (own_N ib) (own_N (t0 - ib))) [])) (fun t k => ?_) ?_
                  · refine XS.iload X1116.here hx rfl (hb hby d7_371) rfl ?_
                    refine XS.iload X1116.here hx rfl (hb hby d7_373) rfl ?_
                    show Steps p.tables e below (T1116.setTop (mkF m 375 (LS_RRRIIRIII r0 r1 r2 (own_N f0) (own_N t0) r5 (own_N ib) (own_N ib) (own_N (t0 - ib))) [(.int (own_N (t0 - ib))), (.int (own_N ib))])) _
                    refine XS.iadd X1116.here hx rfl (hb hby d7_375) rfl ?_
                    change Steps p.tables e below (T1116.setTop (mkF m 376 (LS_RRRIIRIII r0 r1 r2 (own_N f0) (own_N t0) r5 (own_N ib) (own_N ib) (own_N (t0 - ib))) [(.int ((own_N ib) + (own_N (t0 - ib))))])) _
                    rw [show ((own_N ib) + (own_N (t0 - ib))) = (own_N t0) from (own_Nadd (by omega)).trans (congrArg own_N (by omega))]
                    refine XS.istore X1116.here hx rfl (hb hby d7_376) rfl (l' := (LS_RRRIIRIII r0 r1 r2 (own_N f0) (own_N t0) r5 (own_N t0) (own_N ib) (own_N (t0 - ib)))) rfl ?_
                    refine XS.goto X1116.here hx rfl (pc0 := 378) (pc' := 187) rfl (hb hby d7_378) (by decide) (by decide) ?_
                    exact k
                  have bZ_v1117 := Nat.le_trans bZ_v1098 K1101.1
                  have bZ_v1118 := Nat.le_trans bZ_v1117 (Nat.le_of_eq W1116.size.symm)
                  have bK_v1119 := bK.trans K1075 all0
                  have bK_v1120 := bK_v1119.wr W1078 (Or.inl (List.mem_of_getElem? (i := 0) rfl))
                  have bK_v1121 := bK_v1120.wr W1087 (Or.inl (List.mem_of_getElem? (i := 3) rfl))
                  have bK_v1122 := bK_v1121.trans K1101 (allS (Or.inr sz_o1075) all0)
                  have bK_v1123 := bK_v1122.wr W1116 (Or.inl (List.mem_of_getElem? (i := 0) rfl))
                  have bE_v1124 := bE_v1115.wr W1116
                  have bF_entries_v1125 := bF_entries.keep K1075 nin0
                  have bF_entries_v1126 := bF_entries_v1125.other W1078 (Or.inr (slot_ne (Or.inl (hw _ (List.mem_of_getElem? (i := 26) rfl))) (Or.inl (hw _ (List.mem_of_getElem? (i := 36) rfl))) (by decide) (t := (.array .int)) (t' := (.array .int)) (by decide) (by decide)))
                  have bF_entries_v1127 := bF_entries_v1126.other W1087 (Or.inl ne1086)
                  have bF_entries_v1128 := bF_entries_v1127.keep K1101 (ninS (Ne.symm ne1093) nin0)
                  have bF_entries_v1129 := bF_entries_v1128.other W1116 (Or.inr (slot_ne (Or.inl (hw _ (List.mem_of_getElem? (i := 26) rfl))) (Or.inl (hw _ (List.mem_of_getElem? (i := 45) rfl))) (by decide) (t := (.array .int)) (t' := .int) (by decide) (by decide)))
                  have bF_size_v1130 := bF_size.keep K1075 nin0
                  have bF_size_v1131 := bF_size_v1130.other W1078 (Or.inr (slot_ne (Or.inl (hw _ (List.mem_of_getElem? (i := 47) rfl))) (Or.inl (hw _ (List.mem_of_getElem? (i := 36) rfl))) (by decide) (t := .int) (t' := (.array .int)) (by decide) (by decide)))
                  have bF_size_v1132 := bF_size_v1131.other W1087 (Or.inl ne1086)
                  have bF_size_v1133 := bF_size_v1132.keep K1101 (ninS (Ne.symm ne1093) nin0)
                  have bF_size_v1134 := bF_size_v1133.other W1116 (Or.inr (slot_ne (Or.inl (hw _ (List.mem_of_getElem? (i := 47) rfl))) (Or.inl (hw _ (List.mem_of_getElem? (i := 45) rfl))) (by decide) (t := .int) (t' := .int) (by decide) (by decide)))
                  have bF_lastDoc_v1135 := bF_lastDoc.keep K1075 nin0
                  have bF_lastDoc_v1136 := bF_lastDoc_v1135.other W1078 (Or.inr (slot_ne (Or.inl (hw _ (List.mem_of_getElem? (i := 28) rfl))) (Or.inl (hw _ (List.mem_of_getElem? (i := 36) rfl))) (by decide) (t := .int) (t' := (.array .int)) (by decide) (by decide)))
                  have bF_lastDoc_v1137 := bF_lastDoc_v1136.other W1087 (Or.inl ne1086)
                  have bF_lastDoc_v1138 := bF_lastDoc_v1137.keep K1101 (ninS (Ne.symm ne1093) nin0)
                  have bF_lastDoc_v1139 := bF_lastDoc_v1138.other W1116 (Or.inr (slot_ne (Or.inl (hw _ (List.mem_of_getElem? (i := 28) rfl))) (Or.inl (hw _ (List.mem_of_getElem? (i := 45) rfl))) (by decide) (t := .int) (t' := .int) (by decide) (by decide)))
                  have bF_lastFreq_v1140 := bF_lastFreq.keep K1075 nin0
                  have bF_lastFreq_v1141 := bF_lastFreq_v1140.other W1078 (Or.inr (slot_ne (Or.inl (hw _ (List.mem_of_getElem? (i := 49) rfl))) (Or.inl (hw _ (List.mem_of_getElem? (i := 36) rfl))) (by decide) (t := .int) (t' := (.array .int)) (by decide) (by decide)))
                  have bF_lastFreq_v1142 := bF_lastFreq_v1141.other W1087 (Or.inl ne1086)
                  have bF_lastFreq_v1143 := bF_lastFreq_v1142.keep K1101 (ninS (Ne.symm ne1093) nin0)
                  have bF_lastFreq_v1144 := bF_lastFreq_v1143.other W1116 (Or.inr (slot_ne (Or.inl (hw _ (List.mem_of_getElem? (i := 49) rfl))) (Or.inl (hw _ (List.mem_of_getElem? (i := 45) rfl))) (by decide) (t := .int) (t' := .int) (by decide) (by decide)))
                  have bF_maxFreq_v1145 := bF_maxFreq.keep K1075 nin0
                  have bF_maxFreq_v1146 := bF_maxFreq_v1145.other W1078 (Or.inr (slot_ne (Or.inl (hw _ (List.mem_of_getElem? (i := 55) rfl))) (Or.inl (hw _ (List.mem_of_getElem? (i := 36) rfl))) (by decide) (t := .int) (t' := (.array .int)) (by decide) (by decide)))
                  have bF_maxFreq_v1147 := bF_maxFreq_v1146.other W1087 (Or.inl ne1086)
                  have bF_maxFreq_v1148 := bF_maxFreq_v1147.keep K1101 (ninS (Ne.symm ne1093) nin0)
                  have bF_maxFreq_v1149 := bF_maxFreq_v1148.other W1116 (Or.inr (slot_ne (Or.inl (hw _ (List.mem_of_getElem? (i := 55) rfl))) (Or.inl (hw _ (List.mem_of_getElem? (i := 45) rfl))) (by decide) (t := .int) (t' := .int) (by decide) (by decide)))
                  have bF_shortestLength_v1150 := bF_shortestLength.keep K1075 nin0
                  have bF_shortestLength_v1151 := bF_shortestLength_v1150.other W1078 (Or.inr (slot_ne (Or.inl (hw _ (List.mem_of_getElem? (i := 30) rfl))) (Or.inl (hw _ (List.mem_of_getElem? (i := 36) rfl))) (by decide) (t := .int) (t' := (.array .int)) (by decide) (by decide)))
                  have bF_shortestLength_v1152 := bF_shortestLength_v1151.other W1087 (Or.inl ne1086)
                  have bF_shortestLength_v1153 := bF_shortestLength_v1152.keep K1101 (ninS (Ne.symm ne1093) nin0)
                  have bF_shortestLength_v1154 := bF_shortestLength_v1153.other W1116 (Or.inr (slot_ne (Or.inl (hw _ (List.mem_of_getElem? (i := 30) rfl))) (Or.inl (hw _ (List.mem_of_getElem? (i := 45) rfl))) (by decide) (t := .int) (t' := .int) (by decide) (by decide)))
                  have bF_pages_v1155 := bF_pages_v1080.other W1087 (Or.inl ne1086)
                  have bF_pages_v1156 := bF_pages_v1155.keep K1101 (ninS (Ne.symm ne1093) nin0)
                  have bF_pages_v1157 := bF_pages_v1156.other W1116 (Or.inr (slot_ne (Or.inl (hw _ (List.mem_of_getElem? (i := 34) rfl))) (Or.inl (hw _ (List.mem_of_getElem? (i := 45) rfl))) (by decide) (t := (.array (.array .int))) (t' := .int) (by decide) (by decide)))
                  have Fw1078_v1158 := Fw1078_v1089.keep K1101 (ninS (Ne.symm ne1093) nin0)
                  have Fw1078_v1159 := Fw1078_v1158.other W1116 (Or.inr (slot_ne (Or.inl (hw _ (List.mem_of_getElem? (i := 36) rfl))) (Or.inl (hw _ (List.mem_of_getElem? (i := 45) rfl))) (by decide) (t := (.array .int)) (t' := .int) (by decide) (by decide)))
                  have bVe_v1160 := bVe.keep K1075 nin0
                  have ne1162 : r0 ≠ ea := Exa.neArv bE_v1076 bVe_v1160 (hw _ (List.mem_of_getElem? (i := 17) rfl))
                  have bVe_v1161 := bVe_v1160.other W1078 (Ne.symm ne1162)
                  have ne1164 : ea ≠ pg := own_neT bVe bVg (by decide)
                  have bVe_v1163 := bVe_v1161.other W1087 ne1164
                  have ne1167 : ea ≠ o1075 := Nat.ne_of_lt (Nat.lt_of_lt_of_le bVe.lt hfr1075)
                  have bVe_v1165 := bVe_v1163.keep K1101 (ninS ne1167 nin0)
                  have bVe_v1168 := bVe_v1165.other W1116 (Ne.symm ne1162)
                  have V1101_v1169 := V1101.other W1116 ne1093
                  have Eo1075_v1170 := Eo1075_v1088.wr W1087
                  have Eo1075_v1171 := Eo1075_v1170.keep K1101
                  have Eo1075_v1172 := Eo1075_v1171.wr W1116
                  have V1087_v1173 := V1087.keep K1101 (ninS (Ne.symm ne1095) nin0)
                  have V1087_v1174 := V1087_v1173.other W1116 (Ne.symm ne1086)
                  have bVp_v1175 := bVp_v1102.other W1078 (Ne.symm ne1104)
                  have bVp_v1176 := bVp_v1175.other W1087 ne1106
                  have ne1179 : r2 ≠ o1075 := Nat.ne_of_lt (Nat.lt_of_lt_of_le bVp.lt hfr1075)
                  have bVp_v1177 := bVp_v1176.keep K1101 (ninS ne1179 nin0)
                  have bVp_v1180 := bVp_v1177.other W1116 (Ne.symm ne1104)
                  have bVd_v1181 := bVd.keep K1075 nin0
                  have ne1183 : r0 ≠ r1 := Exa.neArv bE_v1076 bVd_v1181 (hw _ (List.mem_of_getElem? (i := 17) rfl))
                  have bVd_v1182 := bVd_v1181.other W1078 (Ne.symm ne1183)
                  have ne1185 : r1 ≠ pg := own_neT bVd bVg (by decide)
                  have bVd_v1184 := bVd_v1182.other W1087 ne1185
                  have ne1188 : r1 ≠ o1075 := Nat.ne_of_lt (Nat.lt_of_lt_of_le bVd.lt hfr1075)
                  have bVd_v1186 := bVd_v1184.keep K1101 (ninS ne1188 nin0)
                  have bVd_v1189 := bVd_v1186.other W1116 (Ne.symm ne1183)
                  have bVl_v1190 := bVl.keep K1075 nin0
                  have ne1192 : r0 ≠ r5 := Exa.neArv bE_v1076 bVl_v1190 (hw _ (List.mem_of_getElem? (i := 17) rfl))
                  have bVl_v1191 := bVl_v1190.other W1078 (Ne.symm ne1192)
                  have ne1194 : r5 ≠ pg := own_neT bVl bVg (by decide)
                  have bVl_v1193 := bVl_v1191.other W1087 ne1194
                  have ne1196 : r5 ≠ o1075 := own_neT bVl_v1190 Vo1075 (by decide)
                  have bVl_v1195 := bVl_v1193.keep K1101 (ninS ne1196 nin0)
                  have bVl_v1197 := bVl_v1195.other W1116 (Ne.symm ne1192)
                  exact IHb (t0, 1, (.val (.int (own_N ib))), (.val (.int (own_N (t0 - ib))))) _ _ (show t0 - (t0) < t0 - ib by omega) (own_mono X1116 (by simp) (by simp)) N1116 (by rw [e1116]; exact ⟨o1075, ko1075, _, _, bZ_v1118, bK_v1123, bE_v1124, bF_entries_v1129, bF_size_v1134, bF_lastDoc_v1139, bF_lastFreq_v1144, bF_maxFreq_v1149, bF_shortestLength_v1154, Fw1116, bF_pages_v1157, Fw1078_v1159, bVe_v1168, V1101_v1169, Eo1075_v1172, V1087_v1174, bVp_v1180, bVd_v1189, bVl_v1197, (Or.inr sz_o1075), g_o1075, ne1167, (Ne.symm ne1188), (Ne.symm ne1179), ⟨by omega, by omega, by omega⟩, (fun t ht => own_pfcp (own_pfgrow hpb (by omega)) t (by omega)), ⟨hft, Nat.le_refl _⟩, Or.inr ⟨rfl, rfl⟩, Or.inr ⟨_, rfl⟩, Or.inr ⟨_, rfl⟩⟩)
                · have hbz : ib < zpb := own_ltne hzb.2.1 (by omega) hc283_1071
                  refine own_go (B := T1069.setTop (mkF m 334 (LS_RRRIIRIIW r0 r1 r2 (own_N f0) (own_N t0) r5 (own_N ib) (own_N ib) wb8) [(.ref r0), (.int (own_N (t0 - ib)))])) (fun t k => ?_) ?_
                  · refine XS.icmpYes X1069.here hx rfl (pc0 := 283) (pc' := 328) rfl (hb hby d7_283) rfl (feq hc283_1071).2 (by decide) (by decide) ?_
                    refine XS.iload X1069.here hx rfl (hb hby d7_328) rfl ?_
                    show Steps p.tables e below (T1069.setTop (mkF m 330 (LS_RRRIIRIIW r0 r1 r2 (own_N f0) (own_N t0) r5 (own_N ib) (own_N ib) wb8) [(.int (own_N t0))])) _
                    refine XS.iload X1069.here hx rfl (hb hby d7_330) rfl ?_
                    refine XS.isub X1069.here hx rfl (hb hby d7_332) rfl ?_
                    change Steps p.tables e below (T1069.setTop (mkF m 333 (LS_RRRIIRIIW r0 r1 r2 (own_N f0) (own_N t0) r5 (own_N ib) (own_N ib) wb8) [(.int ((own_N t0) - (own_N ib)))])) _
                    rw [show ((own_N t0) - (own_N ib)) = (own_N (t0 - ib)) from own_Nsub (by omega) (by omega)]
                    refine XS.aloadN X1069.here hx rfl (hb hby d7_333) rfl rfl ?_
                    exact k
                  obtain ⟨T1198, X1198, e1198, st1198⟩ := getF X1069 hx hZ hown (host := "") (Or.inl (hw _ (List.mem_of_getElem? (i := 35) rfl))) Via.refl e1069 bF_page (g := (mkF m 334 (LS_RRRIIRIIW r0 r1 r2 (own_N f0) (own_N t0) r5 (own_N ib) (own_N ib) wb8) [(.ref r0), (.int (own_N (t0 - ib)))])) rfl rfl (hb hby d7_334)
                  refine own_go (B := T1198.setTop (mkF m 337 (LS_RRRIIRIIW r0 r1 r2 (own_N f0) (own_N t0) r5 (own_N ib) (own_N ib) wb8) [(.ref qb), (.int (own_N (t0 - ib)))])) (fun t k => st1198 _ k) ?_
                  obtain ⟨cl1199, Ar1199, qa1199, Sa1199, Na1199, Ha1199, Ga1199⟩ := id bVq
                  refine own_go (B := T1198.setTop (mkF m 341 (LS_RRRIIRIIW r0 r1 r2 (own_N f0) (own_N t0) r5 (own_N ib) (own_N ib) wb8) [(.int (own_N (zpb - ib))), (.int (own_N (t0 - ib)))])) (fun t k => ?_) ?_
                  · refine X1198.arraylength hx (by rw [e1198]; exact Ar1199.1) (State.isArrayOf_alike hZ.alike Ar1199.2.1) (g := (mkF m 337 (LS_RRRIIRIIW r0 r1 r2 (own_N f0) (own_N t0) r5 (own_N ib) (own_N ib) wb8) [(.ref qb), (.int (own_N (t0 - ib)))])) rfl rfl (hb hby d7_337) _ ?_
                    rw [len_of Sa1199 Na1199]
                    refine XS.iload X1198.here hx rfl (hb hby d7_338) rfl ?_
                    show Steps p.tables e below (T1198.setTop (mkF m 340 (LS_RRRIIRIIW r0 r1 r2 (own_N f0) (own_N t0) r5 (own_N ib) (own_N ib) wb8) [(.int (own_N ib)), (.int (own_N zpb)), (.int (own_N (t0 - ib)))])) _
                    refine XS.isub X1198.here hx rfl (hb hby d7_340) rfl ?_
                    change Steps p.tables e below (T1198.setTop (mkF m 341 (LS_RRRIIRIIW r0 r1 r2 (own_N f0) (own_N t0) r5 (own_N ib) (own_N ib) wb8) [(.int ((own_N zpb) - (own_N ib))), (.int (own_N (t0 - ib)))])) _
                    rw [show ((own_N zpb) - (own_N ib)) = (own_N (zpb - ib)) from own_Nsub (by omega) (by omega)]
                    exact k
                  obtain ⟨_, _, ⟨T1200, L1200, k1200, n1200⟩, -, X1200, ⟨Lc1200, hQ1200, l1200, y1200, z1200⟩, st1200⟩ := Jvm.LawKit.callS X1198 hx (y := (⟨"java/lang/Math", "min", "(II)I"⟩ : MethodName)) hown (mvT hZ (hw _ (List.mem_of_getElem? (i := 50) rfl))) (mvT hZ (hw _ (List.mem_of_getElem? (i := 51) rfl))) (mvT hZ (hw _ (List.mem_of_getElem? (i := 52) rfl))) (mvT hZ (hw _ (List.mem_of_getElem? (i := 53) rfl))) (by decide) (backOf (W := 0) (rmmin l Z a0 hw [] (own_N (t0 - ib)) (own_N (zpb - ib)) Tb.heap n0 bZ) hZ (hw _ (List.mem_of_getElem? (i := 53) rfl)) (hw _ (List.mem_of_getElem? (i := 52) rfl)) (by decide) (by decide)) (g := (mkF m 341 (LS_RRRIIRIIW r0 r1 r2 (own_N f0) (own_N t0) r5 (own_N ib) (own_N ib) wb8) [(.int (own_N (zpb - ib))), (.int (own_N (t0 - ib)))])) rfl (by rw [hml]; rfl) (argsL := [(.int (own_N (t0 - ib))), (.int (own_N (zpb - ib)))]) (rest := []) (lenOf pd__II_I rfl) rfl (by show 2 * 0 + _ ≤ _; exact Nat.le_of_eq rfl) (hb hby d7_341) (fun _ _ => ⟨rfl, e1198, (by decide : 1 + 0 ≤ _), (by decide : 32 + 0 ≤ _)⟩)
                  dsimp only [Pt.U, Pt.locs, Pt.cells, Pt.slots] at X1200 l1200 y1200 z1200 st1200 hQ1200
                  subst l1200 y1200 z1200
                  obtain ⟨rfl, N1200q, e1200⟩ := hQ1200
                  have N1200 := Fr.app Nb N1200q
                  refine own_go (B := T1200.setTop (mkF m 344 (LS_RRRIIRIIW r0 r1 r2 (own_N f0) (own_N t0) r5 (own_N ib) (own_N ib) wb8) [(.int (if (own_N (zpb - ib)) < (own_N (t0 - ib)) then (own_N (zpb - ib)) else (own_N (t0 - ib))))])) (fun t k => st1200 _ k) ?_
                  have hmn : min (t0 - ib) (zpb - ib) ≤ t0 - ib ∧ min (t0 - ib) (zpb - ib) ≤ zpb - ib ∧ 0 < min (t0 - ib) (zpb - ib) := by omega
                  refine own_go (B := T1200.setTop (mkF m 350 (LS_RRRIIRIII r0 r1 r2 (own_N f0) (own_N t0) r5 (own_N ib) (own_N ib) (own_N (min (t0 - ib) (zpb - ib)))) [(.ref r0), (.int (own_N ib)), (.ref r2)])) (fun t k => ?_) ?_
                  · change Steps p.tables e below (T1200.setTop (mkF m 344 (LS_RRRIIRIIW r0 r1 r2 (own_N f0) (own_N t0) r5 (own_N ib) (own_N ib) wb8) [(.int (if (own_N (zpb - ib)) < (own_N (t0 - ib)) then (own_N (zpb - ib)) else (own_N (t0 - ib))))])) _
                    rw [show (if (own_N (zpb - ib)) < (own_N (t0 - ib)) then (own_N (zpb - ib)) else (own_N (t0 - ib))) = (own_N (min (t0 - ib) (zpb - ib))) from own_Nmin (by omega) (by omega)]
                    refine XS.istore X1200.here hx rfl (hb hby d7_344) rfl (l' := (LS_RRRIIRIII r0 r1 r2 (own_N f0) (own_N t0) r5 (own_N ib) (own_N ib) (own_N (min (t0 - ib) (zpb - ib))))) (by rcases hwb8 with rfl | ⟨_, rfl⟩ <;> rfl) ?_
                    refine XS.aloadN X1200.here hx rfl (hb hby d7_346) rfl rfl ?_
                    show Steps p.tables e below (T1200.setTop (mkF m 347 (LS_RRRIIRIII r0 r1 r2 (own_N f0) (own_N t0) r5 (own_N ib) (own_N ib) (own_N (min (t0 - ib) (zpb - ib)))) [(.ref r2)])) _
                    refine XS.iload X1200.here hx rfl (hb hby d7_347) rfl ?_
                    refine XS.aloadN X1200.here hx rfl (hb hby d7_349) rfl rfl ?_
                    exact k
                  obtain ⟨T1201, X1201, e1201, st1201⟩ := getF X1200 hx hZ hown (host := "") (Or.inl (hw _ (List.mem_of_getElem? (i := 35) rfl))) Via.refl e1200 bF_page (g := (mkF m 350 (LS_RRRIIRIII r0 r1 r2 (own_N f0) (own_N t0) r5 (own_N ib) (own_N ib) (own_N (min (t0 - ib) (zpb - ib)))) [(.ref r0), (.int (own_N ib)), (.ref r2)])) rfl rfl (hb hby d7_350)
                  refine own_go (B := T1201.setTop (mkF m 353 (LS_RRRIIRIII r0 r1 r2 (own_N f0) (own_N t0) r5 (own_N ib) (own_N ib) (own_N (min (t0 - ib) (zpb - ib)))) [(.ref qb), (.int (own_N ib)), (.ref r2)])) (fun t k => st1201 _ k) ?_
                  refine own_go (B := T1201.setTop (mkF m 357 (LS_RRRIIRIII r0 r1 r2 (own_N f0) (own_N t0) r5 (own_N ib) (own_N ib) (own_N (min (t0 - ib) (zpb - ib)))) [(.int (own_N (min (t0 - ib) (zpb - ib)))), (.int (own_N ib)), (.ref qb), (.int (own_N ib)), (.ref r2)])) (fun t k => ?_) ?_
                  · refine XS.iload X1201.here hx rfl (hb hby d7_353) rfl ?_
                    refine XS.iload X1201.here hx rfl (hb hby d7_355) rfl ?_
                    exact k
                  obtain ⟨T1202, h1202, L1202, X1202, e1202, N1202, K1202, V1202, st1202⟩ := own_cpA (sp := ib) (dp := ib) (nn := (min (t0 - ib) (zpb - ib))) X1201 hx hZ hown (hw _ (List.mem_of_getElem? (i := 59) rfl)) (hw _ (List.mem_of_getElem? (i := 62) rfl)) (hw _ (List.mem_of_getElem? (i := 60) rfl)) (hw _ (List.mem_of_getElem? (i := 61) rfl)) e1201 bVp bVq (by omega) (by omega) (by omega) (by omega) N1200 g_qb (g := (mkF m 357 (LS_RRRIIRIII r0 r1 r2 (own_N f0) (own_N t0) r5 (own_N ib) (own_N ib) (own_N (min (t0 - ib) (zpb - ib)))) [(.int (own_N (min (t0 - ib) (zpb - ib)))), (.int (own_N ib)), (.ref qb), (.int (own_N ib)), (.ref r2)])) rfl (by rw [hml]; rfl) rfl (hb hby d7_357) (by decide) (W := 0) (by show 2 * 0 + _ ≤ _; exact Nat.le_of_eq rfl) (by decide)
                  refine own_go (B := T1202.setTop (mkF m 360 (LS_RRRIIRIII r0 r1 r2 (own_N f0) (own_N t0) r5 (own_N ib) (own_N ib) (own_N (min (t0 - ib) (zpb - ib)))) [])) (fun t k => st1202 _ k) ?_
                  have ne1204 : r0 ≠ qb := Exa.ne bE bEq (by decide)
                  have bF_positionCount_v1203 := bF_positionCount.keep K1202 (ninS ne1204 nin0)
                  refine own_go (B := T1202.setTop (mkF m 362 (LS_RRRIIRIII r0 r1 r2 (own_N f0) (own_N t0) r5 (own_N ib) (own_N ib) (own_N (min (t0 - ib) (zpb - ib)))) [(.ref r0), (.ref r0)])) (fun t k => ?_) ?_
                  · refine XS.aloadN X1202.here hx rfl (hb hby d7_360) rfl rfl ?_
                    refine XS.dup X1202.here hx rfl (hb hby d7_361) rfl rfl ?_
                    exact k
                  obtain ⟨T1205, X1205, e1205, st1205⟩ := getF X1202 hx hZ hown (host := "") (Or.inl (hw _ (List.mem_of_getElem? (i := 44) rfl))) Via.refl e1202 bF_positionCount_v1203 (g := (mkF m 362 (LS_RRRIIRIII r0 r1 r2 (own_N f0) (own_N t0) r5 (own_N ib) (own_N ib) (own_N (min (t0 - ib) (zpb - ib)))) [(.ref r0), (.ref r0)])) rfl rfl (hb hby d7_362)
                  refine own_go (B := T1205.setTop (mkF m 365 (LS_RRRIIRIII r0 r1 r2 (own_N f0) (own_N t0) r5 (own_N ib) (own_N ib) (own_N (min (t0 - ib) (zpb - ib)))) [(.int (own_N ib)), (.ref r0)])) (fun t k => st1205 _ k) ?_
                  refine own_go (B := T1205.setTop (mkF m 368 (LS_RRRIIRIII r0 r1 r2 (own_N f0) (own_N t0) r5 (own_N ib) (own_N ib) (own_N (min (t0 - ib) (zpb - ib)))) [(.int (own_N (ib + min (t0 - ib) (zpb - ib)))), (.ref r0)])) (fun t k => ?_) ?_
                  · refine XS.iload X1205.here hx rfl (hb hby d7_365) rfl ?_
                    refine XS.iadd X1205.here hx rfl (hb hby d7_367) rfl ?_
                    change Steps p.tables e below (T1205.setTop (mkF m 368 (LS_RRRIIRIII r0 r1 r2 (own_N f0) (own_N t0) r5 (own_N ib) (own_N ib) (own_N (min (t0 - ib) (zpb - ib)))) [(.int ((own_N ib) + (own_N (min (t0 - ib) (zpb - ib))))), (.ref r0)])) _
                    rw [show ((own_N ib) + (own_N (min (t0 - ib) (zpb - ib)))) = (own_N (ib + min (t0 - ib) (zpb - ib))) from own_Nadd (by omega)]
                    exact k
                  have bE_v1206 := bE.keep K1202
                  obtain ⟨T1207, h1207, X1207, e1207, W1207, st1207⟩ := putF X1205 hx hZ hown (host := "") (Or.inl (hw _ (List.mem_of_getElem? (i := 44) rfl))) Via.refl e1205 bF_positionCount_v1203 bE_v1206 (Or.inl (hw _ (List.mem_of_getElem? (i := 45) rfl))) (hw _ (List.mem_of_getElem? (i := 17) rfl)) (ty := .int) (by decide) rfl rfl (g := (mkF m 368 (LS_RRRIIRIII r0 r1 r2 (own_N f0) (own_N t0) r5 (own_N ib) (own_N ib) (own_N (min (t0 - ib) (zpb - ib)))) [(.int (own_N (ib + min (t0 - ib) (zpb - ib)))), (.ref r0)])) rfl rfl (hb hby d7_368)
                  have N1207 := Fr.snoc X1207 N1202 g_r0
                  have Fw1207 := bF_positionCount_v1203.same W1207
                  refine own_go (B := T1207.setTop (mkF m 371 (LS_RRRIIRIII r0 r1 r2 (own_N f0) (own_N t0) r5 (own_N ib) (own_N ib) (own_N (min (t0 - ib) (zpb - ib)))) [])) (fun t k => st1207 _ k) ?_
                  refine own_go (B := T1207.setTop (mkF m 187 (LS_RRRIIRIII r0 r1 r2 (own_N f0) (own_N t0) r5 (own_N (ib + min (t0 - ib) (zpb - ib))) (own_N ib) (own_N (min (t0 - ib) (zpb - ib)))) [])) (fun t k => ?_) ?_
                  · refine XS.iload X1207.here hx rfl (hb hby d7_371) rfl ?_
                    refine XS.iload X1207.here hx rfl (hb hby d7_373) rfl ?_
                    show Steps p.tables e below (T1207.setTop (mkF m 375 (LS_RRRIIRIII r0 r1 r2 (own_N f0) (own_N t0) r5 (own_N ib) (own_N ib) (own_N (min (t0 - ib) (zpb - ib)))) [(.int (own_N (min (t0 - ib) (zpb - ib)))), (.int (own_N ib))])) _
                    refine XS.iadd X1207.here hx rfl (hb hby d7_375) rfl ?_
                    change Steps p.tables e below (T1207.setTop (mkF m 376 (LS_RRRIIRIII r0 r1 r2 (own_N f0) (own_N t0) r5 (own_N ib) (own_N ib) (own_N (min (t0 - ib) (zpb - ib)))) [(.int ((own_N ib) + (own_N (min (t0 - ib) (zpb - ib)))))])) _
                    rw [show ((own_N ib) + (own_N (min (t0 - ib) (zpb - ib)))) = (own_N (ib + min (t0 - ib) (zpb - ib))) from own_Nadd (by omega)]
                    refine XS.istore X1207.here hx rfl (hb hby d7_376) rfl (l' := (LS_RRRIIRIII r0 r1 r2 (own_N f0) (own_N t0) r5 (own_N (ib + min (t0 - ib) (zpb - ib))) (own_N ib) (own_N (min (t0 - ib) (zpb - ib))))) rfl ?_
                    refine XS.goto X1207.here hx rfl (pc0 := 378) (pc' := 187) rfl (hb hby d7_378) (by decide) (by decide) ?_
                    exact k
                  have bZ_v1208 := Nat.le_trans bZ K1202.1
                  have bZ_v1209 := Nat.le_trans bZ_v1208 (Nat.le_of_eq W1207.size.symm)
                  have bK_v1210 := bK.trans K1202 (allS hib all0)
                  have bK_v1211 := bK_v1210.wr W1207 (Or.inl (List.mem_of_getElem? (i := 0) rfl))
                  have bE_v1212 := bE_v1206.wr W1207
                  have bF_entries_v1213 := bF_entries.keep K1202 (ninS ne1204 nin0)
                  have bF_entries_v1214 := bF_entries_v1213.other W1207 (Or.inr (slot_ne (Or.inl (hw _ (List.mem_of_getElem? (i := 26) rfl))) (Or.inl (hw _ (List.mem_of_getElem? (i := 45) rfl))) (by decide) (t := (.array .int)) (t' := .int) (by decide) (by decide)))
                  have bF_size_v1215 := bF_size.keep K1202 (ninS ne1204 nin0)
                  have bF_size_v1216 := bF_size_v1215.other W1207 (Or.inr (slot_ne (Or.inl (hw _ (List.mem_of_getElem? (i := 47) rfl))) (Or.inl (hw _ (List.mem_of_getElem? (i := 45) rfl))) (by decide) (t := .int) (t' := .int) (by decide) (by decide)))
                  have bF_lastDoc_v1217 := bF_lastDoc.keep K1202 (ninS ne1204 nin0)
                  have bF_lastDoc_v1218 := bF_lastDoc_v1217.other W1207 (Or.inr (slot_ne (Or.inl (hw _ (List.mem_of_getElem? (i := 28) rfl))) (Or.inl (hw _ (List.mem_of_getElem? (i := 45) rfl))) (by decide) (t := .int) (t' := .int) (by decide) (by decide)))
                  have bF_lastFreq_v1219 := bF_lastFreq.keep K1202 (ninS ne1204 nin0)
                  have bF_lastFreq_v1220 := bF_lastFreq_v1219.other W1207 (Or.inr (slot_ne (Or.inl (hw _ (List.mem_of_getElem? (i := 49) rfl))) (Or.inl (hw _ (List.mem_of_getElem? (i := 45) rfl))) (by decide) (t := .int) (t' := .int) (by decide) (by decide)))
                  have bF_maxFreq_v1221 := bF_maxFreq.keep K1202 (ninS ne1204 nin0)
                  have bF_maxFreq_v1222 := bF_maxFreq_v1221.other W1207 (Or.inr (slot_ne (Or.inl (hw _ (List.mem_of_getElem? (i := 55) rfl))) (Or.inl (hw _ (List.mem_of_getElem? (i := 45) rfl))) (by decide) (t := .int) (t' := .int) (by decide) (by decide)))
                  have bF_shortestLength_v1223 := bF_shortestLength.keep K1202 (ninS ne1204 nin0)
                  have bF_shortestLength_v1224 := bF_shortestLength_v1223.other W1207 (Or.inr (slot_ne (Or.inl (hw _ (List.mem_of_getElem? (i := 30) rfl))) (Or.inl (hw _ (List.mem_of_getElem? (i := 45) rfl))) (by decide) (t := .int) (t' := .int) (by decide) (by decide)))
                  have bF_pages_v1225 := bF_pages.keep K1202 (ninS ne1204 nin0)
                  have bF_pages_v1226 := bF_pages_v1225.other W1207 (Or.inr (slot_ne (Or.inl (hw _ (List.mem_of_getElem? (i := 34) rfl))) (Or.inl (hw _ (List.mem_of_getElem? (i := 45) rfl))) (by decide) (t := (.array (.array .int))) (t' := .int) (by decide) (by decide)))
                  have bF_page_v1227 := bF_page.keep K1202 (ninS ne1204 nin0)
                  have bF_page_v1228 := bF_page_v1227.other W1207 (Or.inr (slot_ne (Or.inl (hw _ (List.mem_of_getElem? (i := 36) rfl))) (Or.inl (hw _ (List.mem_of_getElem? (i := 45) rfl))) (by decide) (t := (.array .int)) (t' := .int) (by decide) (by decide)))
                  have bVe_v1229 := bVe.keep K1202 (ninS neb nin0)
                  have ne1231 : r0 ≠ ea := Exa.neArv bE_v1206 bVe_v1229 (hw _ (List.mem_of_getElem? (i := 17) rfl))
                  have bVe_v1230 := bVe_v1229.other W1207 (Ne.symm ne1231)
                  have V1202_v1232 := V1202.other W1207 (Ne.symm ne1204)
                  have bEq_v1233 := bEq.keep K1202
                  have bEq_v1234 := bEq_v1233.wr W1207
                  have ne1236 : pg ≠ qb := own_neT bVg bVq (by decide)
                  have bVg_v1235 := bVg.keep K1202 (ninS ne1236 nin0)
                  have ne1238 : r0 ≠ pg := Exa.neArv bE bVg (hw _ (List.mem_of_getElem? (i := 17) rfl))
                  have bVg_v1237 := bVg_v1235.other W1207 (Ne.symm ne1238)
                  have bVp_v1239 := bVp.keep K1202 (ninS (Ne.symm nqb2) nin0)
                  have ne1241 : r0 ≠ r2 := Exa.neArv bE_v1206 bVp_v1239 (hw _ (List.mem_of_getElem? (i := 17) rfl))
                  have bVp_v1240 := bVp_v1239.other W1207 (Ne.symm ne1241)
                  have bVd_v1242 := bVd.keep K1202 (ninS (Ne.symm nqb1) nin0)
                  have ne1244 : r0 ≠ r1 := Exa.neArv bE_v1206 bVd_v1242 (hw _ (List.mem_of_getElem? (i := 17) rfl))
                  have bVd_v1243 := bVd_v1242.other W1207 (Ne.symm ne1244)
                  have ne1246 : r5 ≠ qb := own_neT bVl bVq (by decide)
                  have bVl_v1245 := bVl.keep K1202 (ninS ne1246 nin0)
                  have ne1248 : r0 ≠ r5 := Exa.neArv bE bVl (hw _ (List.mem_of_getElem? (i := 17) rfl))
                  have bVl_v1247 := bVl_v1245.other W1207 (Ne.symm ne1248)
                  exact IHb ((ib + min (t0 - ib) (zpb - ib)), 0, (.val (.int (own_N ib))), (.val (.int (own_N (min (t0 - ib) (zpb - ib)))))) _ _ (show t0 - ((ib + min (t0 - ib) (zpb - ib))) < t0 - ib by omega) (own_mono X1207 (by simp) (by simp)) N1207 (by rw [e1207]; exact ⟨qb, kqb, _, _, bZ_v1209, bK_v1211, bE_v1212, bF_entries_v1214, bF_size_v1216, bF_lastDoc_v1218, bF_lastFreq_v1220, bF_maxFreq_v1222, bF_shortestLength_v1224, Fw1207, bF_pages_v1226, bF_page_v1228, bVe_v1230, V1202_v1232, bEq_v1234, bVg_v1237, bVp_v1240, bVd_v1243, bVl_v1247, hib, g_qb, neb, nqb1, nqb2, ⟨by omega, by omega, by omega⟩, (own_pfcp hpb), ⟨by omega, by omega⟩, Or.inl rfl, Or.inr ⟨_, rfl⟩, Or.inr ⟨_, rfl⟩⟩)
              · refine own_go (B := T1066.setTop (mkF m 279 (LS_RRRIIRIIW r0 r1 r2 (own_N f0) (own_N t0) r5 (own_N ib) (own_N ib) wb8) [(.ref r0), (.int (own_N ib))])) (fun t k => ?_) ?_
                · refine XS.ifYes X1066.here hx rfl (pc0 := 206) (pc' := 276) rfl (hb hby d7_206) rfl ((if0 _ _).trans (feq hc206_1067).2) (by decide) (by decide) ?_
                  refine XS.iload X1066.here hx rfl (hb hby d7_276) rfl ?_
                  show Steps p.tables e below (T1066.setTop (mkF m 278 (LS_RRRIIRIIW r0 r1 r2 (own_N f0) (own_N t0) r5 (own_N ib) (own_N ib) wb8) [(.int (own_N ib))])) _
                  refine XS.aloadN X1066.here hx rfl (hb hby d7_278) rfl rfl ?_
                  exact k
                obtain ⟨T1249, X1249, e1249, st1249⟩ := getF X1066 hx hZ hown (host := "") (Or.inl (hw _ (List.mem_of_getElem? (i := 35) rfl))) Via.refl e1066 bF_page (g := (mkF m 279 (LS_RRRIIRIIW r0 r1 r2 (own_N f0) (own_N t0) r5 (own_N ib) (own_N ib) wb8) [(.ref r0), (.int (own_N ib))])) rfl rfl (hb hby d7_279)
                refine own_go (B := T1249.setTop (mkF m 282 (LS_RRRIIRIIW r0 r1 r2 (own_N f0) (own_N t0) r5 (own_N ib) (own_N ib) wb8) [(.ref qb), (.int (own_N ib))])) (fun t k => st1249 _ k) ?_
                obtain ⟨cl1250, Ar1250, qa1250, Sa1250, Na1250, Ha1250, Ga1250⟩ := id bVq
                refine own_go (B := T1249.setTop (mkF m 283 (LS_RRRIIRIIW r0 r1 r2 (own_N f0) (own_N t0) r5 (own_N ib) (own_N ib) wb8) [(.int (own_N zpb)), (.int (own_N ib))])) (fun t k => ?_) ?_
                · refine X1249.arraylength hx (by rw [e1249]; exact Ar1250.1) (State.isArrayOf_alike hZ.alike Ar1250.2.1) (g := (mkF m 282 (LS_RRRIIRIIW r0 r1 r2 (own_N f0) (own_N t0) r5 (own_N ib) (own_N ib) wb8) [(.ref qb), (.int (own_N ib))])) rfl rfl (hb hby d7_282) _ ?_
                  rw [len_of Sa1250 Na1250]
                  exact k
                by_cases hc283_1251 : (own_N ib) = (own_N zpb)
                · have hbz : ib = zpb := own_eq (by omega) (by omega) hc283_1251
                  refine own_go (B := T1249.setTop (mkF m 288 (LS_RRRIIRIIW r0 r1 r2 (own_N f0) (own_N t0) r5 (own_N ib) (own_N ib) wb8) [(.ref r0), (.ref r0)])) (fun t k => ?_) ?_
                  · refine XS.icmpNo X1249.here hx rfl (hb hby d7_283) rfl (teq hc283_1251).2 ?_
                    refine XS.aloadN X1249.here hx rfl (hb hby d7_286) rfl rfl ?_
                    show Steps p.tables e below (T1249.setTop (mkF m 287 (LS_RRRIIRIIW r0 r1 r2 (own_N f0) (own_N t0) r5 (own_N ib) (own_N ib) wb8) [(.ref r0)])) _
                    refine XS.aloadN X1249.here hx rfl (hb hby d7_287) rfl rfl ?_
                    exact k
                  obtain ⟨T1252, X1252, e1252, st1252⟩ := getF X1249 hx hZ hown (host := "") (Or.inl (hw _ (List.mem_of_getElem? (i := 35) rfl))) Via.refl e1249 bF_page (g := (mkF m 288 (LS_RRRIIRIIW r0 r1 r2 (own_N f0) (own_N t0) r5 (own_N ib) (own_N ib) wb8) [(.ref r0), (.ref r0)])) rfl rfl (hb hby d7_288)
                  refine own_go (B := T1252.setTop (mkF m 291 (LS_RRRIIRIIW r0 r1 r2 (own_N f0) (own_N t0) r5 (own_N ib) (own_N ib) wb8) [(.ref qb), (.ref r0)])) (fun t k => st1252 _ k) ?_
                  refine own_go (B := T1252.setTop (mkF m 303 (LS_RRRIIRIIW r0 r1 r2 (own_N f0) (own_N t0) r5 (own_N ib) (own_N ib) wb8) [(.int (own_N t0)), (.int (own_N (2 * ib))), (.ref qb), (.ref r0)])) (fun t k => ?_) ?_
                  · refine XS.iload X1252.here hx rfl (hb hby d7_291) rfl ?_
                    refine XS.iconst X1252.here hx rfl (hb hby d7_293) ?_
                    show Steps p.tables e below (T1252.setTop (mkF m 294 (LS_RRRIIRIIW r0 r1 r2 (own_N f0) (own_N t0) r5 (own_N ib) (own_N ib) wb8) [(.int (2 : Int32)), (.int (own_N ib)), (.ref qb), (.ref r0)])) _
                    refine XS.imul X1252.here hx rfl (hb hby d7_294) rfl ?_
                    change Steps p.tables e below (T1252.setTop (mkF m 295 (LS_RRRIIRIIW r0 r1 r2 (own_N f0) (own_N t0) r5 (own_N ib) (own_N ib) wb8) [(.int ((own_N ib) * (2 : Int32))), (.ref qb), (.ref r0)])) _
                    rw [show ((own_N ib) * (2 : Int32)) = (own_N (2 * ib)) from own_N2' (by omega)]
                    refine XS.iload X1252.here hx rfl (hb hby d7_295) rfl ?_
                    refine XS.iload X1252.here hx rfl (hb hby d7_297) rfl ?_
                    show Steps p.tables e below (T1252.setTop (mkF m 299 (LS_RRRIIRIIW r0 r1 r2 (own_N f0) (own_N t0) r5 (own_N ib) (own_N ib) wb8) [(.int (own_N t0)), (.int (own_N ib)), (.int (own_N (2 * ib))), (.ref qb), (.ref r0)])) _
                    refine XS.iadd X1252.here hx rfl (hb hby d7_299) rfl ?_
                    change Steps p.tables e below (T1252.setTop (mkF m 300 (LS_RRRIIRIIW r0 r1 r2 (own_N f0) (own_N t0) r5 (own_N ib) (own_N ib) wb8) [(.int ((own_N ib) + (own_N t0))), (.int (own_N (2 * ib))), (.ref qb), (.ref r0)])) _
                    rw [show ((own_N ib) + (own_N t0)) = (own_N (ib + t0)) from own_Nadd (by omega)]
                    refine XS.iload X1252.here hx rfl (hb hby d7_300) rfl ?_
                    refine XS.isub X1252.here hx rfl (hb hby d7_302) rfl ?_
                    change Steps p.tables e below (T1252.setTop (mkF m 303 (LS_RRRIIRIIW r0 r1 r2 (own_N f0) (own_N t0) r5 (own_N ib) (own_N ib) wb8) [(.int ((own_N (ib + t0)) - (own_N ib))), (.int (own_N (2 * ib))), (.ref qb), (.ref r0)])) _
                    rw [show ((own_N (ib + t0)) - (own_N ib)) = (own_N t0) from (own_Nsub (by omega) (by omega)).trans (congrArg own_N (by omega))]
                    exact k
                  obtain ⟨_, _, ⟨T1253, L1253, k1253, n1253⟩, -, X1253, ⟨Lc1253, hQ1253, l1253, y1253, z1253⟩, st1253⟩ := Jvm.LawKit.callS X1252 hx (y := (⟨"java/lang/Math", "max", "(II)I"⟩ : MethodName)) hown (mvT hZ (hw _ (List.mem_of_getElem? (i := 56) rfl))) (mvT hZ (hw _ (List.mem_of_getElem? (i := 57) rfl))) (mvT hZ (hw _ (List.mem_of_getElem? (i := 52) rfl))) (mvT hZ (hw _ (List.mem_of_getElem? (i := 58) rfl))) (by decide) (backOf (W := 2) (rmmax l Z a0 hw [] (own_N (2 * ib)) (own_N t0) Tb.heap n0 bZ) hZ (hw _ (List.mem_of_getElem? (i := 58) rfl)) (hw _ (List.mem_of_getElem? (i := 52) rfl)) (by decide) (by decide)) (g := (mkF m 303 (LS_RRRIIRIIW r0 r1 r2 (own_N f0) (own_N t0) r5 (own_N ib) (own_N ib) wb8) [(.int (own_N t0)), (.int (own_N (2 * ib))), (.ref qb), (.ref r0)])) rfl (by rw [hml]; rfl) (argsL := [(.int (own_N (2 * ib))), (.int (own_N t0))]) (rest := [(.ref qb), (.ref r0)]) (lenOf pd__II_I rfl) rfl (by show 2 * 0 + _ ≤ _; exact Nat.le_of_eq rfl) (hb hby d7_303) (fun _ _ => ⟨rfl, e1252, (by decide : 1 + 0 ≤ _), (by decide : 32 + 0 ≤ _)⟩)
                  dsimp only [Pt.U, Pt.locs, Pt.cells, Pt.slots] at X1253 l1253 y1253 z1253 st1253 hQ1253
                  subst l1253 y1253 z1253
                  obtain ⟨rfl, N1253q, e1253⟩ := hQ1253
                  have N1253 := Fr.app Nb N1253q
                  refine own_go (B := T1253.setTop (mkF m 306 (LS_RRRIIRIIW r0 r1 r2 (own_N f0) (own_N t0) r5 (own_N ib) (own_N ib) wb8) [(.int (if (own_N (2 * ib)) < (own_N t0) then (own_N t0) else (own_N (2 * ib)))), (.ref qb), (.ref r0)])) (fun t k => st1253 _ k) ?_
                  have hmx : 2 * ib ≤ max (2 * ib) t0 ∧ t0 ≤ max (2 * ib) t0 ∧ max (2 * ib) t0 ≤ 30 := by omega
                  refine own_go (B := T1253.setTop (mkF m 309 (LS_RRRIIRIIW r0 r1 r2 (own_N f0) (own_N t0) r5 (own_N ib) (own_N ib) wb8) [(.int (8192 : Int32)), (.int (own_N (max (2 * ib) t0))), (.ref qb), (.ref r0)])) (fun t k => ?_) ?_
                  · change Steps p.tables e below (T1253.setTop (mkF m 306 (LS_RRRIIRIIW r0 r1 r2 (own_N f0) (own_N t0) r5 (own_N ib) (own_N ib) wb8) [(.int (if (own_N (2 * ib)) < (own_N t0) then (own_N t0) else (own_N (2 * ib)))), (.ref qb), (.ref r0)])) _
                    rw [show (if (own_N (2 * ib)) < (own_N t0) then (own_N t0) else (own_N (2 * ib))) = (own_N (max (2 * ib) t0)) from own_Nmax (by omega) (by omega)]
                    refine XS.sipush X1253.here hx rfl (hb hby d7_306) ?_
                    exact k
                  obtain ⟨_, _, ⟨T1254, L1254, k1254, n1254⟩, -, X1254, ⟨Lc1254, hQ1254, l1254, y1254, z1254⟩, st1254⟩ := Jvm.LawKit.callS X1253 hx (y := (⟨"java/lang/Math", "min", "(II)I"⟩ : MethodName)) hown (mvT hZ (hw _ (List.mem_of_getElem? (i := 50) rfl))) (mvT hZ (hw _ (List.mem_of_getElem? (i := 51) rfl))) (mvT hZ (hw _ (List.mem_of_getElem? (i := 52) rfl))) (mvT hZ (hw _ (List.mem_of_getElem? (i := 53) rfl))) (by decide) (backOf (W := 2) (rmmin l Z a0 hw [] (own_N (max (2 * ib) t0)) (8192 : Int32) Tb.heap n0 bZ) hZ (hw _ (List.mem_of_getElem? (i := 53) rfl)) (hw _ (List.mem_of_getElem? (i := 52) rfl)) (by decide) (by decide)) (g := (mkF m 309 (LS_RRRIIRIIW r0 r1 r2 (own_N f0) (own_N t0) r5 (own_N ib) (own_N ib) wb8) [(.int (8192 : Int32)), (.int (own_N (max (2 * ib) t0))), (.ref qb), (.ref r0)])) rfl (by rw [hml]; rfl) (argsL := [(.int (own_N (max (2 * ib) t0))), (.int (8192 : Int32))]) (rest := [(.ref qb), (.ref r0)]) (lenOf pd__II_I rfl) rfl (by show 2 * 0 + _ ≤ _; exact Nat.le_of_eq rfl) (hb hby d7_309) (fun _ _ => ⟨rfl, e1253, (by decide : 1 + 0 ≤ _), (by decide : 32 + 0 ≤ _)⟩)
                  dsimp only [Pt.U, Pt.locs, Pt.cells, Pt.slots] at X1254 l1254 y1254 z1254 st1254 hQ1254
                  subst l1254 y1254 z1254
                  obtain ⟨rfl, N1254q, e1254⟩ := hQ1254
                  have N1254 := Fr.app N1253 N1254q
                  refine own_go (B := T1254.setTop (mkF m 312 (LS_RRRIIRIIW r0 r1 r2 (own_N f0) (own_N t0) r5 (own_N ib) (own_N ib) wb8) [(.int (if (8192 : Int32) < (own_N (max (2 * ib) t0)) then (8192 : Int32) else (own_N (max (2 * ib) t0)))), (.ref qb), (.ref r0)])) (fun t k => st1254 _ k) ?_
                  refine own_go (B := T1254.setTop (mkF m 312 (LS_RRRIIRIIW r0 r1 r2 (own_N f0) (own_N t0) r5 (own_N ib) (own_N ib) wb8) [(.int (own_N (max (2 * ib) t0))), (.ref qb), (.ref r0)])) (fun t k => ?_) ?_
                  · change Steps p.tables e below (T1254.setTop (mkF m 312 (LS_RRRIIRIIW r0 r1 r2 (own_N f0) (own_N t0) r5 (own_N ib) (own_N ib) wb8) [(.int (if (8192 : Int32) < (own_N (max (2 * ib) t0)) then (8192 : Int32) else (own_N (max (2 * ib) t0)))), (.ref qb), (.ref r0)])) _
                    rw [show (if (8192 : Int32) < (own_N (max (2 * ib) t0)) then (8192 : Int32) else (own_N (max (2 * ib) t0))) = (own_N (max (2 * ib) t0)) from (own_Nmin (u := 8192) (by omega) (by decide)).trans (congrArg own_N (by omega))]
                    exact k
                  obtain ⟨_, _, ⟨T1255, L1255, k1255, n1255⟩, -, X1255, ⟨Lc1255, hQ1255, l1255, y1255, z1255⟩, st1255⟩ := Jvm.LawKit.callS X1254 hx (y := (⟨"java/util/Arrays", "copyOf", "([II)[I"⟩ : MethodName)) hown (mvT hZ (hw _ (List.mem_of_getElem? (i := 73) rfl))) (mvT hZ (hw _ (List.mem_of_getElem? (i := 74) rfl))) (mvT hZ (hw _ (List.mem_of_getElem? (i := 75) rfl))) (mvT hZ (hw _ (List.mem_of_getElem? (i := 76) rfl))) (by decide) (backOf (W := 1) (rmcpy l Z a0 hw [] qb kqb pfb zpb ((max (2 * ib) t0)) Tb.heap n0 bZ bVq (by omega) (by omega)) hZ (hw _ (List.mem_of_getElem? (i := 76) rfl)) (hw _ (List.mem_of_getElem? (i := 75) rfl)) (by decide) (by decide)) (g := (mkF m 312 (LS_RRRIIRIIW r0 r1 r2 (own_N f0) (own_N t0) r5 (own_N ib) (own_N ib) wb8) [(.int (own_N (max (2 * ib) t0))), (.ref qb), (.ref r0)])) rfl (by rw [hml]; rfl) (argsL := [(.ref qb), (.int (own_N (max (2 * ib) t0)))]) (rest := [(.ref r0)]) (lenOf pd___II__I rfl) rfl (by show 2 * 0 + _ ≤ _; exact Nat.le_of_eq rfl) (hb hby d7_312) (fun _ _ => ⟨rfl, e1254, (by decide : 1 + 1 ≤ _), (by decide : 32 + 32 ≤ _)⟩)
                  dsimp only [Pt.U, Pt.locs, Pt.cells, Pt.slots] at X1255 l1255 y1255 z1255 st1255 hQ1255
                  subst l1255 y1255 z1255
                  obtain ⟨o1255, ko1255, rfl, N1255q, K1255, hfr1255, Eo1255, Vo1255⟩ := hQ1255
                  have N1255 := Fr.app N1254 N1255q
                  have g_o1255 : n0 ≤ o1255 := Nat.le_trans bZ hfr1255
                  have sz_o1255 : h0.size ≤ o1255 := Nat.le_trans bK.1 hfr1255
                  refine own_go (B := T1255.setTop (mkF m 315 (LS_RRRIIRIIW r0 r1 r2 (own_N f0) (own_N t0) r5 (own_N ib) (own_N ib) wb8) [(.ref o1255), (.ref r0)])) (fun t k => st1255 _ k) ?_
                  have bE_v1256 := bE.keep K1255
                  have bF_page_v1257 := bF_page.keep K1255 nin0
                  obtain ⟨T1258, h1258, X1258, e1258, W1258, st1258⟩ := putF X1255 hx hZ hown (host := "") (Or.inl (hw _ (List.mem_of_getElem? (i := 35) rfl))) Via.refl rfl bF_page_v1257 bE_v1256 (Or.inl (hw _ (List.mem_of_getElem? (i := 36) rfl))) (hw _ (List.mem_of_getElem? (i := 17) rfl)) (ty := (.array .int)) (by decide) rfl rfl (g := (mkF m 315 (LS_RRRIIRIIW r0 r1 r2 (own_N f0) (own_N t0) r5 (own_N ib) (own_N ib) wb8) [(.ref o1255), (.ref r0)])) rfl rfl (hb hby d7_315)
                  have N1258 := Fr.snoc X1258 N1255 g_r0
                  have Fw1258 := bF_page_v1257.same W1258
                  refine own_go (B := T1258.setTop (mkF m 318 (LS_RRRIIRIIW r0 r1 r2 (own_N f0) (own_N t0) r5 (own_N ib) (own_N ib) wb8) [])) (fun t k => st1258 _ k) ?_
                  have bF_pages_v1259 := bF_pages.keep K1255 nin0
                  have bF_pages_v1260 := bF_pages_v1259.other W1258 (Or.inr (slot_ne (Or.inl (hw _ (List.mem_of_getElem? (i := 34) rfl))) (Or.inl (hw _ (List.mem_of_getElem? (i := 36) rfl))) (by decide) (t := (.array (.array .int))) (t' := (.array .int)) (by decide) (by decide)))
                  refine own_go (B := T1258.setTop (mkF m 319 (LS_RRRIIRIIW r0 r1 r2 (own_N f0) (own_N t0) r5 (own_N ib) (own_N ib) wb8) [(.ref r0)])) (fun t k => ?_) ?_
                  · refine XS.aloadN X1258.here hx rfl (hb hby d7_318) rfl rfl ?_
                    exact k
                  obtain ⟨T1261, X1261, e1261, st1261⟩ := getF X1258 hx hZ hown (host := "") (Or.inl (hw _ (List.mem_of_getElem? (i := 33) rfl))) Via.refl e1258 bF_pages_v1260 (g := (mkF m 319 (LS_RRRIIRIIW r0 r1 r2 (own_N f0) (own_N t0) r5 (own_N ib) (own_N ib) wb8) [(.ref r0)])) rfl rfl (hb hby d7_319)
                  refine own_go (B := T1261.setTop (mkF m 322 (LS_RRRIIRIIW r0 r1 r2 (own_N f0) (own_N t0) r5 (own_N ib) (own_N ib) wb8) [(.ref pg)])) (fun t k => st1261 _ k) ?_
                  refine own_go (B := T1261.setTop (mkF m 324 (LS_RRRIIRIIW r0 r1 r2 (own_N f0) (own_N t0) r5 (own_N ib) (own_N ib) wb8) [(.ref r0), (.int (0 : Int32)), (.ref pg)])) (fun t k => ?_) ?_
                  · refine XS.iconst X1261.here hx rfl (hb hby d7_322) ?_
                    refine XS.aloadN X1261.here hx rfl (hb hby d7_323) rfl rfl ?_
                    exact k
                  obtain ⟨T1262, X1262, e1262, st1262⟩ := getF X1261 hx hZ hown (host := "") (Or.inl (hw _ (List.mem_of_getElem? (i := 35) rfl))) Via.refl e1261 Fw1258 (g := (mkF m 324 (LS_RRRIIRIIW r0 r1 r2 (own_N f0) (own_N t0) r5 (own_N ib) (own_N ib) wb8) [(.ref r0), (.int (0 : Int32)), (.ref pg)])) rfl rfl (hb hby d7_324)
                  refine own_go (B := T1262.setTop (mkF m 327 (LS_RRRIIRIIW r0 r1 r2 (own_N f0) (own_N t0) r5 (own_N ib) (own_N ib) wb8) [(.ref o1255), (.int (0 : Int32)), (.ref pg)])) (fun t k => st1262 _ k) ?_
                  have bVg_v1264 := bVg.keep K1255 nin0
                  have ne1266 : r0 ≠ pg := Exa.neArv bE_v1256 bVg_v1264 (hw _ (List.mem_of_getElem? (i := 17) rfl))
                  have bVg_v1265 := bVg_v1264.other W1258 (Ne.symm ne1266)
                  obtain ⟨cl1263, Ar1263, qa1263, Sa1263, Na1263, Ha1263, Ga1263⟩ := id bVg_v1265
                  have hin1267 : ¬ ((0 : Int32) < 0 ∨ cl1263.slots.size ≤ ((0 : Int32)).toNatClampNeg) := inb_of Sa1263 ⟨by decide, by decide⟩
                  have Eo1255_v1268 := Eo1255.wr W1258
                  obtain ⟨T1267, h1267, X1267, e1267, W1267, st1267⟩ := stR X1262 hx hZ e1262 Ar1263 (j := (0 : Int32)) hin1267 rfl (Sto.ofVA Ar1263 qa1263 Og (Ins.self Eo1255_v1268)) (g := (mkF m 327 (LS_RRRIIRIIW r0 r1 r2 (own_N f0) (own_N t0) r5 (own_N ib) (own_N ib) wb8) [(.ref o1255), (.int (0 : Int32)), (.ref pg)])) rfl rfl (hb hby d7_327)
                  have N1267 := Fr.snoc X1267 N1258 g_pg
                  have V1267 : Arv Z h1267 pg kg (.array .int) (1 : Int32) [(.ref o1255)] .null := Arv.set Ar1263 qa1263 Sa1263 Na1263 Ha1263 Ga1263 rfl W1267 0 rfl (Nat.le_of_ble_eq_true rfl)
                  refine own_go (B := T1267.setTop (mkF m 328 (LS_RRRIIRIIW r0 r1 r2 (own_N f0) (own_N t0) r5 (own_N ib) (own_N ib) wb8) [])) (fun t k => st1267 _ k) ?_
                  have Fw1258_v1269 := Fw1258.other W1267 (Or.inl ne1266)
                  refine own_go (B := T1267.setTop (mkF m 334 (LS_RRRIIRIIW r0 r1 r2 (own_N f0) (own_N t0) r5 (own_N ib) (own_N ib) wb8) [(.ref r0), (.int (own_N (t0 - ib)))])) (fun t k => ?_) ?_
                  · refine XS.iload X1267.here hx rfl (hb hby d7_328) rfl ?_
                    refine XS.iload X1267.here hx rfl (hb hby d7_330) rfl ?_
                    show Steps p.tables e below (T1267.setTop (mkF m 332 (LS_RRRIIRIIW r0 r1 r2 (own_N f0) (own_N t0) r5 (own_N ib) (own_N ib) wb8) [(.int (own_N ib)), (.int (own_N t0))])) _
                    refine XS.isub X1267.here hx rfl (hb hby d7_332) rfl ?_
                    change Steps p.tables e below (T1267.setTop (mkF m 333 (LS_RRRIIRIIW r0 r1 r2 (own_N f0) (own_N t0) r5 (own_N ib) (own_N ib) wb8) [(.int ((own_N t0) - (own_N ib)))])) _
                    rw [show ((own_N t0) - (own_N ib)) = (own_N (t0 - ib)) from own_Nsub (by omega) (by omega)]
                    refine XS.aloadN X1267.here hx rfl (hb hby d7_333) rfl rfl ?_
                    exact k
                  obtain ⟨T1270, X1270, e1270, st1270⟩ := getF X1267 hx hZ hown (host := "") (Or.inl (hw _ (List.mem_of_getElem? (i := 35) rfl))) Via.refl e1267 Fw1258_v1269 (g := (mkF m 334 (LS_RRRIIRIIW r0 r1 r2 (own_N f0) (own_N t0) r5 (own_N ib) (own_N ib) wb8) [(.ref r0), (.int (own_N (t0 - ib)))])) rfl rfl (hb hby d7_334)
                  refine own_go (B := T1270.setTop (mkF m 337 (LS_RRRIIRIIW r0 r1 r2 (own_N f0) (own_N t0) r5 (own_N ib) (own_N ib) wb8) [(.ref o1255), (.int (own_N (t0 - ib)))])) (fun t k => st1270 _ k) ?_
                  have ne1273 : o1255 ≠ r0 := Exa.ne Eo1255 bE_v1256 (by decide)
                  have Vo1255_v1272 := Vo1255.other W1258 ne1273
                  have ne1275 : o1255 ≠ pg := own_neT Vo1255 bVg_v1264 (by decide)
                  have Vo1255_v1274 := Vo1255_v1272.other W1267 ne1275
                  obtain ⟨cl1271, Ar1271, qa1271, Sa1271, Na1271, Ha1271, Ga1271⟩ := id Vo1255_v1274
                  refine own_go (B := T1270.setTop (mkF m 341 (LS_RRRIIRIIW r0 r1 r2 (own_N f0) (own_N t0) r5 (own_N ib) (own_N ib) wb8) [(.int (own_N ((max (2 * ib) t0) - ib))), (.int (own_N (t0 - ib)))])) (fun t k => ?_) ?_
                  · refine X1270.arraylength hx (by rw [e1270]; exact Ar1271.1) (State.isArrayOf_alike hZ.alike Ar1271.2.1) (g := (mkF m 337 (LS_RRRIIRIIW r0 r1 r2 (own_N f0) (own_N t0) r5 (own_N ib) (own_N ib) wb8) [(.ref o1255), (.int (own_N (t0 - ib)))])) rfl rfl (hb hby d7_337) _ ?_
                    rw [len_of Sa1271 Na1271]
                    refine XS.iload X1270.here hx rfl (hb hby d7_338) rfl ?_
                    show Steps p.tables e below (T1270.setTop (mkF m 340 (LS_RRRIIRIIW r0 r1 r2 (own_N f0) (own_N t0) r5 (own_N ib) (own_N ib) wb8) [(.int (own_N ib)), (.int (own_N (max (2 * ib) t0))), (.int (own_N (t0 - ib)))])) _
                    refine XS.isub X1270.here hx rfl (hb hby d7_340) rfl ?_
                    change Steps p.tables e below (T1270.setTop (mkF m 341 (LS_RRRIIRIIW r0 r1 r2 (own_N f0) (own_N t0) r5 (own_N ib) (own_N ib) wb8) [(.int ((own_N (max (2 * ib) t0)) - (own_N ib))), (.int (own_N (t0 - ib)))])) _
                    rw [show ((own_N (max (2 * ib) t0)) - (own_N ib)) = (own_N ((max (2 * ib) t0) - ib)) from own_Nsub (by omega) (by omega)]
                    exact k
                  have bZ_v1276 := Nat.le_trans bZ K1255.1
                  have bZ_v1277 := Nat.le_trans bZ_v1276 (Nat.le_of_eq W1258.size.symm)
                  have bZ_v1278 := Nat.le_trans bZ_v1277 (Nat.le_of_eq W1267.size.symm)
                  obtain ⟨_, _, ⟨T1279, L1279, k1279, n1279⟩, -, X1279, ⟨Lc1279, hQ1279, l1279, y1279, z1279⟩, st1279⟩ := Jvm.LawKit.callS X1270 hx (y := (⟨"java/lang/Math", "min", "(II)I"⟩ : MethodName)) hown (mvT hZ (hw _ (List.mem_of_getElem? (i := 50) rfl))) (mvT hZ (hw _ (List.mem_of_getElem? (i := 51) rfl))) (mvT hZ (hw _ (List.mem_of_getElem? (i := 52) rfl))) (mvT hZ (hw _ (List.mem_of_getElem? (i := 53) rfl))) (by decide) (backOf (W := 0) (rmmin l Z a0 hw [] (own_N (t0 - ib)) (own_N ((max (2 * ib) t0) - ib)) h1267 n0 bZ_v1278) hZ (hw _ (List.mem_of_getElem? (i := 53) rfl)) (hw _ (List.mem_of_getElem? (i := 52) rfl)) (by decide) (by decide)) (g := (mkF m 341 (LS_RRRIIRIIW r0 r1 r2 (own_N f0) (own_N t0) r5 (own_N ib) (own_N ib) wb8) [(.int (own_N ((max (2 * ib) t0) - ib))), (.int (own_N (t0 - ib)))])) rfl (by rw [hml]; rfl) (argsL := [(.int (own_N (t0 - ib))), (.int (own_N ((max (2 * ib) t0) - ib)))]) (rest := []) (lenOf pd__II_I rfl) rfl (by show 2 * 0 + _ ≤ _; exact Nat.le_of_eq rfl) (hb hby d7_341) (fun _ _ => ⟨rfl, e1270, (by decide : 2 + 0 ≤ _), (by decide : 64 + 0 ≤ _)⟩)
                  dsimp only [Pt.U, Pt.locs, Pt.cells, Pt.slots] at X1279 l1279 y1279 z1279 st1279 hQ1279
                  subst l1279 y1279 z1279
                  obtain ⟨rfl, N1279q, e1279⟩ := hQ1279
                  have N1279 := Fr.app N1267 N1279q
                  refine own_go (B := T1279.setTop (mkF m 344 (LS_RRRIIRIIW r0 r1 r2 (own_N f0) (own_N t0) r5 (own_N ib) (own_N ib) wb8) [(.int (if (own_N ((max (2 * ib) t0) - ib)) < (own_N (t0 - ib)) then (own_N ((max (2 * ib) t0) - ib)) else (own_N (t0 - ib))))])) (fun t k => st1279 _ k) ?_
                  refine own_go (B := T1279.setTop (mkF m 350 (LS_RRRIIRIII r0 r1 r2 (own_N f0) (own_N t0) r5 (own_N ib) (own_N ib) (own_N (t0 - ib))) [(.ref r0), (.int (own_N ib)), (.ref r2)])) (fun t k => ?_) ?_
                  · change Steps p.tables e below (T1279.setTop (mkF m 344 (LS_RRRIIRIIW r0 r1 r2 (own_N f0) (own_N t0) r5 (own_N ib) (own_N ib) wb8) [(.int (if (own_N ((max (2 * ib) t0) - ib)) < (own_N (t0 - ib)) then (own_N ((max (2 * ib) t0) - ib)) else (own_N (t0 - ib))))])) _
                    rw [show (if (own_N ((max (2 * ib) t0) - ib)) < (own_N (t0 - ib)) then (own_N ((max (2 * ib) t0) - ib)) else (own_N (t0 - ib))) = (own_N (t0 - ib)) from (own_Nmin (by omega) (by omega)).trans (congrArg own_N (by omega))]
                    refine XS.istore X1279.here hx rfl (hb hby d7_344) rfl (l' := (LS_RRRIIRIII r0 r1 r2 (own_N f0) (own_N t0) r5 (own_N ib) (own_N ib) (own_N (t0 - ib)))) (by rcases hwb8 with rfl | ⟨_, rfl⟩ <;> rfl) ?_
                    refine XS.aloadN X1279.here hx rfl (hb hby d7_346) rfl rfl ?_
                    show Steps p.tables e below (T1279.setTop (mkF m 347 (LS_RRRIIRIII r0 r1 r2 (own_N f0) (own_N t0) r5 (own_N ib) (own_N ib) (own_N (t0 - ib))) [(.ref r2)])) _
                    refine XS.iload X1279.here hx rfl (hb hby d7_347) rfl ?_
                    refine XS.aloadN X1279.here hx rfl (hb hby d7_349) rfl rfl ?_
                    exact k
                  obtain ⟨T1280, X1280, e1280, st1280⟩ := getF X1279 hx hZ hown (host := "") (Or.inl (hw _ (List.mem_of_getElem? (i := 35) rfl))) Via.refl e1279 Fw1258_v1269 (g := (mkF m 350 (LS_RRRIIRIII r0 r1 r2 (own_N f0) (own_N t0) r5 (own_N ib) (own_N ib) (own_N (t0 - ib))) [(.ref r0), (.int (own_N ib)), (.ref r2)])) rfl rfl (hb hby d7_350)
                  refine own_go (B := T1280.setTop (mkF m 353 (LS_RRRIIRIII r0 r1 r2 (own_N f0) (own_N t0) r5 (own_N ib) (own_N ib) (own_N (t0 - ib))) [(.ref o1255), (.int (own_N ib)), (.ref r2)])) (fun t k => st1280 _ k) ?_
                  refine own_go (B := T1280.setTop (mkF m 357 (LS_RRRIIRIII r0 r1 r2 (own_N f0) (own_N t0) r5 (own_N ib) (own_N ib) (own_N (t0 - ib))) [(.int (own_N (t0 - ib))), (.int (own_N ib)), (.ref o1255), (.int (own_N ib)), (.ref r2)])) (fun t k => ?_) ?_
                  · refine XS.iload X1280.here hx rfl (hb hby d7_353) rfl ?_
                    refine XS.iload X1280.here hx rfl (hb hby d7_355) rfl ?_
                    exact k
                  have bVp_v1282 := bVp.keep K1255 nin0
                  have ne1284 : r0 ≠ r2 := Exa.neArv bE_v1256 bVp_v1282 (hw _ (List.mem_of_getElem? (i := 17) rfl))
                  have bVp_v1283 := bVp_v1282.other W1258 (Ne.symm ne1284)
                  have ne1286 : r2 ≠ pg := own_neT bVp bVg (by decide)
                  have bVp_v1285 := bVp_v1283.other W1267 ne1286
                  have Vo1255_v1287 := Vo1255_v1272.other W1267 ne1275
                  obtain ⟨T1281, h1281, L1281, X1281, e1281, N1281, K1281, V1281, st1281⟩ := own_cpA (sp := ib) (dp := ib) (nn := (t0 - ib)) X1280 hx hZ hown (hw _ (List.mem_of_getElem? (i := 59) rfl)) (hw _ (List.mem_of_getElem? (i := 62) rfl)) (hw _ (List.mem_of_getElem? (i := 60) rfl)) (hw _ (List.mem_of_getElem? (i := 61) rfl)) e1280 bVp_v1285 Vo1255_v1287 (by omega) (by omega) (by omega) (by omega) N1279 g_o1255 (g := (mkF m 357 (LS_RRRIIRIII r0 r1 r2 (own_N f0) (own_N t0) r5 (own_N ib) (own_N ib) (own_N (t0 - ib))) [(.int (own_N (t0 - ib))), (.int (own_N ib)), (.ref o1255), (.int (own_N ib)), (.ref r2)])) rfl (by rw [hml]; rfl) rfl (hb hby d7_357) (by decide) (W := 0) (by show 2 * 0 + _ ≤ _; exact Nat.le_of_eq rfl) (by decide)
                  refine own_go (B := T1281.setTop (mkF m 360 (LS_RRRIIRIII r0 r1 r2 (own_N f0) (own_N t0) r5 (own_N ib) (own_N ib) (own_N (t0 - ib))) [])) (fun t k => st1281 _ k) ?_
                  have bF_positionCount_v1288 := bF_positionCount.keep K1255 nin0
                  have bF_positionCount_v1289 := bF_positionCount_v1288.other W1258 (Or.inr (slot_ne (Or.inl (hw _ (List.mem_of_getElem? (i := 45) rfl))) (Or.inl (hw _ (List.mem_of_getElem? (i := 36) rfl))) (by decide) (t := .int) (t' := (.array .int)) (by decide) (by decide)))
                  have bF_positionCount_v1290 := bF_positionCount_v1289.other W1267 (Or.inl ne1266)
                  have bF_positionCount_v1291 := bF_positionCount_v1290.keep K1281 (ninS (Ne.symm ne1273) nin0)
                  refine own_go (B := T1281.setTop (mkF m 362 (LS_RRRIIRIII r0 r1 r2 (own_N f0) (own_N t0) r5 (own_N ib) (own_N ib) (own_N (t0 - ib))) [(.ref r0), (.ref r0)])) (fun t k => ?_) ?_
                  · refine XS.aloadN X1281.here hx rfl (hb hby d7_360) rfl rfl ?_
                    refine XS.dup X1281.here hx rfl (hb hby d7_361) rfl rfl ?_
                    exact k
                  obtain ⟨T1292, X1292, e1292, st1292⟩ := getF X1281 hx hZ hown (host := "") (Or.inl (hw _ (List.mem_of_getElem? (i := 44) rfl))) Via.refl e1281 bF_positionCount_v1291 (g := (mkF m 362 (LS_RRRIIRIII r0 r1 r2 (own_N f0) (own_N t0) r5 (own_N ib) (own_N ib) (own_N (t0 - ib))) [(.ref r0), (.ref r0)])) rfl rfl (hb hby d7_362)
                  refine own_go (B := T1292.setTop (mkF m 365 (LS_RRRIIRIII r0 r1 r2 (own_N f0) (own_N t0) r5 (own_N ib) (own_N ib) (own_N (t0 - ib))) [(.int (own_N ib)), (.ref r0)])) (fun t k => st1292 _ k) ?_
                  refine own_go (B := T1292.setTop (mkF m 368 (LS_RRRIIRIII r0 r1 r2 (own_N f0) (own_N t0) r5 (own_N ib) (own_N ib) (own_N (t0 - ib))) [(.int (own_N t0)), (.ref r0)])) (fun t k => ?_) ?_
                  · refine XS.iload X1292.here hx rfl (hb hby d7_365) rfl ?_
                    refine XS.iadd X1292.here hx rfl (hb hby d7_367) rfl ?_
                    change Steps p.tables e below (T1292.setTop (mkF m 368 (LS_RRRIIRIII r0 r1 r2 (own_N f0) (own_N t0) r5 (own_N ib) (own_N ib) (own_N (t0 - ib))) [(.int ((own_N ib) + (own_N (t0 - ib)))), (.ref r0)])) _
                    rw [show ((own_N ib) + (own_N (t0 - ib))) = (own_N t0) from (own_Nadd (by omega)).trans (congrArg own_N (by omega))]
                    exact k
                  have bE_v1293 := bE_v1256.wr W1258
                  have bE_v1294 := bE_v1293.wr W1267
                  have bE_v1295 := bE_v1294.keep K1281
                  obtain ⟨T1296, h1296, X1296, e1296, W1296, st1296⟩ := putF X1292 hx hZ hown (host := "") (Or.inl (hw _ (List.mem_of_getElem? (i := 44) rfl))) Via.refl e1292 bF_positionCount_v1291 bE_v1295 (Or.inl (hw _ (List.mem_of_getElem? (i := 45) rfl))) (hw _ (List.mem_of_getElem? (i := 17) rfl)) (ty := .int) (by decide) rfl rfl (g := (mkF m 368 (LS_RRRIIRIII r0 r1 r2 (own_N f0) (own_N t0) r5 (own_N ib) (own_N ib) (own_N (t0 - ib))) [(.int (own_N t0)), (.ref r0)])) rfl rfl (hb hby d7_368)
                  have N1296 := Fr.snoc X1296 N1281 g_r0
                  have Fw1296 := bF_positionCount_v1291.same W1296
                  refine own_go (B := T1296.setTop (mkF m 371 (LS_RRRIIRIII r0 r1 r2 (own_N f0) (own_N t0) r5 (own_N ib) (own_N ib) (own_N (t0 - ib))) [])) (fun t k => st1296 _ k) ?_
                  refine own_go (B := T1296.setTop (mkF m 187 (LS_RRRIIRIII r0 r1 r2 (own_N f0) (own_N t0) r5 (own_N t0) (own_N ib) (own_N (t0 - ib))) [])) (fun t k => ?_) ?_
                  · refine XS.iload X1296.here hx rfl (hb hby d7_371) rfl ?_
                    refine XS.iload X1296.here hx rfl (hb hby d7_373) rfl ?_
                    show Steps p.tables e below (T1296.setTop (mkF m 375 (LS_RRRIIRIII r0 r1 r2 (own_N f0) (own_N t0) r5 (own_N ib) (own_N ib) (own_N (t0 - ib))) [(.int (own_N (t0 - ib))), (.int (own_N ib))])) _
                    refine XS.iadd X1296.here hx rfl (hb hby d7_375) rfl ?_
                    change Steps p.tables e below (T1296.setTop (mkF m 376 (LS_RRRIIRIII r0 r1 r2 (own_N f0) (own_N t0) r5 (own_N ib) (own_N ib) (own_N (t0 - ib))) [(.int ((own_N ib) + (own_N (t0 - ib))))])) _
                    rw [show ((own_N ib) + (own_N (t0 - ib))) = (own_N t0) from (own_Nadd (by omega)).trans (congrArg own_N (by omega))]
                    refine XS.istore X1296.here hx rfl (hb hby d7_376) rfl (l' := (LS_RRRIIRIII r0 r1 r2 (own_N f0) (own_N t0) r5 (own_N t0) (own_N ib) (own_N (t0 - ib)))) rfl ?_
                    refine XS.goto X1296.here hx rfl (pc0 := 378) (pc' := 187) rfl (hb hby d7_378) (by decide) (by decide) ?_
                    exact k
                  have bZ_v1297 := Nat.le_trans bZ_v1278 K1281.1
                  have bZ_v1298 := Nat.le_trans bZ_v1297 (Nat.le_of_eq W1296.size.symm)
                  have bK_v1299 := bK.trans K1255 all0
                  have bK_v1300 := bK_v1299.wr W1258 (Or.inl (List.mem_of_getElem? (i := 0) rfl))
                  have bK_v1301 := bK_v1300.wr W1267 (Or.inl (List.mem_of_getElem? (i := 3) rfl))
                  have bK_v1302 := bK_v1301.trans K1281 (allS (Or.inr sz_o1255) all0)
                  have bK_v1303 := bK_v1302.wr W1296 (Or.inl (List.mem_of_getElem? (i := 0) rfl))
                  have bE_v1304 := bE_v1295.wr W1296
                  have bF_entries_v1305 := bF_entries.keep K1255 nin0
                  have bF_entries_v1306 := bF_entries_v1305.other W1258 (Or.inr (slot_ne (Or.inl (hw _ (List.mem_of_getElem? (i := 26) rfl))) (Or.inl (hw _ (List.mem_of_getElem? (i := 36) rfl))) (by decide) (t := (.array .int)) (t' := (.array .int)) (by decide) (by decide)))
                  have bF_entries_v1307 := bF_entries_v1306.other W1267 (Or.inl ne1266)
                  have bF_entries_v1308 := bF_entries_v1307.keep K1281 (ninS (Ne.symm ne1273) nin0)
                  have bF_entries_v1309 := bF_entries_v1308.other W1296 (Or.inr (slot_ne (Or.inl (hw _ (List.mem_of_getElem? (i := 26) rfl))) (Or.inl (hw _ (List.mem_of_getElem? (i := 45) rfl))) (by decide) (t := (.array .int)) (t' := .int) (by decide) (by decide)))
                  have bF_size_v1310 := bF_size.keep K1255 nin0
                  have bF_size_v1311 := bF_size_v1310.other W1258 (Or.inr (slot_ne (Or.inl (hw _ (List.mem_of_getElem? (i := 47) rfl))) (Or.inl (hw _ (List.mem_of_getElem? (i := 36) rfl))) (by decide) (t := .int) (t' := (.array .int)) (by decide) (by decide)))
                  have bF_size_v1312 := bF_size_v1311.other W1267 (Or.inl ne1266)
                  have bF_size_v1313 := bF_size_v1312.keep K1281 (ninS (Ne.symm ne1273) nin0)
                  have bF_size_v1314 := bF_size_v1313.other W1296 (Or.inr (slot_ne (Or.inl (hw _ (List.mem_of_getElem? (i := 47) rfl))) (Or.inl (hw _ (List.mem_of_getElem? (i := 45) rfl))) (by decide) (t := .int) (t' := .int) (by decide) (by decide)))
                  have bF_lastDoc_v1315 := bF_lastDoc.keep K1255 nin0
                  have bF_lastDoc_v1316 := bF_lastDoc_v1315.other W1258 (Or.inr (slot_ne (Or.inl (hw _ (List.mem_of_getElem? (i := 28) rfl))) (Or.inl (hw _ (List.mem_of_getElem? (i := 36) rfl))) (by decide) (t := .int) (t' := (.array .int)) (by decide) (by decide)))
                  have bF_lastDoc_v1317 := bF_lastDoc_v1316.other W1267 (Or.inl ne1266)
                  have bF_lastDoc_v1318 := bF_lastDoc_v1317.keep K1281 (ninS (Ne.symm ne1273) nin0)
                  have bF_lastDoc_v1319 := bF_lastDoc_v1318.other W1296 (Or.inr (slot_ne (Or.inl (hw _ (List.mem_of_getElem? (i := 28) rfl))) (Or.inl (hw _ (List.mem_of_getElem? (i := 45) rfl))) (by decide) (t := .int) (t' := .int) (by decide) (by decide)))
                  have bF_lastFreq_v1320 := bF_lastFreq.keep K1255 nin0
                  have bF_lastFreq_v1321 := bF_lastFreq_v1320.other W1258 (Or.inr (slot_ne (Or.inl (hw _ (List.mem_of_getElem? (i := 49) rfl))) (Or.inl (hw _ (List.mem_of_getElem? (i := 36) rfl))) (by decide) (t := .int) (t' := (.array .int)) (by decide) (by decide)))
                  have bF_lastFreq_v1322 := bF_lastFreq_v1321.other W1267 (Or.inl ne1266)
                  have bF_lastFreq_v1323 := bF_lastFreq_v1322.keep K1281 (ninS (Ne.symm ne1273) nin0)
                  have bF_lastFreq_v1324 := bF_lastFreq_v1323.other W1296 (Or.inr (slot_ne (Or.inl (hw _ (List.mem_of_getElem? (i := 49) rfl))) (Or.inl (hw _ (List.mem_of_getElem? (i := 45) rfl))) (by decide) (t := .int) (t' := .int) (by decide) (by decide)))
                  have bF_maxFreq_v1325 := bF_maxFreq.keep K1255 nin0
                  have bF_maxFreq_v1326 := bF_maxFreq_v1325.other W1258 (Or.inr (slot_ne (Or.inl (hw _ (List.mem_of_getElem? (i := 55) rfl))) (Or.inl (hw _ (List.mem_of_getElem? (i := 36) rfl))) (by decide) (t := .int) (t' := (.array .int)) (by decide) (by decide)))
                  have bF_maxFreq_v1327 := bF_maxFreq_v1326.other W1267 (Or.inl ne1266)
                  have bF_maxFreq_v1328 := bF_maxFreq_v1327.keep K1281 (ninS (Ne.symm ne1273) nin0)
                  have bF_maxFreq_v1329 := bF_maxFreq_v1328.other W1296 (Or.inr (slot_ne (Or.inl (hw _ (List.mem_of_getElem? (i := 55) rfl))) (Or.inl (hw _ (List.mem_of_getElem? (i := 45) rfl))) (by decide) (t := .int) (t' := .int) (by decide) (by decide)))
                  have bF_shortestLength_v1330 := bF_shortestLength.keep K1255 nin0
                  have bF_shortestLength_v1331 := bF_shortestLength_v1330.other W1258 (Or.inr (slot_ne (Or.inl (hw _ (List.mem_of_getElem? (i := 30) rfl))) (Or.inl (hw _ (List.mem_of_getElem? (i := 36) rfl))) (by decide) (t := .int) (t' := (.array .int)) (by decide) (by decide)))
                  have bF_shortestLength_v1332 := bF_shortestLength_v1331.other W1267 (Or.inl ne1266)
                  have bF_shortestLength_v1333 := bF_shortestLength_v1332.keep K1281 (ninS (Ne.symm ne1273) nin0)
                  have bF_shortestLength_v1334 := bF_shortestLength_v1333.other W1296 (Or.inr (slot_ne (Or.inl (hw _ (List.mem_of_getElem? (i := 30) rfl))) (Or.inl (hw _ (List.mem_of_getElem? (i := 45) rfl))) (by decide) (t := .int) (t' := .int) (by decide) (by decide)))
                  have bF_pages_v1335 := bF_pages_v1260.other W1267 (Or.inl ne1266)
                  have bF_pages_v1336 := bF_pages_v1335.keep K1281 (ninS (Ne.symm ne1273) nin0)
                  have bF_pages_v1337 := bF_pages_v1336.other W1296 (Or.inr (slot_ne (Or.inl (hw _ (List.mem_of_getElem? (i := 34) rfl))) (Or.inl (hw _ (List.mem_of_getElem? (i := 45) rfl))) (by decide) (t := (.array (.array .int))) (t' := .int) (by decide) (by decide)))
                  have Fw1258_v1338 := Fw1258_v1269.keep K1281 (ninS (Ne.symm ne1273) nin0)
                  have Fw1258_v1339 := Fw1258_v1338.other W1296 (Or.inr (slot_ne (Or.inl (hw _ (List.mem_of_getElem? (i := 36) rfl))) (Or.inl (hw _ (List.mem_of_getElem? (i := 45) rfl))) (by decide) (t := (.array .int)) (t' := .int) (by decide) (by decide)))
                  have bVe_v1340 := bVe.keep K1255 nin0
                  have ne1342 : r0 ≠ ea := Exa.neArv bE_v1256 bVe_v1340 (hw _ (List.mem_of_getElem? (i := 17) rfl))
                  have bVe_v1341 := bVe_v1340.other W1258 (Ne.symm ne1342)
                  have ne1344 : ea ≠ pg := own_neT bVe bVg (by decide)
                  have bVe_v1343 := bVe_v1341.other W1267 ne1344
                  have ne1347 : ea ≠ o1255 := Nat.ne_of_lt (Nat.lt_of_lt_of_le bVe.lt hfr1255)
                  have bVe_v1345 := bVe_v1343.keep K1281 (ninS ne1347 nin0)
                  have bVe_v1348 := bVe_v1345.other W1296 (Ne.symm ne1342)
                  have V1281_v1349 := V1281.other W1296 ne1273
                  have Eo1255_v1350 := Eo1255_v1268.wr W1267
                  have Eo1255_v1351 := Eo1255_v1350.keep K1281
                  have Eo1255_v1352 := Eo1255_v1351.wr W1296
                  have V1267_v1353 := V1267.keep K1281 (ninS (Ne.symm ne1275) nin0)
                  have V1267_v1354 := V1267_v1353.other W1296 (Ne.symm ne1266)
                  have bVp_v1355 := bVp_v1282.other W1258 (Ne.symm ne1284)
                  have bVp_v1356 := bVp_v1355.other W1267 ne1286
                  have ne1359 : r2 ≠ o1255 := Nat.ne_of_lt (Nat.lt_of_lt_of_le bVp.lt hfr1255)
                  have bVp_v1357 := bVp_v1356.keep K1281 (ninS ne1359 nin0)
                  have bVp_v1360 := bVp_v1357.other W1296 (Ne.symm ne1284)
                  have bVd_v1361 := bVd.keep K1255 nin0
                  have ne1363 : r0 ≠ r1 := Exa.neArv bE_v1256 bVd_v1361 (hw _ (List.mem_of_getElem? (i := 17) rfl))
                  have bVd_v1362 := bVd_v1361.other W1258 (Ne.symm ne1363)
                  have ne1365 : r1 ≠ pg := own_neT bVd bVg (by decide)
                  have bVd_v1364 := bVd_v1362.other W1267 ne1365
                  have ne1368 : r1 ≠ o1255 := Nat.ne_of_lt (Nat.lt_of_lt_of_le bVd.lt hfr1255)
                  have bVd_v1366 := bVd_v1364.keep K1281 (ninS ne1368 nin0)
                  have bVd_v1369 := bVd_v1366.other W1296 (Ne.symm ne1363)
                  have bVl_v1370 := bVl.keep K1255 nin0
                  have ne1372 : r0 ≠ r5 := Exa.neArv bE_v1256 bVl_v1370 (hw _ (List.mem_of_getElem? (i := 17) rfl))
                  have bVl_v1371 := bVl_v1370.other W1258 (Ne.symm ne1372)
                  have ne1374 : r5 ≠ pg := own_neT bVl bVg (by decide)
                  have bVl_v1373 := bVl_v1371.other W1267 ne1374
                  have ne1376 : r5 ≠ o1255 := own_neT bVl_v1370 Vo1255 (by decide)
                  have bVl_v1375 := bVl_v1373.keep K1281 (ninS ne1376 nin0)
                  have bVl_v1377 := bVl_v1375.other W1296 (Ne.symm ne1372)
                  exact IHb (t0, 1, (.val (.int (own_N ib))), (.val (.int (own_N (t0 - ib))))) _ _ (show t0 - (t0) < t0 - ib by omega) (own_mono X1296 (by simp) (by simp)) N1296 (by rw [e1296]; exact ⟨o1255, ko1255, _, _, bZ_v1298, bK_v1303, bE_v1304, bF_entries_v1309, bF_size_v1314, bF_lastDoc_v1319, bF_lastFreq_v1324, bF_maxFreq_v1329, bF_shortestLength_v1334, Fw1296, bF_pages_v1337, Fw1258_v1339, bVe_v1348, V1281_v1349, Eo1255_v1352, V1267_v1354, bVp_v1360, bVd_v1369, bVl_v1377, (Or.inr sz_o1255), g_o1255, ne1347, (Ne.symm ne1368), (Ne.symm ne1359), ⟨by omega, by omega, by omega⟩, (fun t ht => own_pfcp (own_pfgrow hpb (by omega)) t (by omega)), ⟨hft, Nat.le_refl _⟩, Or.inr ⟨rfl, rfl⟩, Or.inr ⟨_, rfl⟩, Or.inr ⟨_, rfl⟩⟩)
                · have hbz : ib < zpb := own_ltne hzb.2.1 (by omega) hc283_1251
                  refine own_go (B := T1249.setTop (mkF m 334 (LS_RRRIIRIIW r0 r1 r2 (own_N f0) (own_N t0) r5 (own_N ib) (own_N ib) wb8) [(.ref r0), (.int (own_N (t0 - ib)))])) (fun t k => ?_) ?_
                  · refine XS.icmpYes X1249.here hx rfl (pc0 := 283) (pc' := 328) rfl (hb hby d7_283) rfl (feq hc283_1251).2 (by decide) (by decide) ?_
                    refine XS.iload X1249.here hx rfl (hb hby d7_328) rfl ?_
                    show Steps p.tables e below (T1249.setTop (mkF m 330 (LS_RRRIIRIIW r0 r1 r2 (own_N f0) (own_N t0) r5 (own_N ib) (own_N ib) wb8) [(.int (own_N t0))])) _
                    refine XS.iload X1249.here hx rfl (hb hby d7_330) rfl ?_
                    refine XS.isub X1249.here hx rfl (hb hby d7_332) rfl ?_
                    change Steps p.tables e below (T1249.setTop (mkF m 333 (LS_RRRIIRIIW r0 r1 r2 (own_N f0) (own_N t0) r5 (own_N ib) (own_N ib) wb8) [(.int ((own_N t0) - (own_N ib)))])) _
                    rw [show ((own_N t0) - (own_N ib)) = (own_N (t0 - ib)) from own_Nsub (by omega) (by omega)]
                    refine XS.aloadN X1249.here hx rfl (hb hby d7_333) rfl rfl ?_
                    exact k
                  obtain ⟨T1378, X1378, e1378, st1378⟩ := getF X1249 hx hZ hown (host := "") (Or.inl (hw _ (List.mem_of_getElem? (i := 35) rfl))) Via.refl e1249 bF_page (g := (mkF m 334 (LS_RRRIIRIIW r0 r1 r2 (own_N f0) (own_N t0) r5 (own_N ib) (own_N ib) wb8) [(.ref r0), (.int (own_N (t0 - ib)))])) rfl rfl (hb hby d7_334)
                  refine own_go (B := T1378.setTop (mkF m 337 (LS_RRRIIRIIW r0 r1 r2 (own_N f0) (own_N t0) r5 (own_N ib) (own_N ib) wb8) [(.ref qb), (.int (own_N (t0 - ib)))])) (fun t k => st1378 _ k) ?_
                  obtain ⟨cl1379, Ar1379, qa1379, Sa1379, Na1379, Ha1379, Ga1379⟩ := id bVq
                  refine own_go (B := T1378.setTop (mkF m 341 (LS_RRRIIRIIW r0 r1 r2 (own_N f0) (own_N t0) r5 (own_N ib) (own_N ib) wb8) [(.int (own_N (zpb - ib))), (.int (own_N (t0 - ib)))])) (fun t k => ?_) ?_
                  · refine X1378.arraylength hx (by rw [e1378]; exact Ar1379.1) (State.isArrayOf_alike hZ.alike Ar1379.2.1) (g := (mkF m 337 (LS_RRRIIRIIW r0 r1 r2 (own_N f0) (own_N t0) r5 (own_N ib) (own_N ib) wb8) [(.ref qb), (.int (own_N (t0 - ib)))])) rfl rfl (hb hby d7_337) _ ?_
                    rw [len_of Sa1379 Na1379]
                    refine XS.iload X1378.here hx rfl (hb hby d7_338) rfl ?_
                    show Steps p.tables e below (T1378.setTop (mkF m 340 (LS_RRRIIRIIW r0 r1 r2 (own_N f0) (own_N t0) r5 (own_N ib) (own_N ib) wb8) [(.int (own_N ib)), (.int (own_N zpb)), (.int (own_N (t0 - ib)))])) _
                    refine XS.isub X1378.here hx rfl (hb hby d7_340) rfl ?_
                    change Steps p.tables e below (T1378.setTop (mkF m 341 (LS_RRRIIRIIW r0 r1 r2 (own_N f0) (own_N t0) r5 (own_N ib) (own_N ib) wb8) [(.int ((own_N zpb) - (own_N ib))), (.int (own_N (t0 - ib)))])) _
                    rw [show ((own_N zpb) - (own_N ib)) = (own_N (zpb - ib)) from own_Nsub (by omega) (by omega)]
                    exact k
                  obtain ⟨_, _, ⟨T1380, L1380, k1380, n1380⟩, -, X1380, ⟨Lc1380, hQ1380, l1380, y1380, z1380⟩, st1380⟩ := Jvm.LawKit.callS X1378 hx (y := (⟨"java/lang/Math", "min", "(II)I"⟩ : MethodName)) hown (mvT hZ (hw _ (List.mem_of_getElem? (i := 50) rfl))) (mvT hZ (hw _ (List.mem_of_getElem? (i := 51) rfl))) (mvT hZ (hw _ (List.mem_of_getElem? (i := 52) rfl))) (mvT hZ (hw _ (List.mem_of_getElem? (i := 53) rfl))) (by decide) (backOf (W := 0) (rmmin l Z a0 hw [] (own_N (t0 - ib)) (own_N (zpb - ib)) Tb.heap n0 bZ) hZ (hw _ (List.mem_of_getElem? (i := 53) rfl)) (hw _ (List.mem_of_getElem? (i := 52) rfl)) (by decide) (by decide)) (g := (mkF m 341 (LS_RRRIIRIIW r0 r1 r2 (own_N f0) (own_N t0) r5 (own_N ib) (own_N ib) wb8) [(.int (own_N (zpb - ib))), (.int (own_N (t0 - ib)))])) rfl (by rw [hml]; rfl) (argsL := [(.int (own_N (t0 - ib))), (.int (own_N (zpb - ib)))]) (rest := []) (lenOf pd__II_I rfl) rfl (by show 2 * 0 + _ ≤ _; exact Nat.le_of_eq rfl) (hb hby d7_341) (fun _ _ => ⟨rfl, e1378, (by decide : 1 + 0 ≤ _), (by decide : 32 + 0 ≤ _)⟩)
                  dsimp only [Pt.U, Pt.locs, Pt.cells, Pt.slots] at X1380 l1380 y1380 z1380 st1380 hQ1380
                  subst l1380 y1380 z1380
                  obtain ⟨rfl, N1380q, e1380⟩ := hQ1380
                  have N1380 := Fr.app Nb N1380q
                  refine own_go (B := T1380.setTop (mkF m 344 (LS_RRRIIRIIW r0 r1 r2 (own_N f0) (own_N t0) r5 (own_N ib) (own_N ib) wb8) [(.int (if (own_N (zpb - ib)) < (own_N (t0 - ib)) then (own_N (zpb - ib)) else (own_N (t0 - ib))))])) (fun t k => st1380 _ k) ?_
                  have hmn : min (t0 - ib) (zpb - ib) ≤ t0 - ib ∧ min (t0 - ib) (zpb - ib) ≤ zpb - ib ∧ 0 < min (t0 - ib) (zpb - ib) := by omega
                  refine own_go (B := T1380.setTop (mkF m 350 (LS_RRRIIRIII r0 r1 r2 (own_N f0) (own_N t0) r5 (own_N ib) (own_N ib) (own_N (min (t0 - ib) (zpb - ib)))) [(.ref r0), (.int (own_N ib)), (.ref r2)])) (fun t k => ?_) ?_
                  · change Steps p.tables e below (T1380.setTop (mkF m 344 (LS_RRRIIRIIW r0 r1 r2 (own_N f0) (own_N t0) r5 (own_N ib) (own_N ib) wb8) [(.int (if (own_N (zpb - ib)) < (own_N (t0 - ib)) then (own_N (zpb - ib)) else (own_N (t0 - ib))))])) _
                    rw [show (if (own_N (zpb - ib)) < (own_N (t0 - ib)) then (own_N (zpb - ib)) else (own_N (t0 - ib))) = (own_N (min (t0 - ib) (zpb - ib))) from own_Nmin (by omega) (by omega)]
                    refine XS.istore X1380.here hx rfl (hb hby d7_344) rfl (l' := (LS_RRRIIRIII r0 r1 r2 (own_N f0) (own_N t0) r5 (own_N ib) (own_N ib) (own_N (min (t0 - ib) (zpb - ib))))) (by rcases hwb8 with rfl | ⟨_, rfl⟩ <;> rfl) ?_
                    refine XS.aloadN X1380.here hx rfl (hb hby d7_346) rfl rfl ?_
                    show Steps p.tables e below (T1380.setTop (mkF m 347 (LS_RRRIIRIII r0 r1 r2 (own_N f0) (own_N t0) r5 (own_N ib) (own_N ib) (own_N (min (t0 - ib) (zpb - ib)))) [(.ref r2)])) _
                    refine XS.iload X1380.here hx rfl (hb hby d7_347) rfl ?_
                    refine XS.aloadN X1380.here hx rfl (hb hby d7_349) rfl rfl ?_
                    exact k
                  obtain ⟨T1381, X1381, e1381, st1381⟩ := getF X1380 hx hZ hown (host := "") (Or.inl (hw _ (List.mem_of_getElem? (i := 35) rfl))) Via.refl e1380 bF_page (g := (mkF m 350 (LS_RRRIIRIII r0 r1 r2 (own_N f0) (own_N t0) r5 (own_N ib) (own_N ib) (own_N (min (t0 - ib) (zpb - ib)))) [(.ref r0), (.int (own_N ib)), (.ref r2)])) rfl rfl (hb hby d7_350)
                  refine own_go (B := T1381.setTop (mkF m 353 (LS_RRRIIRIII r0 r1 r2 (own_N f0) (own_N t0) r5 (own_N ib) (own_N ib) (own_N (min (t0 - ib) (zpb - ib)))) [(.ref qb), (.int (own_N ib)), (.ref r2)])) (fun t k => st1381 _ k) ?_
                  refine own_go (B := T1381.setTop (mkF m 357 (LS_RRRIIRIII r0 r1 r2 (own_N f0) (own_N t0) r5 (own_N ib) (own_N ib) (own_N (min (t0 - ib) (zpb - ib)))) [(.int (own_N (min (t0 - ib) (zpb - ib)))), (.int (own_N ib)), (.ref qb), (.int (own_N ib)), (.ref r2)])) (fun t k => ?_) ?_
                  · refine XS.iload X1381.here hx rfl (hb hby d7_353) rfl ?_
                    refine XS.iload X1381.here hx rfl (hb hby d7_355) rfl ?_
                    exact k
                  obtain ⟨T1382, h1382, L1382, X1382, e1382, N1382, K1382, V1382, st1382⟩ := own_cpA (sp := ib) (dp := ib) (nn := (min (t0 - ib) (zpb - ib))) X1381 hx hZ hown (hw _ (List.mem_of_getElem? (i := 59) rfl)) (hw _ (List.mem_of_getElem? (i := 62) rfl)) (hw _ (List.mem_of_getElem? (i := 60) rfl)) (hw _ (List.mem_of_getElem? (i := 61) rfl)) e1381 bVp bVq (by omega) (by omega) (by omega) (by omega) N1380 g_qb (g := (mkF m 357 (LS_RRRIIRIII r0 r1 r2 (own_N f0) (own_N t0) r5 (own_N ib) (own_N ib) (own_N (min (t0 - ib) (zpb - ib)))) [(.int (own_N (min (t0 - ib) (zpb - ib)))), (.int (own_N ib)), (.ref qb), (.int (own_N ib)), (.ref r2)])) rfl (by rw [hml]; rfl) rfl (hb hby d7_357) (by decide) (W := 0) (by show 2 * 0 + _ ≤ _; exact Nat.le_of_eq rfl) (by decide)
                  refine own_go (B := T1382.setTop (mkF m 360 (LS_RRRIIRIII r0 r1 r2 (own_N f0) (own_N t0) r5 (own_N ib) (own_N ib) (own_N (min (t0 - ib) (zpb - ib)))) [])) (fun t k => st1382 _ k) ?_
                  have ne1384 : r0 ≠ qb := Exa.ne bE bEq (by decide)
                  have bF_positionCount_v1383 := bF_positionCount.keep K1382 (ninS ne1384 nin0)
                  refine own_go (B := T1382.setTop (mkF m 362 (LS_RRRIIRIII r0 r1 r2 (own_N f0) (own_N t0) r5 (own_N ib) (own_N ib) (own_N (min (t0 - ib) (zpb - ib)))) [(.ref r0), (.ref r0)])) (fun t k => ?_) ?_
                  · refine XS.aloadN X1382.here hx rfl (hb hby d7_360) rfl rfl ?_
                    refine XS.dup X1382.here hx rfl (hb hby d7_361) rfl rfl ?_
                    exact k
                  obtain ⟨T1385, X1385, e1385, st1385⟩ := getF X1382 hx hZ hown (host := "") (Or.inl (hw _ (List.mem_of_getElem? (i := 44) rfl))) Via.refl e1382 bF_positionCount_v1383 (g := (mkF m 362 (LS_RRRIIRIII r0 r1 r2 (own_N f0) (own_N t0) r5 (own_N ib) (own_N ib) (own_N (min (t0 - ib) (zpb - ib)))) [(.ref r0), (.ref r0)])) rfl rfl (hb hby d7_362)
                  refine own_go (B := T1385.setTop (mkF m 365 (LS_RRRIIRIII r0 r1 r2 (own_N f0) (own_N t0) r5 (own_N ib) (own_N ib) (own_N (min (t0 - ib) (zpb - ib)))) [(.int (own_N ib)), (.ref r0)])) (fun t k => st1385 _ k) ?_
                  refine own_go (B := T1385.setTop (mkF m 368 (LS_RRRIIRIII r0 r1 r2 (own_N f0) (own_N t0) r5 (own_N ib) (own_N ib) (own_N (min (t0 - ib) (zpb - ib)))) [(.int (own_N (ib + min (t0 - ib) (zpb - ib)))), (.ref r0)])) (fun t k => ?_) ?_
                  · refine XS.iload X1385.here hx rfl (hb hby d7_365) rfl ?_
                    refine XS.iadd X1385.here hx rfl (hb hby d7_367) rfl ?_
                    change Steps p.tables e below (T1385.setTop (mkF m 368 (LS_RRRIIRIII r0 r1 r2 (own_N f0) (own_N t0) r5 (own_N ib) (own_N ib) (own_N (min (t0 - ib) (zpb - ib)))) [(.int ((own_N ib) + (own_N (min (t0 - ib) (zpb - ib))))), (.ref r0)])) _
                    rw [show ((own_N ib) + (own_N (min (t0 - ib) (zpb - ib)))) = (own_N (ib + min (t0 - ib) (zpb - ib))) from own_Nadd (by omega)]
                    exact k
                  have bE_v1386 := bE.keep K1382
                  obtain ⟨T1387, h1387, X1387, e1387, W1387, st1387⟩ := putF X1385 hx hZ hown (host := "") (Or.inl (hw _ (List.mem_of_getElem? (i := 44) rfl))) Via.refl e1385 bF_positionCount_v1383 bE_v1386 (Or.inl (hw _ (List.mem_of_getElem? (i := 45) rfl))) (hw _ (List.mem_of_getElem? (i := 17) rfl)) (ty := .int) (by decide) rfl rfl (g := (mkF m 368 (LS_RRRIIRIII r0 r1 r2 (own_N f0) (own_N t0) r5 (own_N ib) (own_N ib) (own_N (min (t0 - ib) (zpb - ib)))) [(.int (own_N (ib + min (t0 - ib) (zpb - ib)))), (.ref r0)])) rfl rfl (hb hby d7_368)
                  have N1387 := Fr.snoc X1387 N1382 g_r0
                  have Fw1387 := bF_positionCount_v1383.same W1387
                  refine own_go (B := T1387.setTop (mkF m 371 (LS_RRRIIRIII r0 r1 r2 (own_N f0) (own_N t0) r5 (own_N ib) (own_N ib) (own_N (min (t0 - ib) (zpb - ib)))) [])) (fun t k => st1387 _ k) ?_
                  refine own_go (B := T1387.setTop (mkF m 187 (LS_RRRIIRIII r0 r1 r2 (own_N f0) (own_N t0) r5 (own_N (ib + min (t0 - ib) (zpb - ib))) (own_N ib) (own_N (min (t0 - ib) (zpb - ib)))) [])) (fun t k => ?_) ?_
                  · refine XS.iload X1387.here hx rfl (hb hby d7_371) rfl ?_
                    refine XS.iload X1387.here hx rfl (hb hby d7_373) rfl ?_
                    show Steps p.tables e below (T1387.setTop (mkF m 375 (LS_RRRIIRIII r0 r1 r2 (own_N f0) (own_N t0) r5 (own_N ib) (own_N ib) (own_N (min (t0 - ib) (zpb - ib)))) [(.int (own_N (min (t0 - ib) (zpb - ib)))), (.int (own_N ib))])) _
                    refine XS.iadd X1387.here hx rfl (hb hby d7_375) rfl ?_
                    change Steps p.tables e below (T1387.setTop (mkF m 376 (LS_RRRIIRIII r0 r1 r2 (own_N f0) (own_N t0) r5 (own_N ib) (own_N ib) (own_N (min (t0 - ib) (zpb - ib)))) [(.int ((own_N ib) + (own_N (min (t0 - ib) (zpb - ib)))))])) _
                    rw [show ((own_N ib) + (own_N (min (t0 - ib) (zpb - ib)))) = (own_N (ib + min (t0 - ib) (zpb - ib))) from own_Nadd (by omega)]
                    refine XS.istore X1387.here hx rfl (hb hby d7_376) rfl (l' := (LS_RRRIIRIII r0 r1 r2 (own_N f0) (own_N t0) r5 (own_N (ib + min (t0 - ib) (zpb - ib))) (own_N ib) (own_N (min (t0 - ib) (zpb - ib))))) rfl ?_
                    refine XS.goto X1387.here hx rfl (pc0 := 378) (pc' := 187) rfl (hb hby d7_378) (by decide) (by decide) ?_
                    exact k
                  have bZ_v1388 := Nat.le_trans bZ K1382.1
                  have bZ_v1389 := Nat.le_trans bZ_v1388 (Nat.le_of_eq W1387.size.symm)
                  have bK_v1390 := bK.trans K1382 (allS hib all0)
                  have bK_v1391 := bK_v1390.wr W1387 (Or.inl (List.mem_of_getElem? (i := 0) rfl))
                  have bE_v1392 := bE_v1386.wr W1387
                  have bF_entries_v1393 := bF_entries.keep K1382 (ninS ne1384 nin0)
                  have bF_entries_v1394 := bF_entries_v1393.other W1387 (Or.inr (slot_ne (Or.inl (hw _ (List.mem_of_getElem? (i := 26) rfl))) (Or.inl (hw _ (List.mem_of_getElem? (i := 45) rfl))) (by decide) (t := (.array .int)) (t' := .int) (by decide) (by decide)))
                  have bF_size_v1395 := bF_size.keep K1382 (ninS ne1384 nin0)
                  have bF_size_v1396 := bF_size_v1395.other W1387 (Or.inr (slot_ne (Or.inl (hw _ (List.mem_of_getElem? (i := 47) rfl))) (Or.inl (hw _ (List.mem_of_getElem? (i := 45) rfl))) (by decide) (t := .int) (t' := .int) (by decide) (by decide)))
                  have bF_lastDoc_v1397 := bF_lastDoc.keep K1382 (ninS ne1384 nin0)
                  have bF_lastDoc_v1398 := bF_lastDoc_v1397.other W1387 (Or.inr (slot_ne (Or.inl (hw _ (List.mem_of_getElem? (i := 28) rfl))) (Or.inl (hw _ (List.mem_of_getElem? (i := 45) rfl))) (by decide) (t := .int) (t' := .int) (by decide) (by decide)))
                  have bF_lastFreq_v1399 := bF_lastFreq.keep K1382 (ninS ne1384 nin0)
                  have bF_lastFreq_v1400 := bF_lastFreq_v1399.other W1387 (Or.inr (slot_ne (Or.inl (hw _ (List.mem_of_getElem? (i := 49) rfl))) (Or.inl (hw _ (List.mem_of_getElem? (i := 45) rfl))) (by decide) (t := .int) (t' := .int) (by decide) (by decide)))
                  have bF_maxFreq_v1401 := bF_maxFreq.keep K1382 (ninS ne1384 nin0)
                  have bF_maxFreq_v1402 := bF_maxFreq_v1401.other W1387 (Or.inr (slot_ne (Or.inl (hw _ (List.mem_of_getElem? (i := 55) rfl))) (Or.inl (hw _ (List.mem_of_getElem? (i := 45) rfl))) (by decide) (t := .int) (t' := .int) (by decide) (by decide)))
                  have bF_shortestLength_v1403 := bF_shortestLength.keep K1382 (ninS ne1384 nin0)
                  have bF_shortestLength_v1404 := bF_shortestLength_v1403.other W1387 (Or.inr (slot_ne (Or.inl (hw _ (List.mem_of_getElem? (i := 30) rfl))) (Or.inl (hw _ (List.mem_of_getElem? (i := 45) rfl))) (by decide) (t := .int) (t' := .int) (by decide) (by decide)))
                  have bF_pages_v1405 := bF_pages.keep K1382 (ninS ne1384 nin0)
                  have bF_pages_v1406 := bF_pages_v1405.other W1387 (Or.inr (slot_ne (Or.inl (hw _ (List.mem_of_getElem? (i := 34) rfl))) (Or.inl (hw _ (List.mem_of_getElem? (i := 45) rfl))) (by decide) (t := (.array (.array .int))) (t' := .int) (by decide) (by decide)))
                  have bF_page_v1407 := bF_page.keep K1382 (ninS ne1384 nin0)
                  have bF_page_v1408 := bF_page_v1407.other W1387 (Or.inr (slot_ne (Or.inl (hw _ (List.mem_of_getElem? (i := 36) rfl))) (Or.inl (hw _ (List.mem_of_getElem? (i := 45) rfl))) (by decide) (t := (.array .int)) (t' := .int) (by decide) (by decide)))
                  have bVe_v1409 := bVe.keep K1382 (ninS neb nin0)
                  have ne1411 : r0 ≠ ea := Exa.neArv bE_v1386 bVe_v1409 (hw _ (List.mem_of_getElem? (i := 17) rfl))
                  have bVe_v1410 := bVe_v1409.other W1387 (Ne.symm ne1411)
                  have V1382_v1412 := V1382.other W1387 (Ne.symm ne1384)
                  have bEq_v1413 := bEq.keep K1382
                  have bEq_v1414 := bEq_v1413.wr W1387
                  have ne1416 : pg ≠ qb := own_neT bVg bVq (by decide)
                  have bVg_v1415 := bVg.keep K1382 (ninS ne1416 nin0)
                  have ne1418 : r0 ≠ pg := Exa.neArv bE bVg (hw _ (List.mem_of_getElem? (i := 17) rfl))
                  have bVg_v1417 := bVg_v1415.other W1387 (Ne.symm ne1418)
                  have bVp_v1419 := bVp.keep K1382 (ninS (Ne.symm nqb2) nin0)
                  have ne1421 : r0 ≠ r2 := Exa.neArv bE_v1386 bVp_v1419 (hw _ (List.mem_of_getElem? (i := 17) rfl))
                  have bVp_v1420 := bVp_v1419.other W1387 (Ne.symm ne1421)
                  have bVd_v1422 := bVd.keep K1382 (ninS (Ne.symm nqb1) nin0)
                  have ne1424 : r0 ≠ r1 := Exa.neArv bE_v1386 bVd_v1422 (hw _ (List.mem_of_getElem? (i := 17) rfl))
                  have bVd_v1423 := bVd_v1422.other W1387 (Ne.symm ne1424)
                  have ne1426 : r5 ≠ qb := own_neT bVl bVq (by decide)
                  have bVl_v1425 := bVl.keep K1382 (ninS ne1426 nin0)
                  have ne1428 : r0 ≠ r5 := Exa.neArv bE bVl (hw _ (List.mem_of_getElem? (i := 17) rfl))
                  have bVl_v1427 := bVl_v1425.other W1387 (Ne.symm ne1428)
                  exact IHb ((ib + min (t0 - ib) (zpb - ib)), 0, (.val (.int (own_N ib))), (.val (.int (own_N (min (t0 - ib) (zpb - ib)))))) _ _ (show t0 - ((ib + min (t0 - ib) (zpb - ib))) < t0 - ib by omega) (own_mono X1387 (by simp) (by simp)) N1387 (by rw [e1387]; exact ⟨qb, kqb, _, _, bZ_v1389, bK_v1391, bE_v1392, bF_entries_v1394, bF_size_v1396, bF_lastDoc_v1398, bF_lastFreq_v1400, bF_maxFreq_v1402, bF_shortestLength_v1404, Fw1387, bF_pages_v1406, bF_page_v1408, bVe_v1410, V1382_v1412, bEq_v1414, bVg_v1417, bVp_v1420, bVd_v1423, bVl_v1427, hib, g_qb, neb, nqb1, nqb2, ⟨by omega, by omega, by omega⟩, (own_pfcp hpb), ⟨by omega, by omega⟩, Or.inl rfl, Or.inr ⟨_, rfl⟩, Or.inr ⟨_, rfl⟩⟩)
            · refine own_go (B := Tb.setTop (mkF m 381 (LS_RRRIIRIWW r0 r1 r2 (own_N f0) (own_N t0) r5 (own_N ib) wb7 wb8) [])) (fun t k => ?_) ?_
              · refine XS.icmpYes Xb.here hx rfl (pc0 := 191) (pc' := 381) rfl (hb hby d7_191) rfl (flt hc191_1065).2.1 (by decide) (by decide) ?_
                exact k
              obtain ⟨fs, hr, hrun, hended, hW, hsame⟩ := Xb.leave (v := none) (fun _ => rfl) (BodyLoose.notSynchronized Bd)
              refine ⟨_, _, ?_, hrun, hended, _, _, rfl, ?_, ⟨_, rfl⟩, hW, hsame.mono (by decide) (by decide)⟩
              · show Steps p.tables e below (Tb.setTop (mkF m 381 (LS_RRRIIRIWW r0 r1 r2 (own_N f0) (own_N t0) r5 (own_N ib) wb7 wb8) [])) _
                exact Xb.returnOut hx Bd.returns (hb hby d7_381) hr
              · show Qadd Z r0 r1 r2 r5 d ps nd np kd kp kl zl f0 t0 eo qo pg ke kq kg en pf ze zp lf mf sl h0 n0 _ Tb.heap _
                have hbt2 : ib = t0 := by have := own_nlt (x := ib) (n := t0) (by omega) (by omega) hc191_1065; omega
                exact ⟨ea, qb, kea, kqb, ena, pfb, 16, zpb, lfa, mfa, sla, rfl, Nb, bK, bF_entries, (by rw [← hiat]; exact bF_size), (by rw [← hiat]; exact bF_lastDoc), bF_lastFreq, bF_maxFreq, bF_shortestLength, (by rw [← hbt2]; exact bF_positionCount), bF_pages, bF_page, bVe, bVq, bEq, bVg, hia, hib, g_ea, g_qb, neb, nea1, nea2, nqb1, nqb2, Or.inr rfl, (by rw [← hiat]; exact haz), (by rw [← hiat]; exact hHa), ⟨hzb.1, by omega, hzb.2.2⟩, (by rw [← hbt2]; exact hpb)⟩
          · have Xb := own_mono (cells' := 2) (slots' := 64) Xb0 (by simp) (by simp)
            refine own_go (B := Tb.setTop (mkF m 187 (LS_RRRIIRIWW r0 r1 r2 (own_N f0) (own_N t0) r5 (own_N ib) wb7 wb8) [])) (fun t k => k) ?_
            refine own_go (B := Tb.setTop (mkF m 191 (LS_RRRIIRIWW r0 r1 r2 (own_N f0) (own_N t0) r5 (own_N ib) wb7 wb8) [(.int (own_N t0)), (.int (own_N ib))])) (fun t k => ?_) ?_
            · refine XS.iload Xb.here hx rfl (hb hby d7_187) rfl ?_
              refine XS.iload Xb.here hx rfl (hb hby d7_189) rfl ?_
              exact k
            by_cases hc191_1429 : (own_N ib) < (own_N t0)
            · refine own_go (B := Tb.setTop (mkF m 194 (LS_RRRIIRIWW r0 r1 r2 (own_N f0) (own_N t0) r5 (own_N ib) wb7 wb8) [])) (fun t k => ?_) ?_
              · refine XS.icmpNo Xb.here hx rfl (hb hby d7_191) rfl (tlt hc191_1429).2.1 ?_
                exact k
              exact absurd (own_lt (by omega) (by omega) hc191_1429) (by omega)
            · refine own_go (B := Tb.setTop (mkF m 381 (LS_RRRIIRIWW r0 r1 r2 (own_N f0) (own_N t0) r5 (own_N ib) wb7 wb8) [])) (fun t k => ?_) ?_
              · refine XS.icmpYes Xb.here hx rfl (pc0 := 191) (pc' := 381) rfl (hb hby d7_191) rfl (flt hc191_1429).2.1 (by decide) (by decide) ?_
                exact k
              obtain ⟨fs, hr, hrun, hended, hW, hsame⟩ := Xb.leave (v := none) (fun _ => rfl) (BodyLoose.notSynchronized Bd)
              refine ⟨_, _, ?_, hrun, hended, _, _, rfl, ?_, ⟨_, rfl⟩, hW, hsame.mono (by decide) (by decide)⟩
              · show Steps p.tables e below (Tb.setTop (mkF m 381 (LS_RRRIIRIWW r0 r1 r2 (own_N f0) (own_N t0) r5 (own_N ib) wb7 wb8) [])) _
                exact Xb.returnOut hx Bd.returns (hb hby d7_381) hr
              · show Qadd Z r0 r1 r2 r5 d ps nd np kd kp kl zl f0 t0 eo qo pg ke kq kg en pf ze zp lf mf sl h0 n0 _ Tb.heap _
                have hbt2 : ib = t0 := by have := own_nlt (x := ib) (n := t0) (by omega) (by omega) hc191_1429; omega
                exact ⟨ea, qb, kea, kqb, ena, pfb, 16, zpb, lfa, mfa, sla, rfl, Nb, bK, bF_entries, (by rw [← hiat]; exact bF_size), (by rw [← hiat]; exact bF_lastDoc), bF_lastFreq, bF_maxFreq, bF_shortestLength, (by rw [← hbt2]; exact bF_positionCount), bF_pages, bF_page, bVe, bVq, bEq, bVg, hia, hib, g_ea, g_qb, neb, nea1, nea2, nqb1, nqb2, Or.inr rfl, (by rw [← hiat]; exact haz), (by rw [← hiat]; exact hHa), ⟨hzb.1, by omega, hzb.2.2⟩, (by rw [← hbt2]; exact hpb)⟩
        · exact fun rest => rest (f0, 0, wa7, .unset) _ _ (own_mono Xa (by simp) (by simp)) Na ⟨qo, kq, pf, zp, aZ, aK, aE, aF_entries, aF_size, aF_lastDoc, aF_lastFreq, aF_maxFreq, aF_shortestLength, aF_positionCount, aF_pages, aF_page, aVe, aVq, aEq, aVg, aVp, aVd, aVl, Or.inl (List.mem_of_getElem? (i := 2) rfl), g_qo, nea, nqq1, nqq2, hzp, hpf, ⟨Nat.le_refl _, hft⟩, Or.inl rfl, hwa7, Or.inl rfl⟩
  · exact fun rest => rest (f0, ze, .unset) _ _ (own_mono X1 (Nat.zero_le _) (Nat.zero_le _)) N0 (by rw [e1]; exact ⟨eo, ke, en, lf, mf, sl, Z0, K0, E0, F_entries, F_size, F_lastDoc, F_lastFreq, F_maxFreq, F_shortestLength, F_positionCount, F_pages, F_page, Ve, Vq, Exq, Vg, Vp, Vd, Vl, Or.inl (List.mem_of_getElem? (i := 1) rfl), g_eo, neq, nee1, nee2, hze, hsz, hH, Nat.le_refl _, hft, Or.inl rfl⟩)
theorem ef_frq (m : MethodId) (p0 : Int32) (jj : Nat) (nn : Nat) : entryFrame m #[(.int p0), (.int (own_N jj)), (.int (own_N nn))] 3 = mkF m 0 #[.val (.int p0), .val (.int (own_N jj)), .val (.int (own_N nn))] [] := by first | (simp [entryFrame, mkF, argsToLocals, Value.category]; done) | rfl
theorem pn_1 : plainName "com/example/terms_to_scores/termstoscores/index/PostingsGetFreqPinLaw" = true := by first | (simp [plainName, overriddenIn]; done) | decide +kernel
abbrev LS_III (a0 : Int32) (a1 : Int32) (a2 : Int32) : Array Slot := #[.val (.int a0), .val (.int a1), .val (.int a2)]
theorem d1_0 : decode method_2_code 0 = .ok (.iload_n 1, 1) := by decide +kernel
theorem d1_1 : decode method_2_code 1 = .ok (.iload_n 2, 1) := by decide +kernel
theorem d1_2 : decode method_2_code 2 = .ok (.if_icmp .lt 5, 3) := by decide +kernel
theorem d1_7 : decode method_2_code 7 = .ok (.iload_n 0, 1) := by decide +kernel
theorem d1_8 : decode method_2_code 8 = .ok (.iconst 2, 1) := by decide +kernel
theorem d1_9 : decode method_2_code 9 = .ok (.iload_n 1, 1) := by decide +kernel
theorem d1_10 : decode method_2_code 10 = .ok (.imul, 1) := by decide +kernel
theorem d1_11 : decode method_2_code 11 = .ok (.iushr, 1) := by decide +kernel
theorem d1_12 : decode method_2_code 12 = .ok (.iconst 3, 1) := by decide +kernel
theorem d1_13 : decode method_2_code 13 = .ok (.iand, 1) := by decide +kernel
theorem d1_14 : decode method_2_code 14 = .ok (.iconst 3, 1) := by decide +kernel
theorem d1_15 : decode method_2_code 15 = .ok (.irem, 1) := by decide +kernel
theorem d1_16 : decode method_2_code 16 = .ok (.iconst 1, 1) := by decide +kernel
theorem d1_17 : decode method_2_code 17 = .ok (.iadd, 1) := by decide +kernel
theorem d1_18 : decode method_2_code 18 = .ok (.ireturn, 1) := by decide +kernel
theorem d1_5 : decode method_2_code 5 = .ok (.iconst 0, 1) := by decide +kernel
theorem d1_6 : decode method_2_code 6 = .ok (.ireturn, 1) := by decide +kernel
def Qfrq (Z : State) (p0 : Int32) (jj : Nat) (nn : Nat) (h0 : Heap) (n0 : Nat) (v : Option Value) (h : Heap) (L : List Loc) : Prop := ∃ c : Nat, v = some (.int (own_N c)) ∧ Fr n0 L ∧ h = h0 ∧ own_FF nn jj c
set_option maxRecDepth 65536 in
set_option maxHeartbeats 40000000 in
theorem rmfrq (l : Launch) (Z : State) (a0 : Array Value) (hw : ∀ d ∈ tables_1, d.before a0 Z = true) (ws : List Jvm.Cond) (p0 : Int32) (jj : Nat) (nn : Nat) (h0 : Heap) (n0 : Nat) (Z0 : n0 ≤ h0.size) (hj : jj < 5) (hn : nn ≤ 5) :
    MetFree l (⟨"com/example/terms_to_scores/termstoscores/index/PostingsGetFreqPinLaw", "freq", "(III)I"⟩ : MethodName) (head1 (Jvm.Cond.code (⟨"com/example/terms_to_scores/termstoscores/index/PostingsGetFreqPinLaw", "freq", "(III)I"⟩ : MethodName) method_2_code 3 (some .int) :: ws) ({ frames := 0, cells := 0, slots := 0, locals := 0 } : Room)) (fun a U => a = #[(.int p0), (.int (own_N jj)), (.int (own_N nn))] ∧ Z.Warmed39 U.vm ∧ U.heap = h0) (fun _ _ _ _ _ => True) (fun _ U o U' => ∃ v L, o = .returned v ∧ Qfrq Z p0 jj nn h0 n0 v U'.heap L ∧ FrameEnd U o U' L ({ frames := 0, cells := 0, slots := 0, locals := 0 } : Room).cells ({ frames := 0, cells := 0, slots := 0, locals := 0 } : Room).slots) := by
  refine MetFree.of_bodySF (plainFor_of_name pn_1) hisR ?_
  intro p e s m args below meth c s₁ Bd hml0 hP hK
  obtain ⟨rfl, hZ, hh⟩ := hP
  have hx := Bd.exec
  have hby := Bd.bytes
  have hml : c.maxLocals = 3 := hml0
  have hown : s.vm.findClass "com/example/terms_to_scores/termstoscores/index/PostingsGetFreqPinLaw" = some m.cls := findClass_of_methodNamed Bd.named
  have hnm := (name_of_methodNamed Bd.named Bd.method).1
  have X0 : Stand p l e ({ frames := 0, cells := 0, slots := 0, locals := 0 } : Room) s m #[(.int p0), (.int (own_N jj)), (.int (own_N nn))] below meth c s₁ [] 0 0 := Stand.of_body Bd
  have e0 : s₁.heap = h0 := by rw [← hh, Bd.state]; rfl
  have N0 := Fr.nil n0
  refine own_go (B := s₁.setTop (mkF m 0 (LS_III p0 (own_N jj) (own_N nn)) [])) (fun t k => castTop (ef_frq m p0 jj nn) k) ?_
  refine own_go (B := s₁.setTop (mkF m 2 (LS_III p0 (own_N jj) (own_N nn)) [(.int (own_N nn)), (.int (own_N jj))])) (fun t k => ?_) ?_
  · show Steps p.tables e below (s₁.setTop (mkF m 0 (LS_III p0 (own_N jj) (own_N nn)) [])) _
    refine XS.iloadN X0.here hx rfl (hb hby d1_0) rfl ?_
    show Steps p.tables e below (s₁.setTop (mkF m 1 (LS_III p0 (own_N jj) (own_N nn)) [(.int (own_N jj))])) _
    refine XS.iloadN X0.here hx rfl (hb hby d1_1) rfl ?_
    exact k
  by_cases hc2_1 : (own_N jj) < (own_N nn)
  · obtain ⟨c, hc, ec⟩ := own_fq ((p0.toUInt32 >>> (((2 : Int32) * (own_N jj)) &&& 31).toUInt32).toInt32)
    refine own_go (B := s₁.setTop (mkF m 18 (LS_III p0 (own_N jj) (own_N nn)) [(.int (own_N c))])) (fun t k => ?_) ?_
    · show Steps p.tables e below (s₁.setTop (mkF m 2 (LS_III p0 (own_N jj) (own_N nn)) [(.int (own_N nn)), (.int (own_N jj))])) _
      refine XS.icmpYes X0.here hx rfl (pc0 := 2) (pc' := 7) rfl (hb hby d1_2) rfl (tlt hc2_1).1 (by decide) (by decide) ?_
      show Steps p.tables e below (s₁.setTop (mkF m 7 (LS_III p0 (own_N jj) (own_N nn)) [])) _
      refine XS.iloadN X0.here hx rfl (hb hby d1_7) rfl ?_
      show Steps p.tables e below (s₁.setTop (mkF m 8 (LS_III p0 (own_N jj) (own_N nn)) [(.int p0)])) _
      refine XS.iconst X0.here hx rfl (hb hby d1_8) ?_
      show Steps p.tables e below (s₁.setTop (mkF m 9 (LS_III p0 (own_N jj) (own_N nn)) [(.int (2 : Int32)), (.int p0)])) _
      refine XS.iloadN X0.here hx rfl (hb hby d1_9) rfl ?_
      show Steps p.tables e below (s₁.setTop (mkF m 10 (LS_III p0 (own_N jj) (own_N nn)) [(.int (own_N jj)), (.int (2 : Int32)), (.int p0)])) _
      refine XS.imul X0.here hx rfl (hb hby d1_10) rfl ?_
      show Steps p.tables e below (s₁.setTop (mkF m 11 (LS_III p0 (own_N jj) (own_N nn)) [(.int ((2 : Int32) * (own_N jj))), (.int p0)])) _
      refine XS.iushr X0.here hx rfl (hb hby d1_11) rfl ?_
      show Steps p.tables e below (s₁.setTop (mkF m 12 (LS_III p0 (own_N jj) (own_N nn)) [(.int ((p0.toUInt32 >>> (((2 : Int32) * (own_N jj)) &&& 31).toUInt32).toInt32))])) _
      refine XS.iconst X0.here hx rfl (hb hby d1_12) ?_
      show Steps p.tables e below (s₁.setTop (mkF m 13 (LS_III p0 (own_N jj) (own_N nn)) [(.int (3 : Int32)), (.int ((p0.toUInt32 >>> (((2 : Int32) * (own_N jj)) &&& 31).toUInt32).toInt32))])) _
      refine XS.iand X0.here hx rfl (hb hby d1_13) rfl ?_
      show Steps p.tables e below (s₁.setTop (mkF m 14 (LS_III p0 (own_N jj) (own_N nn)) [(.int (((p0.toUInt32 >>> (((2 : Int32) * (own_N jj)) &&& 31).toUInt32).toInt32) &&& (3 : Int32)))])) _
      refine XS.iconst X0.here hx rfl (hb hby d1_14) ?_
      show Steps p.tables e below (s₁.setTop (mkF m 15 (LS_III p0 (own_N jj) (own_N nn)) [(.int (3 : Int32)), (.int (((p0.toUInt32 >>> (((2 : Int32) * (own_N jj)) &&& 31).toUInt32).toInt32) &&& (3 : Int32)))])) _
      refine Jvm.RoadKit.iremM X0 hx rfl (hb hby d1_15) rfl (by decide) ?_
      show Steps p.tables e below (s₁.setTop (mkF m 16 (LS_III p0 (own_N jj) (own_N nn)) [(.int ((((p0.toUInt32 >>> (((2 : Int32) * (own_N jj)) &&& 31).toUInt32).toInt32) &&& (3 : Int32)) % (3 : Int32)))])) _
      refine XS.iconst X0.here hx rfl (hb hby d1_16) ?_
      show Steps p.tables e below (s₁.setTop (mkF m 17 (LS_III p0 (own_N jj) (own_N nn)) [(.int (1 : Int32)), (.int ((((p0.toUInt32 >>> (((2 : Int32) * (own_N jj)) &&& 31).toUInt32).toInt32) &&& (3 : Int32)) % (3 : Int32)))])) _
      refine XS.iadd X0.here hx rfl (hb hby d1_17) rfl ?_
      change Steps p.tables e below (s₁.setTop (mkF m 18 (LS_III p0 (own_N jj) (own_N nn)) [(.int (((((p0.toUInt32 >>> (((2 : Int32) * (own_N jj)) &&& 31).toUInt32).toInt32) &&& (3 : Int32)) % (3 : Int32)) + (1 : Int32)))])) _
      rw [show (((((p0.toUInt32 >>> (((2 : Int32) * (own_N jj)) &&& 31).toUInt32).toInt32) &&& (3 : Int32)) % (3 : Int32)) + (1 : Int32)) = (own_N c) from ec]
      exact k
    obtain ⟨fs, hr, hrun, hended, hW, hsame⟩ := X0.leave (v := some (.int (own_N c))) (fun h => by rw [Bd.returns] at h; cases h) (BodyLoose.notSynchronized Bd)
    refine ⟨_, _, ?_, hrun, hended, _, _, rfl, ?_, ⟨_, rfl⟩, hW, hsame.mono (by decide) (by decide)⟩
    · show Steps p.tables e below (s₁.setTop (mkF m 18 (LS_III p0 (own_N jj) (own_N nn)) [(.int (own_N c))])) _
      exact retOut X0 hx Bd.returns rfl (Or.inl ⟨rfl, Or.inl rfl, _, rfl⟩) (hb hby d1_18) hr
    · show Qfrq Z p0 jj nn h0 n0 _ s₁.heap _
      rw [e0]
      exact ⟨c, rfl, N0, rfl, fun _ => hc, fun q => absurd (own_lt (by omega) (by omega) hc2_1) q⟩
  · refine own_go (B := s₁.setTop (mkF m 6 (LS_III p0 (own_N jj) (own_N nn)) [(.int (0 : Int32))])) (fun t k => ?_) ?_
    · show Steps p.tables e below (s₁.setTop (mkF m 2 (LS_III p0 (own_N jj) (own_N nn)) [(.int (own_N nn)), (.int (own_N jj))])) _
      refine XS.icmpNo X0.here hx rfl (hb hby d1_2) rfl (flt hc2_1).1 ?_
      show Steps p.tables e below (s₁.setTop (mkF m 5 (LS_III p0 (own_N jj) (own_N nn)) [])) _
      refine XS.iconst X0.here hx rfl (hb hby d1_5) ?_
      exact k
    obtain ⟨fs, hr, hrun, hended, hW, hsame⟩ := X0.leave (v := some (.int (0 : Int32))) (fun h => by rw [Bd.returns] at h; cases h) (BodyLoose.notSynchronized Bd)
    refine ⟨_, _, ?_, hrun, hended, _, _, rfl, ?_, ⟨_, rfl⟩, hW, hsame.mono (by decide) (by decide)⟩
    · show Steps p.tables e below (s₁.setTop (mkF m 6 (LS_III p0 (own_N jj) (own_N nn)) [(.int (0 : Int32))])) _
      exact retOut X0 hx Bd.returns rfl (Or.inl ⟨rfl, Or.inl rfl, _, rfl⟩) (hb hby d1_6) hr
    · show Qfrq Z p0 jj nn h0 n0 _ s₁.heap _
      rw [e0]
      exact ⟨0, rfl, N0, rfl, fun q => absurd q (own_nlt (by omega) (by omega) hc2_1), fun _ => rfl⟩
theorem ef_whc (m : MethodId) (kk : Nat) (c1 : Nat) (c2 : Nat) (c3 : Nat) (c4 : Nat) : entryFrame m #[(.int (own_N kk)), (.int (own_N c1)), (.int (own_N c2)), (.int (own_N c3)), (.int (own_N c4))] 5 = mkF m 0 #[.val (.int (own_N kk)), .val (.int (own_N c1)), .val (.int (own_N c2)), .val (.int (own_N c3)), .val (.int (own_N c4))] [] := by first | (simp [entryFrame, mkF, argsToLocals, Value.category]; done) | rfl
theorem pn_3 : plainName "com/example/terms_to_scores/termstoscores/index/PostingsGetFreqPinLaw" = true := by first | (simp [plainName, overriddenIn]; done) | decide +kernel
abbrev LS_IIIII (a0 : Int32) (a1 : Int32) (a2 : Int32) (a3 : Int32) (a4 : Int32) : Array Slot := #[.val (.int a0), .val (.int a1), .val (.int a2), .val (.int a3), .val (.int a4)]
theorem d3_0 : decode method_3_code 0 = .ok (.iload_n 0, 1) := by decide +kernel
theorem d3_1 : decode method_3_code 1 = .ok (.iload_n 1, 1) := by decide +kernel
theorem d3_2 : decode method_3_code 2 = .ok (.if_icmp .ge 5, 3) := by decide +kernel
theorem d3_5 : decode method_3_code 5 = .ok (.iconst 0, 1) := by decide +kernel
theorem d3_6 : decode method_3_code 6 = .ok (.ireturn, 1) := by decide +kernel
theorem d3_7 : decode method_3_code 7 = .ok (.iload_n 0, 1) := by decide +kernel
theorem d3_8 : decode method_3_code 8 = .ok (.iload_n 2, 1) := by decide +kernel
theorem d3_9 : decode method_3_code 9 = .ok (.if_icmp .ge 5, 3) := by decide +kernel
theorem d3_12 : decode method_3_code 12 = .ok (.iconst 1, 1) := by decide +kernel
theorem d3_13 : decode method_3_code 13 = .ok (.ireturn, 1) := by decide +kernel
theorem d3_14 : decode method_3_code 14 = .ok (.iload_n 0, 1) := by decide +kernel
theorem d3_15 : decode method_3_code 15 = .ok (.iload_n 3, 1) := by decide +kernel
theorem d3_16 : decode method_3_code 16 = .ok (.if_icmp .ge 5, 3) := by decide +kernel
theorem d3_19 : decode method_3_code 19 = .ok (.iconst 2, 1) := by decide +kernel
theorem d3_20 : decode method_3_code 20 = .ok (.ireturn, 1) := by decide +kernel
theorem d3_21 : decode method_3_code 21 = .ok (.iload_n 0, 1) := by decide +kernel
theorem d3_22 : decode method_3_code 22 = .ok (.iload 4, 2) := by decide +kernel
theorem d3_24 : decode method_3_code 24 = .ok (.if_icmp .ge 5, 3) := by decide +kernel
theorem d3_27 : decode method_3_code 27 = .ok (.iconst 3, 1) := by decide +kernel
theorem d3_28 : decode method_3_code 28 = .ok (.ireturn, 1) := by decide +kernel
theorem d3_29 : decode method_3_code 29 = .ok (.iconst 4, 1) := by decide +kernel
theorem d3_30 : decode method_3_code 30 = .ok (.ireturn, 1) := by decide +kernel
def Qwhc (Z : State) (kk : Nat) (c1 : Nat) (c2 : Nat) (c3 : Nat) (c4 : Nat) (h0 : Heap) (n0 : Nat) (v : Option Value) (h : Heap) (L : List Loc) : Prop := v = some (.int (own_N (own_wh c1 c2 c3 c4 kk))) ∧ Fr n0 L ∧ h = h0
set_option maxRecDepth 65536 in
set_option maxHeartbeats 40000000 in
theorem rmwhc (l : Launch) (Z : State) (a0 : Array Value) (hw : ∀ d ∈ tables_1, d.before a0 Z = true) (ws : List Jvm.Cond) (kk : Nat) (c1 : Nat) (c2 : Nat) (c3 : Nat) (c4 : Nat) (h0 : Heap) (n0 : Nat) (Z0 : n0 ≤ h0.size) (hbk : kk < 100 ∧ c1 < 100 ∧ c2 < 100 ∧ c3 < 100 ∧ c4 < 100) :
    MetFree l (⟨"com/example/terms_to_scores/termstoscores/index/PostingsGetFreqPinLaw", "which", "(IIIII)I"⟩ : MethodName) (head1 (Jvm.Cond.code (⟨"com/example/terms_to_scores/termstoscores/index/PostingsGetFreqPinLaw", "which", "(IIIII)I"⟩ : MethodName) method_3_code 5 (some .int) :: ws) ({ frames := 0, cells := 0, slots := 0, locals := 0 } : Room)) (fun a U => a = #[(.int (own_N kk)), (.int (own_N c1)), (.int (own_N c2)), (.int (own_N c3)), (.int (own_N c4))] ∧ Z.Warmed39 U.vm ∧ U.heap = h0) (fun _ _ _ _ _ => True) (fun _ U o U' => ∃ v L, o = .returned v ∧ Qwhc Z kk c1 c2 c3 c4 h0 n0 v U'.heap L ∧ FrameEnd U o U' L ({ frames := 0, cells := 0, slots := 0, locals := 0 } : Room).cells ({ frames := 0, cells := 0, slots := 0, locals := 0 } : Room).slots) := by
  refine MetFree.of_bodySF (plainFor_of_name pn_3) hisR ?_
  intro p e s m args below meth c s₁ Bd hml0 hP hK
  obtain ⟨rfl, hZ, hh⟩ := hP
  have hx := Bd.exec
  have hby := Bd.bytes
  have hml : c.maxLocals = 5 := hml0
  have hown : s.vm.findClass "com/example/terms_to_scores/termstoscores/index/PostingsGetFreqPinLaw" = some m.cls := findClass_of_methodNamed Bd.named
  have hnm := (name_of_methodNamed Bd.named Bd.method).1
  have X0 : Stand p l e ({ frames := 0, cells := 0, slots := 0, locals := 0 } : Room) s m #[(.int (own_N kk)), (.int (own_N c1)), (.int (own_N c2)), (.int (own_N c3)), (.int (own_N c4))] below meth c s₁ [] 0 0 := Stand.of_body Bd
  have e0 : s₁.heap = h0 := by rw [← hh, Bd.state]; rfl
  have N0 := Fr.nil n0
  refine own_go (B := s₁.setTop (mkF m 0 (LS_IIIII (own_N kk) (own_N c1) (own_N c2) (own_N c3) (own_N c4)) [])) (fun t k => castTop (ef_whc m kk c1 c2 c3 c4) k) ?_
  refine own_go (B := s₁.setTop (mkF m 2 (LS_IIIII (own_N kk) (own_N c1) (own_N c2) (own_N c3) (own_N c4)) [(.int (own_N c1)), (.int (own_N kk))])) (fun t k => ?_) ?_
  · show Steps p.tables e below (s₁.setTop (mkF m 0 (LS_IIIII (own_N kk) (own_N c1) (own_N c2) (own_N c3) (own_N c4)) [])) _
    refine XS.iloadN X0.here hx rfl (hb hby d3_0) rfl ?_
    show Steps p.tables e below (s₁.setTop (mkF m 1 (LS_IIIII (own_N kk) (own_N c1) (own_N c2) (own_N c3) (own_N c4)) [(.int (own_N kk))])) _
    refine XS.iloadN X0.here hx rfl (hb hby d3_1) rfl ?_
    exact k
  by_cases hc2_1 : (own_N kk) < (own_N c1)
  · refine own_go (B := s₁.setTop (mkF m 6 (LS_IIIII (own_N kk) (own_N c1) (own_N c2) (own_N c3) (own_N c4)) [(.int (0 : Int32))])) (fun t k => ?_) ?_
    · show Steps p.tables e below (s₁.setTop (mkF m 2 (LS_IIIII (own_N kk) (own_N c1) (own_N c2) (own_N c3) (own_N c4)) [(.int (own_N c1)), (.int (own_N kk))])) _
      refine XS.icmpNo X0.here hx rfl (hb hby d3_2) rfl (tlt hc2_1).2.1 ?_
      show Steps p.tables e below (s₁.setTop (mkF m 5 (LS_IIIII (own_N kk) (own_N c1) (own_N c2) (own_N c3) (own_N c4)) [])) _
      refine XS.iconst X0.here hx rfl (hb hby d3_5) ?_
      exact k
    obtain ⟨fs, hr, hrun, hended, hW, hsame⟩ := X0.leave (v := some (.int (0 : Int32))) (fun h => by rw [Bd.returns] at h; cases h) (BodyLoose.notSynchronized Bd)
    refine ⟨_, _, ?_, hrun, hended, _, _, rfl, ?_, ⟨_, rfl⟩, hW, hsame.mono (by decide) (by decide)⟩
    · show Steps p.tables e below (s₁.setTop (mkF m 6 (LS_IIIII (own_N kk) (own_N c1) (own_N c2) (own_N c3) (own_N c4)) [(.int (0 : Int32))])) _
      exact retOut X0 hx Bd.returns rfl (Or.inl ⟨rfl, Or.inl rfl, _, rfl⟩) (hb hby d3_6) hr
    · show Qwhc Z kk c1 c2 c3 c4 h0 n0 _ s₁.heap _
      rw [e0]
      exact ⟨by rw [own_wh, if_pos (own_lt (by omega) (by omega) hc2_1)]; rfl, N0, rfl⟩
  · refine own_go (B := s₁.setTop (mkF m 9 (LS_IIIII (own_N kk) (own_N c1) (own_N c2) (own_N c3) (own_N c4)) [(.int (own_N c2)), (.int (own_N kk))])) (fun t k => ?_) ?_
    · show Steps p.tables e below (s₁.setTop (mkF m 2 (LS_IIIII (own_N kk) (own_N c1) (own_N c2) (own_N c3) (own_N c4)) [(.int (own_N c1)), (.int (own_N kk))])) _
      refine XS.icmpYes X0.here hx rfl (pc0 := 2) (pc' := 7) rfl (hb hby d3_2) rfl (flt hc2_1).2.1 (by decide) (by decide) ?_
      show Steps p.tables e below (s₁.setTop (mkF m 7 (LS_IIIII (own_N kk) (own_N c1) (own_N c2) (own_N c3) (own_N c4)) [])) _
      refine XS.iloadN X0.here hx rfl (hb hby d3_7) rfl ?_
      show Steps p.tables e below (s₁.setTop (mkF m 8 (LS_IIIII (own_N kk) (own_N c1) (own_N c2) (own_N c3) (own_N c4)) [(.int (own_N kk))])) _
      refine XS.iloadN X0.here hx rfl (hb hby d3_8) rfl ?_
      exact k
    by_cases hc9_2 : (own_N kk) < (own_N c2)
    · refine own_go (B := s₁.setTop (mkF m 13 (LS_IIIII (own_N kk) (own_N c1) (own_N c2) (own_N c3) (own_N c4)) [(.int (1 : Int32))])) (fun t k => ?_) ?_
      · show Steps p.tables e below (s₁.setTop (mkF m 9 (LS_IIIII (own_N kk) (own_N c1) (own_N c2) (own_N c3) (own_N c4)) [(.int (own_N c2)), (.int (own_N kk))])) _
        refine XS.icmpNo X0.here hx rfl (hb hby d3_9) rfl (tlt hc9_2).2.1 ?_
        show Steps p.tables e below (s₁.setTop (mkF m 12 (LS_IIIII (own_N kk) (own_N c1) (own_N c2) (own_N c3) (own_N c4)) [])) _
        refine XS.iconst X0.here hx rfl (hb hby d3_12) ?_
        exact k
      obtain ⟨fs, hr, hrun, hended, hW, hsame⟩ := X0.leave (v := some (.int (1 : Int32))) (fun h => by rw [Bd.returns] at h; cases h) (BodyLoose.notSynchronized Bd)
      refine ⟨_, _, ?_, hrun, hended, _, _, rfl, ?_, ⟨_, rfl⟩, hW, hsame.mono (by decide) (by decide)⟩
      · show Steps p.tables e below (s₁.setTop (mkF m 13 (LS_IIIII (own_N kk) (own_N c1) (own_N c2) (own_N c3) (own_N c4)) [(.int (1 : Int32))])) _
        exact retOut X0 hx Bd.returns rfl (Or.inl ⟨rfl, Or.inl rfl, _, rfl⟩) (hb hby d3_13) hr
      · show Qwhc Z kk c1 c2 c3 c4 h0 n0 _ s₁.heap _
        rw [e0]
        exact ⟨by rw [own_wh, if_neg (own_nlt (by omega) (by omega) hc2_1), if_pos (own_lt (by omega) (by omega) hc9_2)]; rfl, N0, rfl⟩
    · refine own_go (B := s₁.setTop (mkF m 16 (LS_IIIII (own_N kk) (own_N c1) (own_N c2) (own_N c3) (own_N c4)) [(.int (own_N c3)), (.int (own_N kk))])) (fun t k => ?_) ?_
      · show Steps p.tables e below (s₁.setTop (mkF m 9 (LS_IIIII (own_N kk) (own_N c1) (own_N c2) (own_N c3) (own_N c4)) [(.int (own_N c2)), (.int (own_N kk))])) _
        refine XS.icmpYes X0.here hx rfl (pc0 := 9) (pc' := 14) rfl (hb hby d3_9) rfl (flt hc9_2).2.1 (by decide) (by decide) ?_
        show Steps p.tables e below (s₁.setTop (mkF m 14 (LS_IIIII (own_N kk) (own_N c1) (own_N c2) (own_N c3) (own_N c4)) [])) _
        refine XS.iloadN X0.here hx rfl (hb hby d3_14) rfl ?_
        show Steps p.tables e below (s₁.setTop (mkF m 15 (LS_IIIII (own_N kk) (own_N c1) (own_N c2) (own_N c3) (own_N c4)) [(.int (own_N kk))])) _
        refine XS.iloadN X0.here hx rfl (hb hby d3_15) rfl ?_
        exact k
      by_cases hc16_3 : (own_N kk) < (own_N c3)
      · refine own_go (B := s₁.setTop (mkF m 20 (LS_IIIII (own_N kk) (own_N c1) (own_N c2) (own_N c3) (own_N c4)) [(.int (2 : Int32))])) (fun t k => ?_) ?_
        · show Steps p.tables e below (s₁.setTop (mkF m 16 (LS_IIIII (own_N kk) (own_N c1) (own_N c2) (own_N c3) (own_N c4)) [(.int (own_N c3)), (.int (own_N kk))])) _
          refine XS.icmpNo X0.here hx rfl (hb hby d3_16) rfl (tlt hc16_3).2.1 ?_
          show Steps p.tables e below (s₁.setTop (mkF m 19 (LS_IIIII (own_N kk) (own_N c1) (own_N c2) (own_N c3) (own_N c4)) [])) _
          refine XS.iconst X0.here hx rfl (hb hby d3_19) ?_
          exact k
        obtain ⟨fs, hr, hrun, hended, hW, hsame⟩ := X0.leave (v := some (.int (2 : Int32))) (fun h => by rw [Bd.returns] at h; cases h) (BodyLoose.notSynchronized Bd)
        refine ⟨_, _, ?_, hrun, hended, _, _, rfl, ?_, ⟨_, rfl⟩, hW, hsame.mono (by decide) (by decide)⟩
        · show Steps p.tables e below (s₁.setTop (mkF m 20 (LS_IIIII (own_N kk) (own_N c1) (own_N c2) (own_N c3) (own_N c4)) [(.int (2 : Int32))])) _
          exact retOut X0 hx Bd.returns rfl (Or.inl ⟨rfl, Or.inl rfl, _, rfl⟩) (hb hby d3_20) hr
        · show Qwhc Z kk c1 c2 c3 c4 h0 n0 _ s₁.heap _
          rw [e0]
          exact ⟨by rw [own_wh, if_neg (own_nlt (by omega) (by omega) hc2_1), if_neg (own_nlt (by omega) (by omega) hc9_2), if_pos (own_lt (by omega) (by omega) hc16_3)]; rfl, N0, rfl⟩
      · refine own_go (B := s₁.setTop (mkF m 24 (LS_IIIII (own_N kk) (own_N c1) (own_N c2) (own_N c3) (own_N c4)) [(.int (own_N c4)), (.int (own_N kk))])) (fun t k => ?_) ?_
        · show Steps p.tables e below (s₁.setTop (mkF m 16 (LS_IIIII (own_N kk) (own_N c1) (own_N c2) (own_N c3) (own_N c4)) [(.int (own_N c3)), (.int (own_N kk))])) _
          refine XS.icmpYes X0.here hx rfl (pc0 := 16) (pc' := 21) rfl (hb hby d3_16) rfl (flt hc16_3).2.1 (by decide) (by decide) ?_
          show Steps p.tables e below (s₁.setTop (mkF m 21 (LS_IIIII (own_N kk) (own_N c1) (own_N c2) (own_N c3) (own_N c4)) [])) _
          refine XS.iloadN X0.here hx rfl (hb hby d3_21) rfl ?_
          show Steps p.tables e below (s₁.setTop (mkF m 22 (LS_IIIII (own_N kk) (own_N c1) (own_N c2) (own_N c3) (own_N c4)) [(.int (own_N kk))])) _
          refine XS.iload X0.here hx rfl (hb hby d3_22) rfl ?_
          exact k
        by_cases hc24_4 : (own_N kk) < (own_N c4)
        · refine own_go (B := s₁.setTop (mkF m 28 (LS_IIIII (own_N kk) (own_N c1) (own_N c2) (own_N c3) (own_N c4)) [(.int (3 : Int32))])) (fun t k => ?_) ?_
          · show Steps p.tables e below (s₁.setTop (mkF m 24 (LS_IIIII (own_N kk) (own_N c1) (own_N c2) (own_N c3) (own_N c4)) [(.int (own_N c4)), (.int (own_N kk))])) _
            refine XS.icmpNo X0.here hx rfl (hb hby d3_24) rfl (tlt hc24_4).2.1 ?_
            show Steps p.tables e below (s₁.setTop (mkF m 27 (LS_IIIII (own_N kk) (own_N c1) (own_N c2) (own_N c3) (own_N c4)) [])) _
            refine XS.iconst X0.here hx rfl (hb hby d3_27) ?_
            exact k
          obtain ⟨fs, hr, hrun, hended, hW, hsame⟩ := X0.leave (v := some (.int (3 : Int32))) (fun h => by rw [Bd.returns] at h; cases h) (BodyLoose.notSynchronized Bd)
          refine ⟨_, _, ?_, hrun, hended, _, _, rfl, ?_, ⟨_, rfl⟩, hW, hsame.mono (by decide) (by decide)⟩
          · show Steps p.tables e below (s₁.setTop (mkF m 28 (LS_IIIII (own_N kk) (own_N c1) (own_N c2) (own_N c3) (own_N c4)) [(.int (3 : Int32))])) _
            exact retOut X0 hx Bd.returns rfl (Or.inl ⟨rfl, Or.inl rfl, _, rfl⟩) (hb hby d3_28) hr
          · show Qwhc Z kk c1 c2 c3 c4 h0 n0 _ s₁.heap _
            rw [e0]
            exact ⟨by rw [own_wh, if_neg (own_nlt (by omega) (by omega) hc2_1), if_neg (own_nlt (by omega) (by omega) hc9_2), if_neg (own_nlt (by omega) (by omega) hc16_3), if_pos (own_lt (by omega) (by omega) hc24_4)]; rfl, N0, rfl⟩
        · refine own_go (B := s₁.setTop (mkF m 30 (LS_IIIII (own_N kk) (own_N c1) (own_N c2) (own_N c3) (own_N c4)) [(.int (4 : Int32))])) (fun t k => ?_) ?_
          · show Steps p.tables e below (s₁.setTop (mkF m 24 (LS_IIIII (own_N kk) (own_N c1) (own_N c2) (own_N c3) (own_N c4)) [(.int (own_N c4)), (.int (own_N kk))])) _
            refine XS.icmpYes X0.here hx rfl (pc0 := 24) (pc' := 29) rfl (hb hby d3_24) rfl (flt hc24_4).2.1 (by decide) (by decide) ?_
            show Steps p.tables e below (s₁.setTop (mkF m 29 (LS_IIIII (own_N kk) (own_N c1) (own_N c2) (own_N c3) (own_N c4)) [])) _
            refine XS.iconst X0.here hx rfl (hb hby d3_29) ?_
            exact k
          obtain ⟨fs, hr, hrun, hended, hW, hsame⟩ := X0.leave (v := some (.int (4 : Int32))) (fun h => by rw [Bd.returns] at h; cases h) (BodyLoose.notSynchronized Bd)
          refine ⟨_, _, ?_, hrun, hended, _, _, rfl, ?_, ⟨_, rfl⟩, hW, hsame.mono (by decide) (by decide)⟩
          · show Steps p.tables e below (s₁.setTop (mkF m 30 (LS_IIIII (own_N kk) (own_N c1) (own_N c2) (own_N c3) (own_N c4)) [(.int (4 : Int32))])) _
            exact retOut X0 hx Bd.returns rfl (Or.inl ⟨rfl, Or.inl rfl, _, rfl⟩) (hb hby d3_30) hr
          · show Qwhc Z kk c1 c2 c3 c4 h0 n0 _ s₁.heap _
            rw [e0]
            exact ⟨by rw [own_wh, if_neg (own_nlt (by omega) (by omega) hc2_1), if_neg (own_nlt (by omega) (by omega) hc9_2), if_neg (own_nlt (by omega) (by omega) hc16_3), if_neg (own_nlt (by omega) (by omega) hc24_4)]; rfl, N0, rfl⟩
theorem ef_dno (m : MethodId) (p0 : Int32) (p1 : Int32) : entryFrame m #[(.int p0), (.int p1)] 2 = mkF m 0 #[.val (.int p0), .val (.int p1)] [] := by first | (simp [entryFrame, mkF, argsToLocals, Value.category]; done) | rfl
theorem pn_4 : plainName "com/example/terms_to_scores/termstoscores/index/PostingsGetFreqPinLaw" = true := by first | (simp [plainName, overriddenIn]; done) | decide +kernel
theorem d4_0 : decode method_4_code 0 = .ok (.iconst 2, 1) := by decide +kernel
theorem d4_1 : decode method_4_code 1 = .ok (.iload_n 0, 1) := by decide +kernel
theorem d4_2 : decode method_4_code 2 = .ok (.imul, 1) := by decide +kernel
theorem d4_3 : decode method_4_code 3 = .ok (.iload_n 1, 1) := by decide +kernel
theorem d4_4 : decode method_4_code 4 = .ok (.iload_n 0, 1) := by decide +kernel
theorem d4_5 : decode method_4_code 5 = .ok (.iushr, 1) := by decide +kernel
theorem d4_6 : decode method_4_code 6 = .ok (.iconst 1, 1) := by decide +kernel
theorem d4_7 : decode method_4_code 7 = .ok (.iand, 1) := by decide +kernel
theorem d4_8 : decode method_4_code 8 = .ok (.iadd, 1) := by decide +kernel
theorem d4_9 : decode method_4_code 9 = .ok (.ireturn, 1) := by decide +kernel
def Qdno (Z : State) (p0 : Int32) (p1 : Int32) (h0 : Heap) (n0 : Nat) (v : Option Value) (h : Heap) (L : List Loc) : Prop := v = some (.int (own_dn p1 p0)) ∧ Fr n0 L ∧ h = h0
set_option maxRecDepth 65536 in
set_option maxHeartbeats 40000000 in
theorem rmdno (l : Launch) (Z : State) (a0 : Array Value) (hw : ∀ d ∈ tables_1, d.before a0 Z = true) (ws : List Jvm.Cond) (p0 : Int32) (p1 : Int32) (h0 : Heap) (n0 : Nat) (Z0 : n0 ≤ h0.size) :
    MetFree l (⟨"com/example/terms_to_scores/termstoscores/index/PostingsGetFreqPinLaw", "docNo", "(II)I"⟩ : MethodName) (head1 (Jvm.Cond.code (⟨"com/example/terms_to_scores/termstoscores/index/PostingsGetFreqPinLaw", "docNo", "(II)I"⟩ : MethodName) method_4_code 2 (some .int) :: ws) ({ frames := 0, cells := 0, slots := 0, locals := 0 } : Room)) (fun a U => a = #[(.int p0), (.int p1)] ∧ Z.Warmed39 U.vm ∧ U.heap = h0) (fun _ _ _ _ _ => True) (fun _ U o U' => ∃ v L, o = .returned v ∧ Qdno Z p0 p1 h0 n0 v U'.heap L ∧ FrameEnd U o U' L ({ frames := 0, cells := 0, slots := 0, locals := 0 } : Room).cells ({ frames := 0, cells := 0, slots := 0, locals := 0 } : Room).slots) := by
  refine MetFree.of_bodySF (plainFor_of_name pn_4) hisR ?_
  intro p e s m args below meth c s₁ Bd hml0 hP hK
  obtain ⟨rfl, hZ, hh⟩ := hP
  have hx := Bd.exec
  have hby := Bd.bytes
  have hml : c.maxLocals = 2 := hml0
  have hown : s.vm.findClass "com/example/terms_to_scores/termstoscores/index/PostingsGetFreqPinLaw" = some m.cls := findClass_of_methodNamed Bd.named
  have hnm := (name_of_methodNamed Bd.named Bd.method).1
  have X0 : Stand p l e ({ frames := 0, cells := 0, slots := 0, locals := 0 } : Room) s m #[(.int p0), (.int p1)] below meth c s₁ [] 0 0 := Stand.of_body Bd
  have e0 : s₁.heap = h0 := by rw [← hh, Bd.state]; rfl
  have N0 := Fr.nil n0
  refine own_go (B := s₁.setTop (mkF m 0 (LS_II p0 p1) [])) (fun t k => castTop (ef_dno m p0 p1) k) ?_
  refine own_go (B := s₁.setTop (mkF m 9 (LS_II p0 p1) [(.int (((2 : Int32) * p0) + (((p1.toUInt32 >>> (p0 &&& 31).toUInt32).toInt32) &&& (1 : Int32))))])) (fun t k => ?_) ?_
  · show Steps p.tables e below (s₁.setTop (mkF m 0 (LS_II p0 p1) [])) _
    refine XS.iconst X0.here hx rfl (hb hby d4_0) ?_
    show Steps p.tables e below (s₁.setTop (mkF m 1 (LS_II p0 p1) [(.int (2 : Int32))])) _
    refine XS.iloadN X0.here hx rfl (hb hby d4_1) rfl ?_
    show Steps p.tables e below (s₁.setTop (mkF m 2 (LS_II p0 p1) [(.int p0), (.int (2 : Int32))])) _
    refine XS.imul X0.here hx rfl (hb hby d4_2) rfl ?_
    show Steps p.tables e below (s₁.setTop (mkF m 3 (LS_II p0 p1) [(.int ((2 : Int32) * p0))])) _
    refine XS.iloadN X0.here hx rfl (hb hby d4_3) rfl ?_
    show Steps p.tables e below (s₁.setTop (mkF m 4 (LS_II p0 p1) [(.int p1), (.int ((2 : Int32) * p0))])) _
    refine XS.iloadN X0.here hx rfl (hb hby d4_4) rfl ?_
    show Steps p.tables e below (s₁.setTop (mkF m 5 (LS_II p0 p1) [(.int p0), (.int p1), (.int ((2 : Int32) * p0))])) _
    refine XS.iushr X0.here hx rfl (hb hby d4_5) rfl ?_
    show Steps p.tables e below (s₁.setTop (mkF m 6 (LS_II p0 p1) [(.int ((p1.toUInt32 >>> (p0 &&& 31).toUInt32).toInt32)), (.int ((2 : Int32) * p0))])) _
    refine XS.iconst X0.here hx rfl (hb hby d4_6) ?_
    show Steps p.tables e below (s₁.setTop (mkF m 7 (LS_II p0 p1) [(.int (1 : Int32)), (.int ((p1.toUInt32 >>> (p0 &&& 31).toUInt32).toInt32)), (.int ((2 : Int32) * p0))])) _
    refine XS.iand X0.here hx rfl (hb hby d4_7) rfl ?_
    show Steps p.tables e below (s₁.setTop (mkF m 8 (LS_II p0 p1) [(.int (((p1.toUInt32 >>> (p0 &&& 31).toUInt32).toInt32) &&& (1 : Int32))), (.int ((2 : Int32) * p0))])) _
    refine XS.iadd X0.here hx rfl (hb hby d4_8) rfl ?_
    exact k
  obtain ⟨fs, hr, hrun, hended, hW, hsame⟩ := X0.leave (v := some (.int (((2 : Int32) * p0) + (((p1.toUInt32 >>> (p0 &&& 31).toUInt32).toInt32) &&& (1 : Int32))))) (fun h => by rw [Bd.returns] at h; cases h) (BodyLoose.notSynchronized Bd)
  refine ⟨_, _, ?_, hrun, hended, _, _, rfl, ?_, ⟨_, rfl⟩, hW, hsame.mono (by decide) (by decide)⟩
  · show Steps p.tables e below (s₁.setTop (mkF m 9 (LS_II p0 p1) [(.int (((2 : Int32) * p0) + (((p1.toUInt32 >>> (p0 &&& 31).toUInt32).toInt32) &&& (1 : Int32))))])) _
    exact retOut X0 hx Bd.returns rfl (Or.inl ⟨rfl, Or.inl rfl, _, rfl⟩) (hb hby d4_9) hr
  · show Qdno Z p0 p1 h0 n0 _ s₁.heap _
    rw [e0]
    exact ⟨rfl, N0, rfl⟩
theorem ef_dat (m : MethodId) (p5 : Int32) (kk : Nat) (c1 : Nat) (c2 : Nat) (c3 : Nat) (c4 : Nat) : entryFrame m #[(.int (own_N kk)), (.int (own_N c1)), (.int (own_N c2)), (.int (own_N c3)), (.int (own_N c4)), (.int p5)] 6 = mkF m 0 #[.val (.int (own_N kk)), .val (.int (own_N c1)), .val (.int (own_N c2)), .val (.int (own_N c3)), .val (.int (own_N c4)), .val (.int p5)] [] := by first | (simp [entryFrame, mkF, argsToLocals, Value.category]; done) | rfl
theorem pn_2 : plainName "com/example/terms_to_scores/termstoscores/index/PostingsGetFreqPinLaw" = true := by first | (simp [plainName, overriddenIn]; done) | decide +kernel
abbrev LS_IIIIII (a0 : Int32) (a1 : Int32) (a2 : Int32) (a3 : Int32) (a4 : Int32) (a5 : Int32) : Array Slot := #[.val (.int a0), .val (.int a1), .val (.int a2), .val (.int a3), .val (.int a4), .val (.int a5)]
theorem d2_0 : decode method_5_code 0 = .ok (.iload_n 0, 1) := by decide +kernel
theorem d2_1 : decode method_5_code 1 = .ok (.iload_n 1, 1) := by decide +kernel
theorem d2_2 : decode method_5_code 2 = .ok (.iload_n 2, 1) := by decide +kernel
theorem d2_3 : decode method_5_code 3 = .ok (.iload_n 3, 1) := by decide +kernel
theorem d2_4 : decode method_5_code 4 = .ok (.iload 4, 2) := by decide +kernel
theorem d2_6 : decode method_5_code 6 = .ok (.invokestatic 7, 3) := by decide +kernel
theorem pd__IIIII_I : parseMethodDescriptor "(IIIII)I" = some ⟨[.int, .int, .int, .int, .int], some .int⟩ := by decide +kernel
theorem d2_9 : decode method_5_code 9 = .ok (.iload 5, 2) := by decide +kernel
theorem d2_11 : decode method_5_code 11 = .ok (.invokestatic 13, 3) := by decide +kernel
theorem d2_14 : decode method_5_code 14 = .ok (.ireturn, 1) := by decide +kernel
def Qdat (Z : State) (p5 : Int32) (kk : Nat) (c1 : Nat) (c2 : Nat) (c3 : Nat) (c4 : Nat) (h0 : Heap) (n0 : Nat) (v : Option Value) (h : Heap) (L : List Loc) : Prop := v = some (.int (own_D p5 c1 c2 c3 c4 kk)) ∧ Fr n0 L ∧ h = h0
set_option maxRecDepth 65536 in
set_option maxHeartbeats 40000000 in
theorem rmdat (l : Launch) (Z : State) (a0 : Array Value) (hw : ∀ d ∈ tables_1, d.before a0 Z = true) (ws : List Jvm.Cond) (p5 : Int32) (kk : Nat) (c1 : Nat) (c2 : Nat) (c3 : Nat) (c4 : Nat) (h0 : Heap) (n0 : Nat) (Z0 : n0 ≤ h0.size) (hbk : kk < 100 ∧ c1 < 100 ∧ c2 < 100 ∧ c3 < 100 ∧ c4 < 100) :
    MetFree l (⟨"com/example/terms_to_scores/termstoscores/index/PostingsGetFreqPinLaw", "docAt", "(IIIIII)I"⟩ : MethodName) (head1 (Jvm.Cond.code (⟨"com/example/terms_to_scores/termstoscores/index/PostingsGetFreqPinLaw", "docAt", "(IIIIII)I"⟩ : MethodName) method_5_code 6 (some .int) :: ws) ({ frames := 1, cells := 0, slots := 0, locals := 30 } : Room)) (fun a U => a = #[(.int (own_N kk)), (.int (own_N c1)), (.int (own_N c2)), (.int (own_N c3)), (.int (own_N c4)), (.int p5)] ∧ Z.Warmed39 U.vm ∧ U.heap = h0) (fun _ _ _ _ _ => True) (fun _ U o U' => ∃ v L, o = .returned v ∧ Qdat Z p5 kk c1 c2 c3 c4 h0 n0 v U'.heap L ∧ FrameEnd U o U' L ({ frames := 1, cells := 0, slots := 0, locals := 30 } : Room).cells ({ frames := 1, cells := 0, slots := 0, locals := 30 } : Room).slots) := by
  refine MetFree.of_bodySF (plainFor_of_name pn_2) hisR ?_
  intro p e s m args below meth c s₁ Bd hml0 hP hK
  obtain ⟨rfl, hZ, hh⟩ := hP
  have hx := Bd.exec
  have hby := Bd.bytes
  have hml : c.maxLocals = 6 := hml0
  have hown : s.vm.findClass "com/example/terms_to_scores/termstoscores/index/PostingsGetFreqPinLaw" = some m.cls := findClass_of_methodNamed Bd.named
  have hnm := (name_of_methodNamed Bd.named Bd.method).1
  have X0 : Stand p l e ({ frames := 1, cells := 0, slots := 0, locals := 30 } : Room) s m #[(.int (own_N kk)), (.int (own_N c1)), (.int (own_N c2)), (.int (own_N c3)), (.int (own_N c4)), (.int p5)] below meth c s₁ [] 0 0 := Stand.of_body Bd
  have e0 : s₁.heap = h0 := by rw [← hh, Bd.state]; rfl
  have N0 := Fr.nil n0
  refine own_go (B := s₁.setTop (mkF m 0 (LS_IIIIII (own_N kk) (own_N c1) (own_N c2) (own_N c3) (own_N c4) p5) [])) (fun t k => castTop (ef_dat m p5 kk c1 c2 c3 c4) k) ?_
  refine own_go (B := s₁.setTop (mkF m 6 (LS_IIIIII (own_N kk) (own_N c1) (own_N c2) (own_N c3) (own_N c4) p5) [(.int (own_N c4)), (.int (own_N c3)), (.int (own_N c2)), (.int (own_N c1)), (.int (own_N kk))])) (fun t k => ?_) ?_
  · show Steps p.tables e below (s₁.setTop (mkF m 0 (LS_IIIIII (own_N kk) (own_N c1) (own_N c2) (own_N c3) (own_N c4) p5) [])) _
    refine XS.iloadN X0.here hx rfl (hb hby d2_0) rfl ?_
    show Steps p.tables e below (s₁.setTop (mkF m 1 (LS_IIIIII (own_N kk) (own_N c1) (own_N c2) (own_N c3) (own_N c4) p5) [(.int (own_N kk))])) _
    refine XS.iloadN X0.here hx rfl (hb hby d2_1) rfl ?_
    show Steps p.tables e below (s₁.setTop (mkF m 2 (LS_IIIIII (own_N kk) (own_N c1) (own_N c2) (own_N c3) (own_N c4) p5) [(.int (own_N c1)), (.int (own_N kk))])) _
    refine XS.iloadN X0.here hx rfl (hb hby d2_2) rfl ?_
    show Steps p.tables e below (s₁.setTop (mkF m 3 (LS_IIIIII (own_N kk) (own_N c1) (own_N c2) (own_N c3) (own_N c4) p5) [(.int (own_N c2)), (.int (own_N c1)), (.int (own_N kk))])) _
    refine XS.iloadN X0.here hx rfl (hb hby d2_3) rfl ?_
    show Steps p.tables e below (s₁.setTop (mkF m 4 (LS_IIIIII (own_N kk) (own_N c1) (own_N c2) (own_N c3) (own_N c4) p5) [(.int (own_N c3)), (.int (own_N c2)), (.int (own_N c1)), (.int (own_N kk))])) _
    refine XS.iload X0.here hx rfl (hb hby d2_4) rfl ?_
    exact k
  obtain ⟨_, _, ⟨T1, L1, k1, n1⟩, -, X1, ⟨Lc1, hQ1, l1, y1, z1⟩, st1⟩ := Jvm.LawKit.callS X0 hx (y := (⟨"com/example/terms_to_scores/termstoscores/index/PostingsGetFreqPinLaw", "which", "(IIIII)I"⟩ : MethodName)) hown (mvT hZ (hw _ (List.mem_of_getElem? (i := 9) rfl))) (mvT hZ (hw _ (List.mem_of_getElem? (i := 10) rfl))) (mvT hZ (hw _ (List.mem_of_getElem? (i := 3) rfl))) (mvT hZ (hw _ (List.mem_of_getElem? (i := 11) rfl))) (by decide) (backOf (W := 0) (rmwhc l Z a0 hw [] kk c1 c2 c3 c4 h0 n0 Z0 hbk) hZ (hw _ (List.mem_of_getElem? (i := 11) rfl)) (hw _ (List.mem_of_getElem? (i := 3) rfl)) (by decide) (by decide)) (g := (mkF m 6 (LS_IIIIII (own_N kk) (own_N c1) (own_N c2) (own_N c3) (own_N c4) p5) [(.int (own_N c4)), (.int (own_N c3)), (.int (own_N c2)), (.int (own_N c1)), (.int (own_N kk))])) rfl (by rw [hml]; rfl) (argsL := [(.int (own_N kk)), (.int (own_N c1)), (.int (own_N c2)), (.int (own_N c3)), (.int (own_N c4))]) (rest := []) (lenOf pd__IIIII_I rfl) rfl (by show 2 * 0 + _ ≤ _; exact Nat.le_of_eq rfl) (hb hby d2_6) (fun _ _ => ⟨rfl, e0, (by decide : 0 + 0 ≤ _), (by decide : 0 + 0 ≤ _)⟩)
  dsimp only [Pt.U, Pt.locs, Pt.cells, Pt.slots] at X1 l1 y1 z1 st1 hQ1
  subst l1 y1 z1
  obtain ⟨rfl, N1q, e1⟩ := hQ1
  have N1 := Fr.app N0 N1q
  refine own_go (B := T1.setTop (mkF m 9 (LS_IIIIII (own_N kk) (own_N c1) (own_N c2) (own_N c3) (own_N c4) p5) [(.int (own_N (own_wh c1 c2 c3 c4 kk)))])) (fun t k => st1 _ k) ?_
  refine own_go (B := T1.setTop (mkF m 11 (LS_IIIIII (own_N kk) (own_N c1) (own_N c2) (own_N c3) (own_N c4) p5) [(.int p5), (.int (own_N (own_wh c1 c2 c3 c4 kk)))])) (fun t k => ?_) ?_
  · show Steps p.tables e below (T1.setTop (mkF m 9 (LS_IIIIII (own_N kk) (own_N c1) (own_N c2) (own_N c3) (own_N c4) p5) [(.int (own_N (own_wh c1 c2 c3 c4 kk)))])) _
    refine XS.iload X1.here hx rfl (hb hby d2_9) rfl ?_
    exact k
  obtain ⟨_, _, ⟨T2, L2, k2, n2⟩, -, X2, ⟨Lc2, hQ2, l2, y2, z2⟩, st2⟩ := Jvm.LawKit.callS X1 hx (y := (⟨"com/example/terms_to_scores/termstoscores/index/PostingsGetFreqPinLaw", "docNo", "(II)I"⟩ : MethodName)) hown (mvT hZ (hw _ (List.mem_of_getElem? (i := 12) rfl))) (mvT hZ (hw _ (List.mem_of_getElem? (i := 13) rfl))) (mvT hZ (hw _ (List.mem_of_getElem? (i := 3) rfl))) (mvT hZ (hw _ (List.mem_of_getElem? (i := 14) rfl))) (by decide) (backOf (W := 0) (rmdno l Z a0 hw [] (own_N (own_wh c1 c2 c3 c4 kk)) p5 h0 n0 Z0) hZ (hw _ (List.mem_of_getElem? (i := 14) rfl)) (hw _ (List.mem_of_getElem? (i := 3) rfl)) (by decide) (by decide)) (g := (mkF m 11 (LS_IIIIII (own_N kk) (own_N c1) (own_N c2) (own_N c3) (own_N c4) p5) [(.int p5), (.int (own_N (own_wh c1 c2 c3 c4 kk)))])) rfl (by rw [hml]; rfl) (argsL := [(.int (own_N (own_wh c1 c2 c3 c4 kk))), (.int p5)]) (rest := []) (lenOf pd__II_I rfl) rfl (by show 2 * 0 + _ ≤ _; exact Nat.le_of_eq rfl) (hb hby d2_11) (fun _ _ => ⟨rfl, e1, (by decide : 0 + 0 ≤ _), (by decide : 0 + 0 ≤ _)⟩)
  dsimp only [Pt.U, Pt.locs, Pt.cells, Pt.slots] at X2 l2 y2 z2 st2 hQ2
  subst l2 y2 z2
  obtain ⟨rfl, N2q, e2⟩ := hQ2
  have N2 := Fr.app N1 N2q
  refine own_go (B := T2.setTop (mkF m 14 (LS_IIIIII (own_N kk) (own_N c1) (own_N c2) (own_N c3) (own_N c4) p5) [(.int (own_dn p5 (own_N (own_wh c1 c2 c3 c4 kk))))])) (fun t k => st2 _ k) ?_
  obtain ⟨fs, hr, hrun, hended, hW, hsame⟩ := X2.leave (v := some (.int (own_dn p5 (own_N (own_wh c1 c2 c3 c4 kk))))) (fun h => by rw [Bd.returns] at h; cases h) (BodyLoose.notSynchronized Bd)
  refine ⟨_, _, ?_, hrun, hended, _, _, rfl, ?_, ⟨_, rfl⟩, hW, hsame.mono (by decide) (by decide)⟩
  · show Steps p.tables e below (T2.setTop (mkF m 14 (LS_IIIIII (own_N kk) (own_N c1) (own_N c2) (own_N c3) (own_N c4) p5) [(.int (own_dn p5 (own_N (own_wh c1 c2 c3 c4 kk))))])) _
    exact retOut X2 hx Bd.returns rfl (Or.inl ⟨rfl, Or.inl rfl, _, rfl⟩) (hb hby d2_14) hr
  · show Qdat Z p5 kk c1 c2 c3 c4 h0 n0 _ T2.heap _
    rw [e2]
    exact ⟨rfl, N2, rfl⟩
theorem ef_siz (m : MethodId) (r0 : Addr) : entryFrame m #[(.ref r0)] 1 = mkF m 0 #[.val (.ref r0)] [] := by first | (simp [entryFrame, mkF, argsToLocals, Value.category]; done) | rfl
theorem pn_10 : plainName "com/example/terms_to_scores/termstoscores/index/Postings" = true := by first | (simp [plainName, overriddenIn]; done) | decide +kernel
theorem d10_0 : decode prog_33_method_3_code 0 = .ok (.aload_n 0, 1) := by decide +kernel
theorem d10_1 : decode prog_33_method_3_code 1 = .ok (.getfield 41, 3) := by decide +kernel
theorem d10_4 : decode prog_33_method_3_code 4 = .ok (.ireturn, 1) := by decide +kernel
def Qsiz (Z : State) (r0 : Addr) (sv : Int32) (h0 : Heap) (n0 : Nat) (v : Option Value) (h : Heap) (L : List Loc) : Prop := v = some (.int sv) ∧ Fr n0 L ∧ h = h0
set_option maxRecDepth 65536 in
set_option maxHeartbeats 40000000 in
theorem rmsiz (l : Launch) (Z : State) (a0 : Array Value) (hw : ∀ d ∈ tables_1, d.before a0 Z = true) (ws : List Jvm.Cond) (r0 : Addr) (sv : Int32) (h0 : Heap) (n0 : Nat) (Z0 : n0 ≤ h0.size) (F0 : Fld Z h0 r0 "com/example/terms_to_scores/termstoscores/index/Postings" "size" "I" (.int sv)) :
    MetFree l (⟨"com/example/terms_to_scores/termstoscores/index/Postings", "size", "()I"⟩ : MethodName) (head1 (Jvm.Cond.code (⟨"com/example/terms_to_scores/termstoscores/index/Postings", "size", "()I"⟩ : MethodName) prog_33_method_3_code 1 (some .int) :: ws) ({ frames := 0, cells := 0, slots := 0, locals := 0 } : Room)) (fun a U => a = #[(.ref r0)] ∧ Z.Warmed39 U.vm ∧ U.heap = h0) (fun _ _ _ _ _ => True) (fun _ U o U' => ∃ v L, o = .returned v ∧ Qsiz Z r0 sv h0 n0 v U'.heap L ∧ FrameEnd U o U' L ({ frames := 0, cells := 0, slots := 0, locals := 0 } : Room).cells ({ frames := 0, cells := 0, slots := 0, locals := 0 } : Room).slots) := by
  refine MetFree.of_bodySF (plainFor_of_name pn_10) hisR ?_
  intro p e s m args below meth c s₁ Bd hml0 hP hK
  obtain ⟨rfl, hZ, hh⟩ := hP
  have hx := Bd.exec
  have hby := Bd.bytes
  have hml : c.maxLocals = 1 := hml0
  have hown : s.vm.findClass "com/example/terms_to_scores/termstoscores/index/Postings" = some m.cls := findClass_of_methodNamed Bd.named
  have hnm := (name_of_methodNamed Bd.named Bd.method).1
  have X0 : Stand p l e ({ frames := 0, cells := 0, slots := 0, locals := 0 } : Room) s m #[(.ref r0)] below meth c s₁ [] 0 0 := Stand.of_body Bd
  have e0 : s₁.heap = h0 := by rw [← hh, Bd.state]; rfl
  have N0 := Fr.nil n0
  refine own_go (B := s₁.setTop (mkF m 0 (LS_R r0) [])) (fun t k => castTop (ef_siz m r0) k) ?_
  refine own_go (B := s₁.setTop (mkF m 1 (LS_R r0) [(.ref r0)])) (fun t k => ?_) ?_
  · show Steps p.tables e below (s₁.setTop (mkF m 0 (LS_R r0) [])) _
    refine XS.aloadN X0.here hx rfl (hb hby d10_0) rfl rfl ?_
    exact k
  obtain ⟨T1, X1, e1, st1⟩ := getF X0 hx hZ hown (host := "") (Or.inl (hw _ (List.mem_of_getElem? (i := 46) rfl))) Via.refl e0 F0 (g := (mkF m 1 (LS_R r0) [(.ref r0)])) rfl rfl (hb hby d10_1)
  refine own_go (B := T1.setTop (mkF m 4 (LS_R r0) [(.int sv)])) (fun t k => st1 _ k) ?_
  obtain ⟨fs, hr, hrun, hended, hW, hsame⟩ := X1.leave (v := some (.int sv)) (fun h => by rw [Bd.returns] at h; cases h) (BodyLoose.notSynchronized Bd)
  refine ⟨_, _, ?_, hrun, hended, _, _, rfl, ?_, ⟨_, rfl⟩, hW, hsame.mono (by decide) (by decide)⟩
  · show Steps p.tables e below (T1.setTop (mkF m 4 (LS_R r0) [(.int sv)])) _
    exact retOut X1 hx Bd.returns rfl (Or.inl ⟨rfl, Or.inl rfl, _, rfl⟩) (hb hby d10_4) hr
  · show Qsiz Z r0 sv h0 n0 _ T1.heap _
    rw [e1]
    exact ⟨rfl, N0, rfl⟩
theorem ef_gfr (m : MethodId) (r0 : Addr) (jj : Nat) : entryFrame m #[(.ref r0), (.int (own_N jj))] 2 = mkF m 0 #[.val (.ref r0), .val (.int (own_N jj))] [] := by first | (simp [entryFrame, mkF, argsToLocals, Value.category]; done) | rfl
theorem pn_11 : plainName "com/example/terms_to_scores/termstoscores/index/Postings" = true := by first | (simp [plainName, overriddenIn]; done) | decide +kernel
abbrev LS_RI (a0 : Addr) (a1 : Int32) : Array Slot := #[.val (.ref a0), .val (.int a1)]
theorem d11_0 : decode prog_33_method_5_code 0 = .ok (.iload_n 1, 1) := by decide +kernel
theorem d11_1 : decode prog_33_method_5_code 1 = .ok (.iconst 1, 1) := by decide +kernel
theorem d11_2 : decode prog_33_method_5_code 2 = .ok (.iadd, 1) := by decide +kernel
theorem d11_3 : decode prog_33_method_5_code 3 = .ok (.aload_n 0, 1) := by decide +kernel
theorem d11_4 : decode prog_33_method_5_code 4 = .ok (.getfield 41, 3) := by decide +kernel
theorem d11_7 : decode prog_33_method_5_code 7 = .ok (.if_icmp .ge 16, 3) := by decide +kernel
theorem d11_10 : decode prog_33_method_5_code 10 = .ok (.aload_n 0, 1) := by decide +kernel
theorem d11_11 : decode prog_33_method_5_code 11 = .ok (.getfield 9, 3) := by decide +kernel
theorem d11_14 : decode prog_33_method_5_code 14 = .ok (.iconst 2, 1) := by decide +kernel
theorem d11_15 : decode prog_33_method_5_code 15 = .ok (.iload_n 1, 1) := by decide +kernel
theorem d11_16 : decode prog_33_method_5_code 16 = .ok (.imul, 1) := by decide +kernel
theorem d11_17 : decode prog_33_method_5_code 17 = .ok (.iconst 3, 1) := by decide +kernel
theorem d11_18 : decode prog_33_method_5_code 18 = .ok (.iadd, 1) := by decide +kernel
theorem d11_19 : decode prog_33_method_5_code 19 = .ok (.iaload, 1) := by decide +kernel
theorem d11_20 : decode prog_33_method_5_code 20 = .ok (.goto 7, 3) := by decide +kernel
theorem d11_27 : decode prog_33_method_5_code 27 = .ok (.aload_n 0, 1) := by decide +kernel
theorem d11_28 : decode prog_33_method_5_code 28 = .ok (.getfield 9, 3) := by decide +kernel
theorem d11_31 : decode prog_33_method_5_code 31 = .ok (.iconst 2, 1) := by decide +kernel
theorem d11_32 : decode prog_33_method_5_code 32 = .ok (.iload_n 1, 1) := by decide +kernel
theorem d11_33 : decode prog_33_method_5_code 33 = .ok (.imul, 1) := by decide +kernel
theorem d11_34 : decode prog_33_method_5_code 34 = .ok (.iconst 1, 1) := by decide +kernel
theorem d11_35 : decode prog_33_method_5_code 35 = .ok (.iadd, 1) := by decide +kernel
theorem d11_36 : decode prog_33_method_5_code 36 = .ok (.iaload, 1) := by decide +kernel
theorem d11_37 : decode prog_33_method_5_code 37 = .ok (.isub, 1) := by decide +kernel
theorem d11_38 : decode prog_33_method_5_code 38 = .ok (.ireturn, 1) := by decide +kernel
theorem d11_23 : decode prog_33_method_5_code 23 = .ok (.aload_n 0, 1) := by decide +kernel
theorem d11_24 : decode prog_33_method_5_code 24 = .ok (.getfield 31, 3) := by decide +kernel
def Qgfr (Z : State) (r0 : Addr) (eo : Addr) (ke : ClassId) (en : Nat → Int32) (ze sz bb : Nat) (jj : Nat) (xx yy : Nat) (h0 : Heap) (n0 : Nat) (v : Option Value) (h : Heap) (L : List Loc) : Prop := v = some (.int (own_N (yy - xx))) ∧ Fr n0 L ∧ h = h0
set_option maxRecDepth 65536 in
set_option maxHeartbeats 40000000 in
theorem rmgfr (l : Launch) (Z : State) (a0 : Array Value) (hw : ∀ d ∈ tables_1, d.before a0 Z = true) (ws : List Jvm.Cond) (r0 : Addr) (eo : Addr) (ke : ClassId) (en : Nat → Int32) (ze sz bb : Nat) (jj : Nat) (xx yy : Nat) (h0 : Heap) (n0 : Nat) (Z0 : n0 ≤ h0.size) (F0 : Fld Z h0 r0 "com/example/terms_to_scores/termstoscores/index/Postings" "entries" "[I" (.ref eo)) (F1 : Fld Z h0 r0 "com/example/terms_to_scores/termstoscores/index/Postings" "size" "I" (.int (own_N sz))) (F2 : Fld Z h0 r0 "com/example/terms_to_scores/termstoscores/index/Postings" "positionCount" "I" (.int (own_N bb))) (Ve : Arv Z h0 eo ke .int (own_N ze) (own_V en ze) (.int (0 : Int32))) (hsz : 2 * sz ≤ ze) (hze : ze ≤ 16) (hjs : jj < sz) (hxe : en (2 * jj + 1) = own_N xx) (hy1 : jj + 1 < sz → en (2 * jj + 3) = own_N yy) (hy2 : ¬ jj + 1 < sz → bb = yy) (hxy : xx ≤ yy) (hyb : yy < 100) :
    MetFree l (⟨"com/example/terms_to_scores/termstoscores/index/Postings", "getFreq", "(I)I"⟩ : MethodName) (head1 (Jvm.Cond.code (⟨"com/example/terms_to_scores/termstoscores/index/Postings", "getFreq", "(I)I"⟩ : MethodName) prog_33_method_5_code 2 (some .int) :: ws) ({ frames := 0, cells := 0, slots := 0, locals := 0 } : Room)) (fun a U => a = #[(.ref r0), (.int (own_N jj))] ∧ Z.Warmed39 U.vm ∧ U.heap = h0) (fun _ _ _ _ _ => True) (fun _ U o U' => ∃ v L, o = .returned v ∧ Qgfr Z r0 eo ke en ze sz bb jj xx yy h0 n0 v U'.heap L ∧ FrameEnd U o U' L ({ frames := 0, cells := 0, slots := 0, locals := 0 } : Room).cells ({ frames := 0, cells := 0, slots := 0, locals := 0 } : Room).slots) := by
  refine MetFree.of_bodySF (plainFor_of_name pn_11) hisR ?_
  intro p e s m args below meth c s₁ Bd hml0 hP hK
  obtain ⟨rfl, hZ, hh⟩ := hP
  have hx := Bd.exec
  have hby := Bd.bytes
  have hml : c.maxLocals = 2 := hml0
  have hown : s.vm.findClass "com/example/terms_to_scores/termstoscores/index/Postings" = some m.cls := findClass_of_methodNamed Bd.named
  have hnm := (name_of_methodNamed Bd.named Bd.method).1
  have X0 : Stand p l e ({ frames := 0, cells := 0, slots := 0, locals := 0 } : Room) s m #[(.ref r0), (.int (own_N jj))] below meth c s₁ [] 0 0 := Stand.of_body Bd
  have e0 : s₁.heap = h0 := by rw [← hh, Bd.state]; rfl
  have N0 := Fr.nil n0
  refine own_go (B := s₁.setTop (mkF m 0 (LS_RI r0 (own_N jj)) [])) (fun t k => castTop (ef_gfr m r0 jj) k) ?_
  refine own_go (B := s₁.setTop (mkF m 4 (LS_RI r0 (own_N jj)) [(.ref r0), (.int (own_N (jj + 1)))])) (fun t k => ?_) ?_
  · show Steps p.tables e below (s₁.setTop (mkF m 0 (LS_RI r0 (own_N jj)) [])) _
    refine XS.iloadN X0.here hx rfl (hb hby d11_0) rfl ?_
    show Steps p.tables e below (s₁.setTop (mkF m 1 (LS_RI r0 (own_N jj)) [(.int (own_N jj))])) _
    refine XS.iconst X0.here hx rfl (hb hby d11_1) ?_
    show Steps p.tables e below (s₁.setTop (mkF m 2 (LS_RI r0 (own_N jj)) [(.int (1 : Int32)), (.int (own_N jj))])) _
    refine XS.iadd X0.here hx rfl (hb hby d11_2) rfl ?_
    change Steps p.tables e below (s₁.setTop (mkF m 3 (LS_RI r0 (own_N jj)) [(.int ((own_N jj) + (1 : Int32)))])) _
    rw [show ((own_N jj) + (1 : Int32)) = (own_N (jj + 1)) from own_N1 (by omega)]
    show Steps p.tables e below (s₁.setTop (mkF m 3 (LS_RI r0 (own_N jj)) [(.int (own_N (jj + 1)))])) _
    refine XS.aloadN X0.here hx rfl (hb hby d11_3) rfl rfl ?_
    exact k
  obtain ⟨T1, X1, e1, st1⟩ := getF X0 hx hZ hown (host := "") (Or.inl (hw _ (List.mem_of_getElem? (i := 46) rfl))) Via.refl e0 F1 (g := (mkF m 4 (LS_RI r0 (own_N jj)) [(.ref r0), (.int (own_N (jj + 1)))])) rfl rfl (hb hby d11_4)
  refine own_go (B := T1.setTop (mkF m 7 (LS_RI r0 (own_N jj)) [(.int (own_N sz)), (.int (own_N (jj + 1)))])) (fun t k => st1 _ k) ?_
  by_cases hc7_2 : (own_N (jj + 1)) < (own_N sz)
  · refine own_go (B := T1.setTop (mkF m 11 (LS_RI r0 (own_N jj)) [(.ref r0)])) (fun t k => ?_) ?_
    · show Steps p.tables e below (T1.setTop (mkF m 7 (LS_RI r0 (own_N jj)) [(.int (own_N sz)), (.int (own_N (jj + 1)))])) _
      refine XS.icmpNo X1.here hx rfl (hb hby d11_7) rfl (tlt hc7_2).2.1 ?_
      show Steps p.tables e below (T1.setTop (mkF m 10 (LS_RI r0 (own_N jj)) [])) _
      refine XS.aloadN X1.here hx rfl (hb hby d11_10) rfl rfl ?_
      exact k
    obtain ⟨T3, X3, e3, st3⟩ := getF X1 hx hZ hown (host := "") (Or.inl (hw _ (List.mem_of_getElem? (i := 25) rfl))) Via.refl e1 F0 (g := (mkF m 11 (LS_RI r0 (own_N jj)) [(.ref r0)])) rfl rfl (hb hby d11_11)
    refine own_go (B := T3.setTop (mkF m 14 (LS_RI r0 (own_N jj)) [(.ref eo)])) (fun t k => st3 _ k) ?_
    have hlt := own_lt (x := jj + 1) (n := sz) (by omega) (by omega) hc7_2
    obtain ⟨cl4, Ar4, qa4, Sa4, Na4, Ha4, Ga4⟩ := id Ve
    have hin5 : ¬ ((own_N (2 * jj + 3)) < 0 ∨ cl4.slots.size ≤ ((own_N (2 * jj + 3))).toNatClampNeg) := own_inb (X := (2 * jj + 3)) Sa4 (by omega) (by omega)
    have hat5 : cl4.slots[((own_N (2 * jj + 3))).toNatClampNeg]? = some (.int (en ((2 * jj + 3)))) := Has.at Ha4 hin5 (own_getV (X := (2 * jj + 3)) (by omega) (by omega))
    refine own_go (B := T3.setTop (mkF m 28 (LS_RI r0 (own_N jj)) [(.ref r0), (.int (own_N yy))])) (fun t k => ?_) ?_
    · show Steps p.tables e below (T3.setTop (mkF m 14 (LS_RI r0 (own_N jj)) [(.ref eo)])) _
      refine XS.iconst X3.here hx rfl (hb hby d11_14) ?_
      show Steps p.tables e below (T3.setTop (mkF m 15 (LS_RI r0 (own_N jj)) [(.int (2 : Int32)), (.ref eo)])) _
      refine XS.iloadN X3.here hx rfl (hb hby d11_15) rfl ?_
      show Steps p.tables e below (T3.setTop (mkF m 16 (LS_RI r0 (own_N jj)) [(.int (own_N jj)), (.int (2 : Int32)), (.ref eo)])) _
      refine XS.imul X3.here hx rfl (hb hby d11_16) rfl ?_
      change Steps p.tables e below (T3.setTop (mkF m 17 (LS_RI r0 (own_N jj)) [(.int ((2 : Int32) * (own_N jj))), (.ref eo)])) _
      rw [show ((2 : Int32) * (own_N jj)) = (own_N (2 * jj)) from own_N2 (by omega)]
      show Steps p.tables e below (T3.setTop (mkF m 17 (LS_RI r0 (own_N jj)) [(.int (own_N (2 * jj))), (.ref eo)])) _
      refine XS.iconst X3.here hx rfl (hb hby d11_17) ?_
      show Steps p.tables e below (T3.setTop (mkF m 18 (LS_RI r0 (own_N jj)) [(.int (3 : Int32)), (.int (own_N (2 * jj))), (.ref eo)])) _
      refine XS.iadd X3.here hx rfl (hb hby d11_18) rfl ?_
      change Steps p.tables e below (T3.setTop (mkF m 19 (LS_RI r0 (own_N jj)) [(.int ((own_N (2 * jj)) + (3 : Int32))), (.ref eo)])) _
      rw [show ((own_N (2 * jj)) + (3 : Int32)) = (own_N (2 * jj + 3)) from own_Nadd (t := 2 * jj) (u := 3) (by omega)]
      show Steps p.tables e below (T3.setTop (mkF m 19 (LS_RI r0 (own_N jj)) [(.int (own_N (2 * jj + 3))), (.ref eo)])) _
      refine X3.iaload hx (j := (own_N (2 * jj + 3))) (v := (.int (en ((2 * jj + 3))))) (by rw [e3]; exact Ar4.1) (State.isArrayOf_alike hZ.alike Ar4.2.1) Ar4.2.2 hin5 hat5 (g := (mkF m 19 (LS_RI r0 (own_N jj)) [(.int (own_N (2 * jj + 3))), (.ref eo)])) rfl rfl (hb hby d11_19) _ ?_
      change Steps p.tables e below (T3.setTop (mkF m 20 (LS_RI r0 (own_N jj)) [(.int (en ((2 * jj + 3))))])) _
      rw [show (en ((2 * jj + 3))) = (own_N yy) from hy1 hlt]
      show Steps p.tables e below (T3.setTop (mkF m 20 (LS_RI r0 (own_N jj)) [(.int (own_N yy))])) _
      refine XS.goto X3.here hx rfl (pc0 := 20) (pc' := 27) rfl (hb hby d11_20) (by decide) (by decide) ?_
      show Steps p.tables e below (T3.setTop (mkF m 27 (LS_RI r0 (own_N jj)) [(.int (own_N yy))])) _
      refine XS.aloadN X3.here hx rfl (hb hby d11_27) rfl rfl ?_
      exact k
    obtain ⟨T6, X6, e6, st6⟩ := getF X3 hx hZ hown (host := "") (Or.inl (hw _ (List.mem_of_getElem? (i := 25) rfl))) Via.refl e3 F0 (g := (mkF m 28 (LS_RI r0 (own_N jj)) [(.ref r0), (.int (own_N yy))])) rfl rfl (hb hby d11_28)
    refine own_go (B := T6.setTop (mkF m 31 (LS_RI r0 (own_N jj)) [(.ref eo), (.int (own_N yy))])) (fun t k => st6 _ k) ?_
    obtain ⟨cl7, Ar7, qa7, Sa7, Na7, Ha7, Ga7⟩ := id Ve
    have hin8 : ¬ ((own_N (2 * jj + 1)) < 0 ∨ cl7.slots.size ≤ ((own_N (2 * jj + 1))).toNatClampNeg) := own_inb (X := (2 * jj + 1)) Sa7 (by omega) (by omega)
    have hat8 : cl7.slots[((own_N (2 * jj + 1))).toNatClampNeg]? = some (.int (en ((2 * jj + 1)))) := Has.at Ha7 hin8 (own_getV (X := (2 * jj + 1)) (by omega) (by omega))
    refine own_go (B := T6.setTop (mkF m 38 (LS_RI r0 (own_N jj)) [(.int (own_N (yy - xx)))])) (fun t k => ?_) ?_
    · show Steps p.tables e below (T6.setTop (mkF m 31 (LS_RI r0 (own_N jj)) [(.ref eo), (.int (own_N yy))])) _
      refine XS.iconst X6.here hx rfl (hb hby d11_31) ?_
      show Steps p.tables e below (T6.setTop (mkF m 32 (LS_RI r0 (own_N jj)) [(.int (2 : Int32)), (.ref eo), (.int (own_N yy))])) _
      refine XS.iloadN X6.here hx rfl (hb hby d11_32) rfl ?_
      show Steps p.tables e below (T6.setTop (mkF m 33 (LS_RI r0 (own_N jj)) [(.int (own_N jj)), (.int (2 : Int32)), (.ref eo), (.int (own_N yy))])) _
      refine XS.imul X6.here hx rfl (hb hby d11_33) rfl ?_
      change Steps p.tables e below (T6.setTop (mkF m 34 (LS_RI r0 (own_N jj)) [(.int ((2 : Int32) * (own_N jj))), (.ref eo), (.int (own_N yy))])) _
      rw [show ((2 : Int32) * (own_N jj)) = (own_N (2 * jj)) from own_N2 (by omega)]
      show Steps p.tables e below (T6.setTop (mkF m 34 (LS_RI r0 (own_N jj)) [(.int (own_N (2 * jj))), (.ref eo), (.int (own_N yy))])) _
      refine XS.iconst X6.here hx rfl (hb hby d11_34) ?_
      show Steps p.tables e below (T6.setTop (mkF m 35 (LS_RI r0 (own_N jj)) [(.int (1 : Int32)), (.int (own_N (2 * jj))), (.ref eo), (.int (own_N yy))])) _
      refine XS.iadd X6.here hx rfl (hb hby d11_35) rfl ?_
      change Steps p.tables e below (T6.setTop (mkF m 36 (LS_RI r0 (own_N jj)) [(.int ((own_N (2 * jj)) + (1 : Int32))), (.ref eo), (.int (own_N yy))])) _
      rw [show ((own_N (2 * jj)) + (1 : Int32)) = (own_N (2 * jj + 1)) from own_N1 (by omega)]
      show Steps p.tables e below (T6.setTop (mkF m 36 (LS_RI r0 (own_N jj)) [(.int (own_N (2 * jj + 1))), (.ref eo), (.int (own_N yy))])) _
      refine X6.iaload hx (j := (own_N (2 * jj + 1))) (v := (.int (en ((2 * jj + 1))))) (by rw [e6]; exact Ar7.1) (State.isArrayOf_alike hZ.alike Ar7.2.1) Ar7.2.2 hin8 hat8 (g := (mkF m 36 (LS_RI r0 (own_N jj)) [(.int (own_N (2 * jj + 1))), (.ref eo), (.int (own_N yy))])) rfl rfl (hb hby d11_36) _ ?_
      change Steps p.tables e below (T6.setTop (mkF m 37 (LS_RI r0 (own_N jj)) [(.int (en ((2 * jj + 1)))), (.int (own_N yy))])) _
      rw [show (en ((2 * jj + 1))) = (own_N xx) from hxe]
      show Steps p.tables e below (T6.setTop (mkF m 37 (LS_RI r0 (own_N jj)) [(.int (own_N xx)), (.int (own_N yy))])) _
      refine XS.isub X6.here hx rfl (hb hby d11_37) rfl ?_
      change Steps p.tables e below (T6.setTop (mkF m 38 (LS_RI r0 (own_N jj)) [(.int ((own_N yy) - (own_N xx)))])) _
      rw [show ((own_N yy) - (own_N xx)) = (own_N (yy - xx)) from own_Nsub (by omega) hxy]
      exact k
    obtain ⟨fs, hr, hrun, hended, hW, hsame⟩ := X6.leave (v := some (.int (own_N (yy - xx)))) (fun h => by rw [Bd.returns] at h; cases h) (BodyLoose.notSynchronized Bd)
    refine ⟨_, _, ?_, hrun, hended, _, _, rfl, ?_, ⟨_, rfl⟩, hW, hsame.mono (by decide) (by decide)⟩
    · show Steps p.tables e below (T6.setTop (mkF m 38 (LS_RI r0 (own_N jj)) [(.int (own_N (yy - xx)))])) _
      exact retOut X6 hx Bd.returns rfl (Or.inl ⟨rfl, Or.inl rfl, _, rfl⟩) (hb hby d11_38) hr
    · show Qgfr Z r0 eo ke en ze sz bb jj xx yy h0 n0 _ T6.heap _
      rw [e6]
      exact ⟨rfl, N0, rfl⟩
  · refine own_go (B := T1.setTop (mkF m 24 (LS_RI r0 (own_N jj)) [(.ref r0)])) (fun t k => ?_) ?_
    · show Steps p.tables e below (T1.setTop (mkF m 7 (LS_RI r0 (own_N jj)) [(.int (own_N sz)), (.int (own_N (jj + 1)))])) _
      refine XS.icmpYes X1.here hx rfl (pc0 := 7) (pc' := 23) rfl (hb hby d11_7) rfl (flt hc7_2).2.1 (by decide) (by decide) ?_
      show Steps p.tables e below (T1.setTop (mkF m 23 (LS_RI r0 (own_N jj)) [])) _
      refine XS.aloadN X1.here hx rfl (hb hby d11_23) rfl rfl ?_
      exact k
    obtain ⟨T9, X9, e9, st9⟩ := getF X1 hx hZ hown (host := "") (Or.inl (hw _ (List.mem_of_getElem? (i := 44) rfl))) Via.refl e1 F2 (g := (mkF m 24 (LS_RI r0 (own_N jj)) [(.ref r0)])) rfl rfl (hb hby d11_24)
    refine own_go (B := T9.setTop (mkF m 27 (LS_RI r0 (own_N jj)) [(.int (own_N bb))])) (fun t k => st9 _ k) ?_
    refine own_go (B := T9.setTop (mkF m 28 (LS_RI r0 (own_N jj)) [(.ref r0), (.int (own_N yy))])) (fun t k => ?_) ?_
    · change Steps p.tables e below (T9.setTop (mkF m 27 (LS_RI r0 (own_N jj)) [(.int (own_N bb))])) _
      rw [show (own_N bb) = (own_N yy) from congrArg own_N (hy2 (own_nlt (by omega) (by omega) hc7_2))]
      show Steps p.tables e below (T9.setTop (mkF m 27 (LS_RI r0 (own_N jj)) [(.int (own_N yy))])) _
      refine XS.aloadN X9.here hx rfl (hb hby d11_27) rfl rfl ?_
      exact k
    obtain ⟨T10, X10, e10, st10⟩ := getF X9 hx hZ hown (host := "") (Or.inl (hw _ (List.mem_of_getElem? (i := 25) rfl))) Via.refl e9 F0 (g := (mkF m 28 (LS_RI r0 (own_N jj)) [(.ref r0), (.int (own_N yy))])) rfl rfl (hb hby d11_28)
    refine own_go (B := T10.setTop (mkF m 31 (LS_RI r0 (own_N jj)) [(.ref eo), (.int (own_N yy))])) (fun t k => st10 _ k) ?_
    obtain ⟨cl11, Ar11, qa11, Sa11, Na11, Ha11, Ga11⟩ := id Ve
    have hin12 : ¬ ((own_N (2 * jj + 1)) < 0 ∨ cl11.slots.size ≤ ((own_N (2 * jj + 1))).toNatClampNeg) := own_inb (X := (2 * jj + 1)) Sa11 (by omega) (by omega)
    have hat12 : cl11.slots[((own_N (2 * jj + 1))).toNatClampNeg]? = some (.int (en ((2 * jj + 1)))) := Has.at Ha11 hin12 (own_getV (X := (2 * jj + 1)) (by omega) (by omega))
    refine own_go (B := T10.setTop (mkF m 38 (LS_RI r0 (own_N jj)) [(.int (own_N (yy - xx)))])) (fun t k => ?_) ?_
    · show Steps p.tables e below (T10.setTop (mkF m 31 (LS_RI r0 (own_N jj)) [(.ref eo), (.int (own_N yy))])) _
      refine XS.iconst X10.here hx rfl (hb hby d11_31) ?_
      show Steps p.tables e below (T10.setTop (mkF m 32 (LS_RI r0 (own_N jj)) [(.int (2 : Int32)), (.ref eo), (.int (own_N yy))])) _
      refine XS.iloadN X10.here hx rfl (hb hby d11_32) rfl ?_
      show Steps p.tables e below (T10.setTop (mkF m 33 (LS_RI r0 (own_N jj)) [(.int (own_N jj)), (.int (2 : Int32)), (.ref eo), (.int (own_N yy))])) _
      refine XS.imul X10.here hx rfl (hb hby d11_33) rfl ?_
      change Steps p.tables e below (T10.setTop (mkF m 34 (LS_RI r0 (own_N jj)) [(.int ((2 : Int32) * (own_N jj))), (.ref eo), (.int (own_N yy))])) _
      rw [show ((2 : Int32) * (own_N jj)) = (own_N (2 * jj)) from own_N2 (by omega)]
      show Steps p.tables e below (T10.setTop (mkF m 34 (LS_RI r0 (own_N jj)) [(.int (own_N (2 * jj))), (.ref eo), (.int (own_N yy))])) _
      refine XS.iconst X10.here hx rfl (hb hby d11_34) ?_
      show Steps p.tables e below (T10.setTop (mkF m 35 (LS_RI r0 (own_N jj)) [(.int (1 : Int32)), (.int (own_N (2 * jj))), (.ref eo), (.int (own_N yy))])) _
      refine XS.iadd X10.here hx rfl (hb hby d11_35) rfl ?_
      change Steps p.tables e below (T10.setTop (mkF m 36 (LS_RI r0 (own_N jj)) [(.int ((own_N (2 * jj)) + (1 : Int32))), (.ref eo), (.int (own_N yy))])) _
      rw [show ((own_N (2 * jj)) + (1 : Int32)) = (own_N (2 * jj + 1)) from own_N1 (by omega)]
      show Steps p.tables e below (T10.setTop (mkF m 36 (LS_RI r0 (own_N jj)) [(.int (own_N (2 * jj + 1))), (.ref eo), (.int (own_N yy))])) _
      refine X10.iaload hx (j := (own_N (2 * jj + 1))) (v := (.int (en ((2 * jj + 1))))) (by rw [e10]; exact Ar11.1) (State.isArrayOf_alike hZ.alike Ar11.2.1) Ar11.2.2 hin12 hat12 (g := (mkF m 36 (LS_RI r0 (own_N jj)) [(.int (own_N (2 * jj + 1))), (.ref eo), (.int (own_N yy))])) rfl rfl (hb hby d11_36) _ ?_
      change Steps p.tables e below (T10.setTop (mkF m 37 (LS_RI r0 (own_N jj)) [(.int (en ((2 * jj + 1)))), (.int (own_N yy))])) _
      rw [show (en ((2 * jj + 1))) = (own_N xx) from hxe]
      show Steps p.tables e below (T10.setTop (mkF m 37 (LS_RI r0 (own_N jj)) [(.int (own_N xx)), (.int (own_N yy))])) _
      refine XS.isub X10.here hx rfl (hb hby d11_37) rfl ?_
      change Steps p.tables e below (T10.setTop (mkF m 38 (LS_RI r0 (own_N jj)) [(.int ((own_N yy) - (own_N xx)))])) _
      rw [show ((own_N yy) - (own_N xx)) = (own_N (yy - xx)) from own_Nsub (by omega) hxy]
      exact k
    obtain ⟨fs, hr, hrun, hended, hW, hsame⟩ := X10.leave (v := some (.int (own_N (yy - xx)))) (fun h => by rw [Bd.returns] at h; cases h) (BodyLoose.notSynchronized Bd)
    refine ⟨_, _, ?_, hrun, hended, _, _, rfl, ?_, ⟨_, rfl⟩, hW, hsame.mono (by decide) (by decide)⟩
    · show Steps p.tables e below (T10.setTop (mkF m 38 (LS_RI r0 (own_N jj)) [(.int (own_N (yy - xx)))])) _
      exact retOut X10 hx Bd.returns rfl (Or.inl ⟨rfl, Or.inl rfl, _, rfl⟩) (hb hby d11_38) hr
    · show Qgfr Z r0 eo ke en ze sz bb jj xx yy h0 n0 _ T10.heap _
      rw [e10]
      exact ⟨rfl, N0, rfl⟩
theorem own_fff {n j f : Nat} (F : own_FF n j f) (q : ¬ j < n) : f = 0 := F.2 q
theorem own_cum0 {n a b c d e : Nat} (F : own_FS n a b c d e) (q : ¬ 1 < n) : a + b + c + d + e = a := by
  obtain ⟨n1, n5, h0, h1, h2, h3, h4⟩ := F
  unfold own_FF at h0 h1 h2 h3 h4
  omega
theorem own_cum1 {n a b c d e : Nat} (F : own_FS n a b c d e) (q : ¬ 2 < n) : a + b + c + d + e = a + b := by
  obtain ⟨n1, n5, h0, h1, h2, h3, h4⟩ := F
  unfold own_FF at h0 h1 h2 h3 h4
  omega
theorem own_cum2 {n a b c d e : Nat} (F : own_FS n a b c d e) (q : ¬ 3 < n) : a + b + c + d + e = a + b + c := by
  obtain ⟨n1, n5, h0, h1, h2, h3, h4⟩ := F
  unfold own_FF at h0 h1 h2 h3 h4
  omega
theorem own_cum3 {n a b c d e : Nat} (F : own_FS n a b c d e) (q : ¬ 4 < n) : a + b + c + d + e = a + b + c + d := by
  obtain ⟨n1, n5, h0, h1, h2, h3, h4⟩ := F
  unfold own_FF at h0 h1 h2 h3 h4
  omega
theorem own_cum4 {n a b c d e : Nat} (F : own_FS n a b c d e) (q : ¬ 5 < n) : a + b + c + d + e = a + b + c + d + e := by
  obtain ⟨n1, n5, h0, h1, h2, h3, h4⟩ := F
  unfold own_FF at h0 h1 h2 h3 h4
  omega
theorem ef_0 (m : MethodId) (p0 : Int32) (p1 : Int32) (p2 : Int32) (p3 : Int32) : entryFrame m #[(.int p0), (.int p1), (.int p2), (.int p3)] maxLocals = mkF m 0 #[.val (.int p0), .val (.int p1), .val (.int p2), .val (.int p3), .unset, .unset, .unset, .unset, .unset, .unset, .unset, .unset, .unset, .unset, .unset, .unset, .unset, .unset, .unset, .unset, .unset] [] := by first | (simp [entryFrame, mkF, argsToLocals, Value.category, maxLocals]; done) | rfl
theorem pn_0 : plainName "com/example/terms_to_scores/termstoscores/index/PostingsGetFreqPinLaw" = true := by first | (simp [plainName, overriddenIn]; done) | decide +kernel
abbrev LS_IIIIuuuuuuuuuuuuuuuuu (a0 : Int32) (a1 : Int32) (a2 : Int32) (a3 : Int32) : Array Slot := #[.val (.int a0), .val (.int a1), .val (.int a2), .val (.int a3), .unset, .unset, .unset, .unset, .unset, .unset, .unset, .unset, .unset, .unset, .unset, .unset, .unset, .unset, .unset, .unset, .unset]
abbrev LS_IIIIIuuuuuuuuuuuuuuuu (a0 : Int32) (a1 : Int32) (a2 : Int32) (a3 : Int32) (a4 : Int32) : Array Slot := #[.val (.int a0), .val (.int a1), .val (.int a2), .val (.int a3), .val (.int a4), .unset, .unset, .unset, .unset, .unset, .unset, .unset, .unset, .unset, .unset, .unset, .unset, .unset, .unset, .unset, .unset]
theorem pd__III_I : parseMethodDescriptor "(III)I" = some ⟨[.int, .int, .int], some .int⟩ := by decide +kernel
abbrev LS_IIIIIIuuuuuuuuuuuuuuu (a0 : Int32) (a1 : Int32) (a2 : Int32) (a3 : Int32) (a4 : Int32) (a5 : Int32) : Array Slot := #[.val (.int a0), .val (.int a1), .val (.int a2), .val (.int a3), .val (.int a4), .val (.int a5), .unset, .unset, .unset, .unset, .unset, .unset, .unset, .unset, .unset, .unset, .unset, .unset, .unset, .unset, .unset]
abbrev LS_IIIIIIIuuuuuuuuuuuuuu (a0 : Int32) (a1 : Int32) (a2 : Int32) (a3 : Int32) (a4 : Int32) (a5 : Int32) (a6 : Int32) : Array Slot := #[.val (.int a0), .val (.int a1), .val (.int a2), .val (.int a3), .val (.int a4), .val (.int a5), .val (.int a6), .unset, .unset, .unset, .unset, .unset, .unset, .unset, .unset, .unset, .unset, .unset, .unset, .unset, .unset]
abbrev LS_IIIIIIIIuuuuuuuuuuuuu (a0 : Int32) (a1 : Int32) (a2 : Int32) (a3 : Int32) (a4 : Int32) (a5 : Int32) (a6 : Int32) (a7 : Int32) : Array Slot := #[.val (.int a0), .val (.int a1), .val (.int a2), .val (.int a3), .val (.int a4), .val (.int a5), .val (.int a6), .val (.int a7), .unset, .unset, .unset, .unset, .unset, .unset, .unset, .unset, .unset, .unset, .unset, .unset, .unset]
abbrev LS_IIIIIIIIIuuuuuuuuuuuu (a0 : Int32) (a1 : Int32) (a2 : Int32) (a3 : Int32) (a4 : Int32) (a5 : Int32) (a6 : Int32) (a7 : Int32) (a8 : Int32) : Array Slot := #[.val (.int a0), .val (.int a1), .val (.int a2), .val (.int a3), .val (.int a4), .val (.int a5), .val (.int a6), .val (.int a7), .val (.int a8), .unset, .unset, .unset, .unset, .unset, .unset, .unset, .unset, .unset, .unset, .unset, .unset]
abbrev LS_IIIIIIIIIIuuuuuuuuuuu (a0 : Int32) (a1 : Int32) (a2 : Int32) (a3 : Int32) (a4 : Int32) (a5 : Int32) (a6 : Int32) (a7 : Int32) (a8 : Int32) (a9 : Int32) : Array Slot := #[.val (.int a0), .val (.int a1), .val (.int a2), .val (.int a3), .val (.int a4), .val (.int a5), .val (.int a6), .val (.int a7), .val (.int a8), .val (.int a9), .unset, .unset, .unset, .unset, .unset, .unset, .unset, .unset, .unset, .unset, .unset]
abbrev LS_IIIIIIIIIIIuuuuuuuuuu (a0 : Int32) (a1 : Int32) (a2 : Int32) (a3 : Int32) (a4 : Int32) (a5 : Int32) (a6 : Int32) (a7 : Int32) (a8 : Int32) (a9 : Int32) (a10 : Int32) : Array Slot := #[.val (.int a0), .val (.int a1), .val (.int a2), .val (.int a3), .val (.int a4), .val (.int a5), .val (.int a6), .val (.int a7), .val (.int a8), .val (.int a9), .val (.int a10), .unset, .unset, .unset, .unset, .unset, .unset, .unset, .unset, .unset, .unset]
abbrev LS_IIIIIIIIIIIIuuuuuuuuu (a0 : Int32) (a1 : Int32) (a2 : Int32) (a3 : Int32) (a4 : Int32) (a5 : Int32) (a6 : Int32) (a7 : Int32) (a8 : Int32) (a9 : Int32) (a10 : Int32) (a11 : Int32) : Array Slot := #[.val (.int a0), .val (.int a1), .val (.int a2), .val (.int a3), .val (.int a4), .val (.int a5), .val (.int a6), .val (.int a7), .val (.int a8), .val (.int a9), .val (.int a10), .val (.int a11), .unset, .unset, .unset, .unset, .unset, .unset, .unset, .unset, .unset]
abbrev LS_IIIIIIIIIIIIIuuuuuuuu (a0 : Int32) (a1 : Int32) (a2 : Int32) (a3 : Int32) (a4 : Int32) (a5 : Int32) (a6 : Int32) (a7 : Int32) (a8 : Int32) (a9 : Int32) (a10 : Int32) (a11 : Int32) (a12 : Int32) : Array Slot := #[.val (.int a0), .val (.int a1), .val (.int a2), .val (.int a3), .val (.int a4), .val (.int a5), .val (.int a6), .val (.int a7), .val (.int a8), .val (.int a9), .val (.int a10), .val (.int a11), .val (.int a12), .unset, .unset, .unset, .unset, .unset, .unset, .unset, .unset]
abbrev LS_IIIIIIIIIIIIIIuuuuuuu (a0 : Int32) (a1 : Int32) (a2 : Int32) (a3 : Int32) (a4 : Int32) (a5 : Int32) (a6 : Int32) (a7 : Int32) (a8 : Int32) (a9 : Int32) (a10 : Int32) (a11 : Int32) (a12 : Int32) (a13 : Int32) : Array Slot := #[.val (.int a0), .val (.int a1), .val (.int a2), .val (.int a3), .val (.int a4), .val (.int a5), .val (.int a6), .val (.int a7), .val (.int a8), .val (.int a9), .val (.int a10), .val (.int a11), .val (.int a12), .val (.int a13), .unset, .unset, .unset, .unset, .unset, .unset, .unset]
abbrev LS_IIIIIIIIIIIIIIIuuuuuu (a0 : Int32) (a1 : Int32) (a2 : Int32) (a3 : Int32) (a4 : Int32) (a5 : Int32) (a6 : Int32) (a7 : Int32) (a8 : Int32) (a9 : Int32) (a10 : Int32) (a11 : Int32) (a12 : Int32) (a13 : Int32) (a14 : Int32) : Array Slot := #[.val (.int a0), .val (.int a1), .val (.int a2), .val (.int a3), .val (.int a4), .val (.int a5), .val (.int a6), .val (.int a7), .val (.int a8), .val (.int a9), .val (.int a10), .val (.int a11), .val (.int a12), .val (.int a13), .val (.int a14), .unset, .unset, .unset, .unset, .unset, .unset]
abbrev LS_IIIIIIIIIIIIIIIRuuuuu (a0 : Int32) (a1 : Int32) (a2 : Int32) (a3 : Int32) (a4 : Int32) (a5 : Int32) (a6 : Int32) (a7 : Int32) (a8 : Int32) (a9 : Int32) (a10 : Int32) (a11 : Int32) (a12 : Int32) (a13 : Int32) (a14 : Int32) (a15 : Addr) : Array Slot := #[.val (.int a0), .val (.int a1), .val (.int a2), .val (.int a3), .val (.int a4), .val (.int a5), .val (.int a6), .val (.int a7), .val (.int a8), .val (.int a9), .val (.int a10), .val (.int a11), .val (.int a12), .val (.int a13), .val (.int a14), .val (.ref a15), .unset, .unset, .unset, .unset, .unset]
theorem pd__IIIIII_I : parseMethodDescriptor "(IIIIII)I" = some ⟨[.int, .int, .int, .int, .int, .int], some .int⟩ := by decide +kernel
abbrev LS_IIIIIIIIIIIIIIIRRuuuu (a0 : Int32) (a1 : Int32) (a2 : Int32) (a3 : Int32) (a4 : Int32) (a5 : Int32) (a6 : Int32) (a7 : Int32) (a8 : Int32) (a9 : Int32) (a10 : Int32) (a11 : Int32) (a12 : Int32) (a13 : Int32) (a14 : Int32) (a15 : Addr) (a16 : Addr) : Array Slot := #[.val (.int a0), .val (.int a1), .val (.int a2), .val (.int a3), .val (.int a4), .val (.int a5), .val (.int a6), .val (.int a7), .val (.int a8), .val (.int a9), .val (.int a10), .val (.int a11), .val (.int a12), .val (.int a13), .val (.int a14), .val (.ref a15), .val (.ref a16), .unset, .unset, .unset, .unset]
abbrev LS_IIIIIIIIIIIIIIIRRRuuu (a0 : Int32) (a1 : Int32) (a2 : Int32) (a3 : Int32) (a4 : Int32) (a5 : Int32) (a6 : Int32) (a7 : Int32) (a8 : Int32) (a9 : Int32) (a10 : Int32) (a11 : Int32) (a12 : Int32) (a13 : Int32) (a14 : Int32) (a15 : Addr) (a16 : Addr) (a17 : Addr) : Array Slot := #[.val (.int a0), .val (.int a1), .val (.int a2), .val (.int a3), .val (.int a4), .val (.int a5), .val (.int a6), .val (.int a7), .val (.int a8), .val (.int a9), .val (.int a10), .val (.int a11), .val (.int a12), .val (.int a13), .val (.int a14), .val (.ref a15), .val (.ref a16), .val (.ref a17), .unset, .unset, .unset]
abbrev LS_IIIIIIIIIIIIIIIRRRIuu (a0 : Int32) (a1 : Int32) (a2 : Int32) (a3 : Int32) (a4 : Int32) (a5 : Int32) (a6 : Int32) (a7 : Int32) (a8 : Int32) (a9 : Int32) (a10 : Int32) (a11 : Int32) (a12 : Int32) (a13 : Int32) (a14 : Int32) (a15 : Addr) (a16 : Addr) (a17 : Addr) (a18 : Int32) : Array Slot := #[.val (.int a0), .val (.int a1), .val (.int a2), .val (.int a3), .val (.int a4), .val (.int a5), .val (.int a6), .val (.int a7), .val (.int a8), .val (.int a9), .val (.int a10), .val (.int a11), .val (.int a12), .val (.int a13), .val (.int a14), .val (.ref a15), .val (.ref a16), .val (.ref a17), .val (.int a18), .unset, .unset]
theorem pd___V : parseMethodDescriptor "()V" = some ⟨[], none⟩ := by decide +kernel
abbrev LS_IIIIIIIIIIIIIIIRRRIRu (a0 : Int32) (a1 : Int32) (a2 : Int32) (a3 : Int32) (a4 : Int32) (a5 : Int32) (a6 : Int32) (a7 : Int32) (a8 : Int32) (a9 : Int32) (a10 : Int32) (a11 : Int32) (a12 : Int32) (a13 : Int32) (a14 : Int32) (a15 : Addr) (a16 : Addr) (a17 : Addr) (a18 : Int32) (a19 : Addr) : Array Slot := #[.val (.int a0), .val (.int a1), .val (.int a2), .val (.int a3), .val (.int a4), .val (.int a5), .val (.int a6), .val (.int a7), .val (.int a8), .val (.int a9), .val (.int a10), .val (.int a11), .val (.int a12), .val (.int a13), .val (.int a14), .val (.ref a15), .val (.ref a16), .val (.ref a17), .val (.int a18), .val (.ref a19), .unset]
theorem pd___I_III_B_V : parseMethodDescriptor "([I[III[B)V" = some ⟨[(.array .int), (.array .int), .int, .int, (.array .byte)], none⟩ := by decide +kernel
theorem pd___I : parseMethodDescriptor "()I" = some ⟨[], some .int⟩ := by decide +kernel
theorem pd__I_I : parseMethodDescriptor "(I)I" = some ⟨[.int], some .int⟩ := by decide +kernel
abbrev LS_IIIIIIIIIIIIIIIRRRIRI (a0 : Int32) (a1 : Int32) (a2 : Int32) (a3 : Int32) (a4 : Int32) (a5 : Int32) (a6 : Int32) (a7 : Int32) (a8 : Int32) (a9 : Int32) (a10 : Int32) (a11 : Int32) (a12 : Int32) (a13 : Int32) (a14 : Int32) (a15 : Addr) (a16 : Addr) (a17 : Addr) (a18 : Int32) (a19 : Addr) (a20 : Int32) : Array Slot := #[.val (.int a0), .val (.int a1), .val (.int a2), .val (.int a3), .val (.int a4), .val (.int a5), .val (.int a6), .val (.int a7), .val (.int a8), .val (.int a9), .val (.int a10), .val (.int a11), .val (.int a12), .val (.int a13), .val (.int a14), .val (.ref a15), .val (.ref a16), .val (.ref a17), .val (.int a18), .val (.ref a19), .val (.int a20)]
def Q0 (Z : State) (p0 : Int32) (p1 : Int32) (p2 : Int32) (p3 : Int32) (h0 : Heap) (n0 : Nat) (v : Option Value) (h : Heap) (L : List Loc) : Prop := v = some (.int (1 : Int32)) ∧ Fr n0 L
set_option maxRecDepth 65536 in
set_option maxHeartbeats 40000000 in
theorem rm0 (l : Launch) (Z : State) (a0 : Array Value) (hw : ∀ d ∈ tables_1, d.before a0 Z = true) (ws : List Jvm.Cond) (p0 : Int32) (p1 : Int32) (p2 : Int32) (p3 : Int32) (h0 : Heap) (n0 : Nat) (Z0 : n0 ≤ h0.size) :
    MetFree l x (head1 (Jvm.Cond.code x code maxLocals ret :: ws) room_1) (fun a U => a = #[(.int p0), (.int p1), (.int p2), (.int p3)] ∧ Z.Warmed39 U.vm ∧ U.heap = h0) (fun _ _ _ _ _ => True) (fun _ U o U' => ∃ v L, o = .returned v ∧ Q0 Z p0 p1 p2 p3 h0 n0 v U'.heap L ∧ FrameEnd U o U' L room_1.cells room_1.slots) := by
  refine MetFree.of_bodySF (plainFor_of_name pn_0) hisR ?_
  intro p e s m args below meth c s₁ Bd hml0 hP hK
  obtain ⟨rfl, hZ, hh⟩ := hP
  have hx := Bd.exec
  have hby := Bd.bytes
  have hml : c.maxLocals = 21 := hml0
  have hown : s.vm.findClass "com/example/terms_to_scores/termstoscores/index/PostingsGetFreqPinLaw" = some m.cls := findClass_of_methodNamed Bd.named
  have hnm := (name_of_methodNamed Bd.named Bd.method).1
  have X0 : Stand p l e room_1 s m #[(.int p0), (.int p1), (.int p2), (.int p3)] below meth c s₁ [] 0 0 := Stand.of_body Bd
  have e0 : s₁.heap = h0 := by rw [← hh, Bd.state]; rfl
  have N0 := Fr.nil n0
  refine own_go (B := s₁.setTop (mkF m 0 (LS_IIIIuuuuuuuuuuuuuuuuu p0 p1 p2 p3) [])) (fun t k => castTop (ef_0 m p0 p1 p2 p3) k) ?_
  obtain ⟨nn, hnn, e_nn⟩ := own_n5 p0
  have hn1 := hnn.1
  have hn5 := hnn.2
  refine own_go (B := s₁.setTop (mkF m 14 (LS_IIIIIuuuuuuuuuuuuuuuu p0 p1 p2 p3 (own_N nn)) [(.int (own_N nn)), (.int (0 : Int32)), (.int p1)])) (fun t k => ?_) ?_
  · refine XS.iloadN X0.here hx rfl (hb hby at_0) rfl ?_
    refine X0.ldcInt hx hown (mvT hZ (hw _ (List.mem_of_getElem? (i := 0) rfl))) (g := (mkF m 1 (LS_IIIIuuuuuuuuuuuuuuuuu p0 p1 p2 p3) [(.int p0)])) rfl (hb hby at_1) _ ?_
    show Steps p.tables e below (s₁.setTop (mkF m 3 (LS_IIIIuuuuuuuuuuuuuuuuu p0 p1 p2 p3) [(.int (2147483647 : Int32)), (.int p0)])) _
    refine XS.iand X0.here hx rfl (hb hby at_3) rfl ?_
    refine XS.iconst X0.here hx rfl (hb hby at_4) ?_
    refine Jvm.RoadKit.iremM X0 hx rfl (hb hby at_5) rfl (by decide) ?_
    show Steps p.tables e below (s₁.setTop (mkF m 6 (LS_IIIIuuuuuuuuuuuuuuuuu p0 p1 p2 p3) [(.int ((p0 &&& (2147483647 : Int32)) % (5 : Int32)))])) _
    refine XS.iconst X0.here hx rfl (hb hby at_6) ?_
    refine XS.iadd X0.here hx rfl (hb hby at_7) rfl ?_
    refine XS.istore X0.here hx rfl (hb hby at_8) rfl (l' := (LS_IIIIIuuuuuuuuuuuuuuuu p0 p1 p2 p3 (((p0 &&& (2147483647 : Int32)) % (5 : Int32)) + (1 : Int32)))) rfl ?_
    change Steps p.tables e below (s₁.setTop (mkF m 10 (LS_IIIIIuuuuuuuuuuuuuuuu p0 p1 p2 p3 (((p0 &&& (2147483647 : Int32)) % (5 : Int32)) + (1 : Int32))) [])) _
    rw [show (((p0 &&& (2147483647 : Int32)) % (5 : Int32)) + (1 : Int32)) = (own_N nn) from e_nn]
    show Steps p.tables e below (s₁.setTop (mkF m 10 (LS_IIIIIuuuuuuuuuuuuuuuu p0 p1 p2 p3 (own_N nn)) [])) _
    refine XS.iloadN X0.here hx rfl (hb hby at_10) rfl ?_
    refine XS.iconst X0.here hx rfl (hb hby at_11) ?_
    refine XS.iload X0.here hx rfl (hb hby at_12) rfl ?_
    exact k
  obtain ⟨_, _, ⟨T1, L1, k1, n1⟩, -, X1, ⟨Lc1, hQ1, l1, y1, z1⟩, st1⟩ := Jvm.LawKit.callS X0 hx (y := (⟨"com/example/terms_to_scores/termstoscores/index/PostingsGetFreqPinLaw", "freq", "(III)I"⟩ : MethodName)) hown (mvT hZ (hw _ (List.mem_of_getElem? (i := 1) rfl))) (mvT hZ (hw _ (List.mem_of_getElem? (i := 2) rfl))) (mvT hZ (hw _ (List.mem_of_getElem? (i := 3) rfl))) (mvT hZ (hw _ (List.mem_of_getElem? (i := 4) rfl))) (by decide) (backOf (W := 0) (rmfrq l Z a0 hw [] p1 0 nn h0 n0 Z0 (by decide) hn5) hZ (hw _ (List.mem_of_getElem? (i := 4) rfl)) (hw _ (List.mem_of_getElem? (i := 3) rfl)) (by decide) (by decide)) (g := (mkF m 14 (LS_IIIIIuuuuuuuuuuuuuuuu p0 p1 p2 p3 (own_N nn)) [(.int (own_N nn)), (.int (0 : Int32)), (.int p1)])) rfl (by rw [hml]; rfl) (argsL := [(.int p1), (.int (0 : Int32)), (.int (own_N nn))]) (rest := []) (lenOf pd__III_I rfl) rfl (by show 2 * 0 + _ ≤ _; exact Nat.le_of_eq rfl) (hb hby at_14) (fun _ _ => ⟨rfl, e0, (by decide : 0 + 0 ≤ _), (by decide : 0 + 0 ≤ _)⟩)
  dsimp only [Pt.U, Pt.locs, Pt.cells, Pt.slots] at X1 l1 y1 z1 st1 hQ1
  subst l1 y1 z1
  obtain ⟨c1, rfl, N1q, e1, hff1⟩ := hQ1
  have N1 := Fr.app N0 N1q
  refine own_go (B := T1.setTop (mkF m 17 (LS_IIIIIuuuuuuuuuuuuuuuu p0 p1 p2 p3 (own_N nn)) [(.int (own_N c1))])) (fun t k => st1 _ k) ?_
  refine own_hide X1 N1 fun lc2 Y2 M2 => ?_
  refine own_go (B := T1.setTop (mkF m 23 (LS_IIIIIIuuuuuuuuuuuuuuu p0 p1 p2 p3 (own_N nn) (own_N c1)) [(.int (own_N nn)), (.int (1 : Int32)), (.int p1)])) (fun t k => ?_) ?_
  · refine XS.istore Y2.here hx rfl (hb hby at_17) rfl (l' := (LS_IIIIIIuuuuuuuuuuuuuuu p0 p1 p2 p3 (own_N nn) (own_N c1))) rfl ?_
    refine XS.iloadN Y2.here hx rfl (hb hby at_19) rfl ?_
    show Steps p.tables e below (T1.setTop (mkF m 20 (LS_IIIIIIuuuuuuuuuuuuuuu p0 p1 p2 p3 (own_N nn) (own_N c1)) [(.int p1)])) _
    refine XS.iconst Y2.here hx rfl (hb hby at_20) ?_
    refine XS.iload Y2.here hx rfl (hb hby at_21) rfl ?_
    exact k
  obtain ⟨_, _, ⟨T3, L3, k3, n3⟩, -, X3, ⟨Lc3, hQ3, l3, y3, z3⟩, st3⟩ := Jvm.LawKit.callS Y2 hx (y := (⟨"com/example/terms_to_scores/termstoscores/index/PostingsGetFreqPinLaw", "freq", "(III)I"⟩ : MethodName)) hown (mvT hZ (hw _ (List.mem_of_getElem? (i := 1) rfl))) (mvT hZ (hw _ (List.mem_of_getElem? (i := 2) rfl))) (mvT hZ (hw _ (List.mem_of_getElem? (i := 3) rfl))) (mvT hZ (hw _ (List.mem_of_getElem? (i := 4) rfl))) (by decide) (backOf (W := 0) (rmfrq l Z a0 hw [] p1 1 nn h0 n0 Z0 (by decide) hn5) hZ (hw _ (List.mem_of_getElem? (i := 4) rfl)) (hw _ (List.mem_of_getElem? (i := 3) rfl)) (by decide) (by decide)) (g := (mkF m 23 (LS_IIIIIIuuuuuuuuuuuuuuu p0 p1 p2 p3 (own_N nn) (own_N c1)) [(.int (own_N nn)), (.int (1 : Int32)), (.int p1)])) rfl (by rw [hml]; rfl) (argsL := [(.int p1), (.int (1 : Int32)), (.int (own_N nn))]) (rest := []) (lenOf pd__III_I rfl) rfl (by show 2 * 0 + _ ≤ _; exact Nat.le_of_eq rfl) (hb hby at_23) (fun _ _ => ⟨rfl, e1, (by decide : 0 + 0 ≤ _), (by decide : 0 + 0 ≤ _)⟩)
  dsimp only [Pt.U, Pt.locs, Pt.cells, Pt.slots] at X3 l3 y3 z3 st3 hQ3
  subst l3 y3 z3
  obtain ⟨c3, rfl, N3q, e3, hff3⟩ := hQ3
  have N3 := Fr.app M2 N3q
  refine own_go (B := T3.setTop (mkF m 26 (LS_IIIIIIuuuuuuuuuuuuuuu p0 p1 p2 p3 (own_N nn) (own_N c1)) [(.int (own_N c3))])) (fun t k => st3 _ k) ?_
  refine own_hide X3 N3 fun lc4 Y4 M4 => ?_
  refine own_go (B := T3.setTop (mkF m 32 (LS_IIIIIIIuuuuuuuuuuuuuu p0 p1 p2 p3 (own_N nn) (own_N c1) (own_N c3)) [(.int (own_N nn)), (.int (2 : Int32)), (.int p1)])) (fun t k => ?_) ?_
  · refine XS.istore Y4.here hx rfl (hb hby at_26) rfl (l' := (LS_IIIIIIIuuuuuuuuuuuuuu p0 p1 p2 p3 (own_N nn) (own_N c1) (own_N c3))) rfl ?_
    refine XS.iloadN Y4.here hx rfl (hb hby at_28) rfl ?_
    show Steps p.tables e below (T3.setTop (mkF m 29 (LS_IIIIIIIuuuuuuuuuuuuuu p0 p1 p2 p3 (own_N nn) (own_N c1) (own_N c3)) [(.int p1)])) _
    refine XS.iconst Y4.here hx rfl (hb hby at_29) ?_
    refine XS.iload Y4.here hx rfl (hb hby at_30) rfl ?_
    exact k
  obtain ⟨_, _, ⟨T5, L5, k5, n5⟩, -, X5, ⟨Lc5, hQ5, l5, y5, z5⟩, st5⟩ := Jvm.LawKit.callS Y4 hx (y := (⟨"com/example/terms_to_scores/termstoscores/index/PostingsGetFreqPinLaw", "freq", "(III)I"⟩ : MethodName)) hown (mvT hZ (hw _ (List.mem_of_getElem? (i := 1) rfl))) (mvT hZ (hw _ (List.mem_of_getElem? (i := 2) rfl))) (mvT hZ (hw _ (List.mem_of_getElem? (i := 3) rfl))) (mvT hZ (hw _ (List.mem_of_getElem? (i := 4) rfl))) (by decide) (backOf (W := 0) (rmfrq l Z a0 hw [] p1 2 nn h0 n0 Z0 (by decide) hn5) hZ (hw _ (List.mem_of_getElem? (i := 4) rfl)) (hw _ (List.mem_of_getElem? (i := 3) rfl)) (by decide) (by decide)) (g := (mkF m 32 (LS_IIIIIIIuuuuuuuuuuuuuu p0 p1 p2 p3 (own_N nn) (own_N c1) (own_N c3)) [(.int (own_N nn)), (.int (2 : Int32)), (.int p1)])) rfl (by rw [hml]; rfl) (argsL := [(.int p1), (.int (2 : Int32)), (.int (own_N nn))]) (rest := []) (lenOf pd__III_I rfl) rfl (by show 2 * 0 + _ ≤ _; exact Nat.le_of_eq rfl) (hb hby at_32) (fun _ _ => ⟨rfl, e3, (by decide : 0 + 0 ≤ _), (by decide : 0 + 0 ≤ _)⟩)
  dsimp only [Pt.U, Pt.locs, Pt.cells, Pt.slots] at X5 l5 y5 z5 st5 hQ5
  subst l5 y5 z5
  obtain ⟨c5, rfl, N5q, e5, hff5⟩ := hQ5
  have N5 := Fr.app M4 N5q
  refine own_go (B := T5.setTop (mkF m 35 (LS_IIIIIIIuuuuuuuuuuuuuu p0 p1 p2 p3 (own_N nn) (own_N c1) (own_N c3)) [(.int (own_N c5))])) (fun t k => st5 _ k) ?_
  refine own_hide X5 N5 fun lc6 Y6 M6 => ?_
  refine own_go (B := T5.setTop (mkF m 41 (LS_IIIIIIIIuuuuuuuuuuuuu p0 p1 p2 p3 (own_N nn) (own_N c1) (own_N c3) (own_N c5)) [(.int (own_N nn)), (.int (3 : Int32)), (.int p1)])) (fun t k => ?_) ?_
  · refine XS.istore Y6.here hx rfl (hb hby at_35) rfl (l' := (LS_IIIIIIIIuuuuuuuuuuuuu p0 p1 p2 p3 (own_N nn) (own_N c1) (own_N c3) (own_N c5))) rfl ?_
    refine XS.iloadN Y6.here hx rfl (hb hby at_37) rfl ?_
    show Steps p.tables e below (T5.setTop (mkF m 38 (LS_IIIIIIIIuuuuuuuuuuuuu p0 p1 p2 p3 (own_N nn) (own_N c1) (own_N c3) (own_N c5)) [(.int p1)])) _
    refine XS.iconst Y6.here hx rfl (hb hby at_38) ?_
    refine XS.iload Y6.here hx rfl (hb hby at_39) rfl ?_
    exact k
  obtain ⟨_, _, ⟨T7, L7, k7, n7⟩, -, X7, ⟨Lc7, hQ7, l7, y7, z7⟩, st7⟩ := Jvm.LawKit.callS Y6 hx (y := (⟨"com/example/terms_to_scores/termstoscores/index/PostingsGetFreqPinLaw", "freq", "(III)I"⟩ : MethodName)) hown (mvT hZ (hw _ (List.mem_of_getElem? (i := 1) rfl))) (mvT hZ (hw _ (List.mem_of_getElem? (i := 2) rfl))) (mvT hZ (hw _ (List.mem_of_getElem? (i := 3) rfl))) (mvT hZ (hw _ (List.mem_of_getElem? (i := 4) rfl))) (by decide) (backOf (W := 0) (rmfrq l Z a0 hw [] p1 3 nn h0 n0 Z0 (by decide) hn5) hZ (hw _ (List.mem_of_getElem? (i := 4) rfl)) (hw _ (List.mem_of_getElem? (i := 3) rfl)) (by decide) (by decide)) (g := (mkF m 41 (LS_IIIIIIIIuuuuuuuuuuuuu p0 p1 p2 p3 (own_N nn) (own_N c1) (own_N c3) (own_N c5)) [(.int (own_N nn)), (.int (3 : Int32)), (.int p1)])) rfl (by rw [hml]; rfl) (argsL := [(.int p1), (.int (3 : Int32)), (.int (own_N nn))]) (rest := []) (lenOf pd__III_I rfl) rfl (by show 2 * 0 + _ ≤ _; exact Nat.le_of_eq rfl) (hb hby at_41) (fun _ _ => ⟨rfl, e5, (by decide : 0 + 0 ≤ _), (by decide : 0 + 0 ≤ _)⟩)
  dsimp only [Pt.U, Pt.locs, Pt.cells, Pt.slots] at X7 l7 y7 z7 st7 hQ7
  subst l7 y7 z7
  obtain ⟨c7, rfl, N7q, e7, hff7⟩ := hQ7
  have N7 := Fr.app M6 N7q
  refine own_go (B := T7.setTop (mkF m 44 (LS_IIIIIIIIuuuuuuuuuuuuu p0 p1 p2 p3 (own_N nn) (own_N c1) (own_N c3) (own_N c5)) [(.int (own_N c7))])) (fun t k => st7 _ k) ?_
  refine own_hide X7 N7 fun lc8 Y8 M8 => ?_
  refine own_go (B := T7.setTop (mkF m 50 (LS_IIIIIIIIIuuuuuuuuuuuu p0 p1 p2 p3 (own_N nn) (own_N c1) (own_N c3) (own_N c5) (own_N c7)) [(.int (own_N nn)), (.int (4 : Int32)), (.int p1)])) (fun t k => ?_) ?_
  · refine XS.istore Y8.here hx rfl (hb hby at_44) rfl (l' := (LS_IIIIIIIIIuuuuuuuuuuuu p0 p1 p2 p3 (own_N nn) (own_N c1) (own_N c3) (own_N c5) (own_N c7))) rfl ?_
    refine XS.iloadN Y8.here hx rfl (hb hby at_46) rfl ?_
    show Steps p.tables e below (T7.setTop (mkF m 47 (LS_IIIIIIIIIuuuuuuuuuuuu p0 p1 p2 p3 (own_N nn) (own_N c1) (own_N c3) (own_N c5) (own_N c7)) [(.int p1)])) _
    refine XS.iconst Y8.here hx rfl (hb hby at_47) ?_
    refine XS.iload Y8.here hx rfl (hb hby at_48) rfl ?_
    exact k
  obtain ⟨_, _, ⟨T9, L9, k9, n9⟩, -, X9, ⟨Lc9, hQ9, l9, y9, z9⟩, st9⟩ := Jvm.LawKit.callS Y8 hx (y := (⟨"com/example/terms_to_scores/termstoscores/index/PostingsGetFreqPinLaw", "freq", "(III)I"⟩ : MethodName)) hown (mvT hZ (hw _ (List.mem_of_getElem? (i := 1) rfl))) (mvT hZ (hw _ (List.mem_of_getElem? (i := 2) rfl))) (mvT hZ (hw _ (List.mem_of_getElem? (i := 3) rfl))) (mvT hZ (hw _ (List.mem_of_getElem? (i := 4) rfl))) (by decide) (backOf (W := 0) (rmfrq l Z a0 hw [] p1 4 nn h0 n0 Z0 (by decide) hn5) hZ (hw _ (List.mem_of_getElem? (i := 4) rfl)) (hw _ (List.mem_of_getElem? (i := 3) rfl)) (by decide) (by decide)) (g := (mkF m 50 (LS_IIIIIIIIIuuuuuuuuuuuu p0 p1 p2 p3 (own_N nn) (own_N c1) (own_N c3) (own_N c5) (own_N c7)) [(.int (own_N nn)), (.int (4 : Int32)), (.int p1)])) rfl (by rw [hml]; rfl) (argsL := [(.int p1), (.int (4 : Int32)), (.int (own_N nn))]) (rest := []) (lenOf pd__III_I rfl) rfl (by show 2 * 0 + _ ≤ _; exact Nat.le_of_eq rfl) (hb hby at_50) (fun _ _ => ⟨rfl, e7, (by decide : 0 + 0 ≤ _), (by decide : 0 + 0 ≤ _)⟩)
  dsimp only [Pt.U, Pt.locs, Pt.cells, Pt.slots] at X9 l9 y9 z9 st9 hQ9
  subst l9 y9 z9
  obtain ⟨c9, rfl, N9q, e9, hff9⟩ := hQ9
  have N9 := Fr.app M8 N9q
  refine own_go (B := T9.setTop (mkF m 53 (LS_IIIIIIIIIuuuuuuuuuuuu p0 p1 p2 p3 (own_N nn) (own_N c1) (own_N c3) (own_N c5) (own_N c7)) [(.int (own_N c9))])) (fun t k => st9 _ k) ?_
  refine own_hide X9 N9 fun lc10 Y10 M10 => ?_
  refine own_go (B := T9.setTop (mkF m 55 (LS_IIIIIIIIIIuuuuuuuuuuu p0 p1 p2 p3 (own_N nn) (own_N c1) (own_N c3) (own_N c5) (own_N c7) (own_N c9)) [])) (fun t k => ?_) ?_
  · refine XS.istore Y10.here hx rfl (hb hby at_53) rfl (l' := (LS_IIIIIIIIIIuuuuuuuuuuu p0 p1 p2 p3 (own_N nn) (own_N c1) (own_N c3) (own_N c5) (own_N c7) (own_N c9))) rfl ?_
    exact k
  have hFS : own_FS nn c1 c3 c5 c7 c9 := ⟨hn1, hn5, hff1, hff3, hff5, hff7, hff9⟩
  have htot := own_FSb hFS
  refine own_go (B := T9.setTop (mkF m 89 (LS_IIIIIIIIIIIIIIIuuuuuu p0 p1 p2 p3 (own_N nn) (own_N c1) (own_N c3) (own_N c5) (own_N c7) (own_N c9) (own_N c1) (own_N (c1 + c3)) (own_N (c1 + c3 + c5)) (own_N (c1 + c3 + c5 + c7)) (own_N (c1 + c3 + c5 + c7 + c9))) [(.int (15 : Int32))])) (fun t k => ?_) ?_
  · refine XS.iload Y10.here hx rfl (hb hby at_55) rfl ?_
    refine XS.istore Y10.here hx rfl (hb hby at_57) rfl (l' := (LS_IIIIIIIIIIIuuuuuuuuuu p0 p1 p2 p3 (own_N nn) (own_N c1) (own_N c3) (own_N c5) (own_N c7) (own_N c9) (own_N c1))) rfl ?_
    show Steps p.tables e below (T9.setTop (mkF m 59 (LS_IIIIIIIIIIIuuuuuuuuuu p0 p1 p2 p3 (own_N nn) (own_N c1) (own_N c3) (own_N c5) (own_N c7) (own_N c9) (own_N c1)) [])) _
    refine XS.iload Y10.here hx rfl (hb hby at_59) rfl ?_
    refine XS.iload Y10.here hx rfl (hb hby at_61) rfl ?_
    refine XS.iadd Y10.here hx rfl (hb hby at_63) rfl ?_
    show Steps p.tables e below (T9.setTop (mkF m 64 (LS_IIIIIIIIIIIuuuuuuuuuu p0 p1 p2 p3 (own_N nn) (own_N c1) (own_N c3) (own_N c5) (own_N c7) (own_N c9) (own_N c1)) [(.int ((own_N c1) + (own_N c3)))])) _
    refine XS.istore Y10.here hx rfl (hb hby at_64) rfl (l' := (LS_IIIIIIIIIIIIuuuuuuuuu p0 p1 p2 p3 (own_N nn) (own_N c1) (own_N c3) (own_N c5) (own_N c7) (own_N c9) (own_N c1) ((own_N c1) + (own_N c3)))) rfl ?_
    change Steps p.tables e below (T9.setTop (mkF m 66 (LS_IIIIIIIIIIIIuuuuuuuuu p0 p1 p2 p3 (own_N nn) (own_N c1) (own_N c3) (own_N c5) (own_N c7) (own_N c9) (own_N c1) ((own_N c1) + (own_N c3))) [])) _
    rw [show ((own_N c1) + (own_N c3)) = (own_N (c1 + c3)) from own_Nadd (by omega)]
    refine XS.iload Y10.here hx rfl (hb hby at_66) rfl ?_
    refine XS.iload Y10.here hx rfl (hb hby at_68) rfl ?_
    show Steps p.tables e below (T9.setTop (mkF m 70 (LS_IIIIIIIIIIIIuuuuuuuuu p0 p1 p2 p3 (own_N nn) (own_N c1) (own_N c3) (own_N c5) (own_N c7) (own_N c9) (own_N c1) (own_N (c1 + c3))) [(.int (own_N c5)), (.int (own_N (c1 + c3)))])) _
    refine XS.iadd Y10.here hx rfl (hb hby at_70) rfl ?_
    refine XS.istore Y10.here hx rfl (hb hby at_71) rfl (l' := (LS_IIIIIIIIIIIIIuuuuuuuu p0 p1 p2 p3 (own_N nn) (own_N c1) (own_N c3) (own_N c5) (own_N c7) (own_N c9) (own_N c1) (own_N (c1 + c3)) ((own_N (c1 + c3)) + (own_N c5)))) rfl ?_
    change Steps p.tables e below (T9.setTop (mkF m 73 (LS_IIIIIIIIIIIIIuuuuuuuu p0 p1 p2 p3 (own_N nn) (own_N c1) (own_N c3) (own_N c5) (own_N c7) (own_N c9) (own_N c1) (own_N (c1 + c3)) ((own_N (c1 + c3)) + (own_N c5))) [])) _
    rw [show ((own_N (c1 + c3)) + (own_N c5)) = (own_N (c1 + c3 + c5)) from own_Nadd (by omega)]
    refine XS.iload Y10.here hx rfl (hb hby at_73) rfl ?_
    show Steps p.tables e below (T9.setTop (mkF m 75 (LS_IIIIIIIIIIIIIuuuuuuuu p0 p1 p2 p3 (own_N nn) (own_N c1) (own_N c3) (own_N c5) (own_N c7) (own_N c9) (own_N c1) (own_N (c1 + c3)) (own_N (c1 + c3 + c5))) [(.int (own_N (c1 + c3 + c5)))])) _
    refine XS.iload Y10.here hx rfl (hb hby at_75) rfl ?_
    refine XS.iadd Y10.here hx rfl (hb hby at_77) rfl ?_
    refine XS.istore Y10.here hx rfl (hb hby at_78) rfl (l' := (LS_IIIIIIIIIIIIIIuuuuuuu p0 p1 p2 p3 (own_N nn) (own_N c1) (own_N c3) (own_N c5) (own_N c7) (own_N c9) (own_N c1) (own_N (c1 + c3)) (own_N (c1 + c3 + c5)) ((own_N (c1 + c3 + c5)) + (own_N c7)))) rfl ?_
    change Steps p.tables e below (T9.setTop (mkF m 80 (LS_IIIIIIIIIIIIIIuuuuuuu p0 p1 p2 p3 (own_N nn) (own_N c1) (own_N c3) (own_N c5) (own_N c7) (own_N c9) (own_N c1) (own_N (c1 + c3)) (own_N (c1 + c3 + c5)) ((own_N (c1 + c3 + c5)) + (own_N c7))) [])) _
    rw [show ((own_N (c1 + c3 + c5)) + (own_N c7)) = (own_N (c1 + c3 + c5 + c7)) from own_Nadd (by omega)]
    show Steps p.tables e below (T9.setTop (mkF m 80 (LS_IIIIIIIIIIIIIIuuuuuuu p0 p1 p2 p3 (own_N nn) (own_N c1) (own_N c3) (own_N c5) (own_N c7) (own_N c9) (own_N c1) (own_N (c1 + c3)) (own_N (c1 + c3 + c5)) (own_N (c1 + c3 + c5 + c7))) [])) _
    refine XS.iload Y10.here hx rfl (hb hby at_80) rfl ?_
    refine XS.iload Y10.here hx rfl (hb hby at_82) rfl ?_
    refine XS.iadd Y10.here hx rfl (hb hby at_84) rfl ?_
    show Steps p.tables e below (T9.setTop (mkF m 85 (LS_IIIIIIIIIIIIIIuuuuuuu p0 p1 p2 p3 (own_N nn) (own_N c1) (own_N c3) (own_N c5) (own_N c7) (own_N c9) (own_N c1) (own_N (c1 + c3)) (own_N (c1 + c3 + c5)) (own_N (c1 + c3 + c5 + c7))) [(.int ((own_N (c1 + c3 + c5 + c7)) + (own_N c9)))])) _
    refine XS.istore Y10.here hx rfl (hb hby at_85) rfl (l' := (LS_IIIIIIIIIIIIIIIuuuuuu p0 p1 p2 p3 (own_N nn) (own_N c1) (own_N c3) (own_N c5) (own_N c7) (own_N c9) (own_N c1) (own_N (c1 + c3)) (own_N (c1 + c3 + c5)) (own_N (c1 + c3 + c5 + c7)) ((own_N (c1 + c3 + c5 + c7)) + (own_N c9)))) rfl ?_
    change Steps p.tables e below (T9.setTop (mkF m 87 (LS_IIIIIIIIIIIIIIIuuuuuu p0 p1 p2 p3 (own_N nn) (own_N c1) (own_N c3) (own_N c5) (own_N c7) (own_N c9) (own_N c1) (own_N (c1 + c3)) (own_N (c1 + c3 + c5)) (own_N (c1 + c3 + c5 + c7)) ((own_N (c1 + c3 + c5 + c7)) + (own_N c9))) [])) _
    rw [show ((own_N (c1 + c3 + c5 + c7)) + (own_N c9)) = (own_N (c1 + c3 + c5 + c7 + c9)) from own_Nadd (by omega)]
    refine XS.bipush Y10.here hx rfl (hb hby at_87) ?_
    exact k
  obtain ⟨T11, h11, k11, X11, e11, E11, A11, Ex11, st11⟩ := newPE Y10 hx hZ (hw _ (List.mem_of_getElem? (i := 5) rfl)) e9 (g := (mkF m 89 (LS_IIIIIIIIIIIIIIIuuuuuu p0 p1 p2 p3 (own_N nn) (own_N c1) (own_N c3) (own_N c5) (own_N c7) (own_N c9) (own_N c1) (own_N (c1 + c3)) (own_N (c1 + c3 + c5)) (own_N (c1 + c3 + c5 + c7)) (own_N (c1 + c3 + c5 + c7 + c9))) [(.int (15 : Int32))])) rfl (hb hby at_89) rfl (by decide) (cap := 15) (by decide) (by decide) (by decide) (by decide) (ad := "[I") rfl
  obtain ⟨b11, g11⟩ : ∃ z, z = h0.size := ⟨_, rfl⟩
  rw [← g11] at A11 Ex11 st11
  have g_b11 : n0 ≤ b11 := Nat.le_trans Z0 (Nat.le_of_eq g11.symm)
  have V11 : Arv Z h11 b11 k11 .int (own_N 15) (own_V (fun _ => 0) 15) (.int (0 : Int32)) := own_newV (Arv.new A11 (by decide))
  refine own_go (B := T11.setTop (mkF m 91 (LS_IIIIIIIIIIIIIIIuuuuuu p0 p1 p2 p3 (own_N nn) (own_N c1) (own_N c3) (own_N c5) (own_N c7) (own_N c9) (own_N c1) (own_N (c1 + c3)) (own_N (c1 + c3 + c5)) (own_N (c1 + c3 + c5 + c7)) (own_N (c1 + c3 + c5 + c7 + c9))) [(.ref b11)])) (fun t k => st11 _ k) ?_
  refine own_go (B := T11.setTop (mkF m 93 (LS_IIIIIIIIIIIIIIIRuuuuu p0 p1 p2 p3 (own_N nn) (own_N c1) (own_N c3) (own_N c5) (own_N c7) (own_N c9) (own_N c1) (own_N (c1 + c3)) (own_N (c1 + c3 + c5)) (own_N (c1 + c3 + c5 + c7)) (own_N (c1 + c3 + c5 + c7 + c9)) b11) [])) (fun t k => ?_) ?_
  · refine XS.astore X11.here hx rfl (hb hby at_91) rfl rfl (l' := (LS_IIIIIIIIIIIIIIIRuuuuu p0 p1 p2 p3 (own_N nn) (own_N c1) (own_N c3) (own_N c5) (own_N c7) (own_N c9) (own_N c1) (own_N (c1 + c3)) (own_N (c1 + c3 + c5)) (own_N (c1 + c3 + c5 + c7)) (own_N (c1 + c3 + c5 + c7 + c9)) b11)) rfl ?_
    exact k
  have hcb : c1 < 100 ∧ c1 + c3 < 100 ∧ c1 + c3 + c5 < 100 ∧ c1 + c3 + c5 + c7 < 100 := ⟨by omega, by omega, by omega, by omega⟩
  refine own_go (B := T11.setTop (mkF m 106 (LS_IIIIIIIIIIIIIIIRuuuuu p0 p1 p2 p3 (own_N nn) (own_N c1) (own_N c3) (own_N c5) (own_N c7) (own_N c9) (own_N c1) (own_N (c1 + c3)) (own_N (c1 + c3 + c5)) (own_N (c1 + c3 + c5 + c7)) (own_N (c1 + c3 + c5 + c7 + c9)) b11) [(.int p2), (.int (own_N (c1 + c3 + c5 + c7))), (.int (own_N (c1 + c3 + c5))), (.int (own_N (c1 + c3))), (.int (own_N c1)), (.int (0 : Int32)), (.int (0 : Int32)), (.ref b11)])) (fun t k => ?_) ?_
  · refine XS.aload X11.here hx rfl (hb hby at_93) rfl rfl ?_
    refine XS.iconst X11.here hx rfl (hb hby at_95) ?_
    show Steps p.tables e below (T11.setTop (mkF m 96 (LS_IIIIIIIIIIIIIIIRuuuuu p0 p1 p2 p3 (own_N nn) (own_N c1) (own_N c3) (own_N c5) (own_N c7) (own_N c9) (own_N c1) (own_N (c1 + c3)) (own_N (c1 + c3 + c5)) (own_N (c1 + c3 + c5 + c7)) (own_N (c1 + c3 + c5 + c7 + c9)) b11) [(.int (0 : Int32)), (.ref b11)])) _
    refine XS.iconst X11.here hx rfl (hb hby at_96) ?_
    refine XS.iload X11.here hx rfl (hb hby at_97) rfl ?_
    refine XS.iload X11.here hx rfl (hb hby at_99) rfl ?_
    show Steps p.tables e below (T11.setTop (mkF m 101 (LS_IIIIIIIIIIIIIIIRuuuuu p0 p1 p2 p3 (own_N nn) (own_N c1) (own_N c3) (own_N c5) (own_N c7) (own_N c9) (own_N c1) (own_N (c1 + c3)) (own_N (c1 + c3 + c5)) (own_N (c1 + c3 + c5 + c7)) (own_N (c1 + c3 + c5 + c7 + c9)) b11) [(.int (own_N (c1 + c3))), (.int (own_N c1)), (.int (0 : Int32)), (.int (0 : Int32)), (.ref b11)])) _
    refine XS.iload X11.here hx rfl (hb hby at_101) rfl ?_
    refine XS.iload X11.here hx rfl (hb hby at_103) rfl ?_
    refine XS.iloadN X11.here hx rfl (hb hby at_105) rfl ?_
    exact k
  have Z0_v12 := Nat.le_trans Z0 E11.1
  obtain ⟨_, _, ⟨T13, L13, k13, n13⟩, -, X13, ⟨Lc13, hQ13, l13, y13, z13⟩, st13⟩ := Jvm.LawKit.callS X11 hx (y := (⟨"com/example/terms_to_scores/termstoscores/index/PostingsGetFreqPinLaw", "docAt", "(IIIIII)I"⟩ : MethodName)) hown (mvT hZ (hw _ (List.mem_of_getElem? (i := 6) rfl))) (mvT hZ (hw _ (List.mem_of_getElem? (i := 7) rfl))) (mvT hZ (hw _ (List.mem_of_getElem? (i := 3) rfl))) (mvT hZ (hw _ (List.mem_of_getElem? (i := 8) rfl))) (by decide) (backOf (W := 2) (rmdat l Z a0 hw [] p2 0 c1 ((c1 + c3)) ((c1 + c3 + c5)) ((c1 + c3 + c5 + c7)) h11 n0 Z0_v12 ⟨by decide, hcb⟩) hZ (hw _ (List.mem_of_getElem? (i := 8) rfl)) (hw _ (List.mem_of_getElem? (i := 3) rfl)) (by decide) (by decide)) (g := (mkF m 106 (LS_IIIIIIIIIIIIIIIRuuuuu p0 p1 p2 p3 (own_N nn) (own_N c1) (own_N c3) (own_N c5) (own_N c7) (own_N c9) (own_N c1) (own_N (c1 + c3)) (own_N (c1 + c3 + c5)) (own_N (c1 + c3 + c5 + c7)) (own_N (c1 + c3 + c5 + c7 + c9)) b11) [(.int p2), (.int (own_N (c1 + c3 + c5 + c7))), (.int (own_N (c1 + c3 + c5))), (.int (own_N (c1 + c3))), (.int (own_N c1)), (.int (0 : Int32)), (.int (0 : Int32)), (.ref b11)])) rfl (by rw [hml]; rfl) (argsL := [(.int (0 : Int32)), (.int (own_N c1)), (.int (own_N (c1 + c3))), (.int (own_N (c1 + c3 + c5))), (.int (own_N (c1 + c3 + c5 + c7))), (.int p2)]) (rest := [(.int (0 : Int32)), (.ref b11)]) (lenOf pd__IIIIII_I rfl) rfl (by show 2 * 0 + _ ≤ _; exact Nat.le_of_eq rfl) (hb hby at_106) (fun _ _ => ⟨rfl, e11, (by decide : 1 + 0 ≤ _), (by decide : 15 + 0 ≤ _)⟩)
  dsimp only [Pt.U, Pt.locs, Pt.cells, Pt.slots] at X13 l13 y13 z13 st13 hQ13
  subst l13 y13 z13
  obtain ⟨rfl, N13q, e13⟩ := hQ13
  have N13 := Fr.app M10 N13q
  refine own_go (B := T13.setTop (mkF m 109 (LS_IIIIIIIIIIIIIIIRuuuuu p0 p1 p2 p3 (own_N nn) (own_N c1) (own_N c3) (own_N c5) (own_N c7) (own_N c9) (own_N c1) (own_N (c1 + c3)) (own_N (c1 + c3 + c5)) (own_N (c1 + c3 + c5 + c7)) (own_N (c1 + c3 + c5 + c7 + c9)) b11) [(.int (own_D p2 c1 ((c1 + c3)) ((c1 + c3 + c5)) ((c1 + c3 + c5 + c7)) 0)), (.int (0 : Int32)), (.ref b11)])) (fun t k => st13 _ k) ?_
  refine own_hide X13 N13 fun lc14 Y14 M14 => ?_
  obtain ⟨cl15, Ar15, qa15, Sa15, Na15, Ha15, Ga15⟩ := id V11
  have hin16 : ¬ ((0 : Int32) < 0 ∨ cl15.slots.size ≤ ((0 : Int32)).toNatClampNeg) := own_inb (X := 0) Sa15 (by decide) (by decide)
  obtain ⟨T16, h16, X16, e16, W16, st16⟩ := stI Y14 hx hZ e13 Ar15 (j := (0 : Int32)) hin16 (g := (mkF m 109 (LS_IIIIIIIIIIIIIIIRuuuuu p0 p1 p2 p3 (own_N nn) (own_N c1) (own_N c3) (own_N c5) (own_N c7) (own_N c9) (own_N c1) (own_N (c1 + c3)) (own_N (c1 + c3 + c5)) (own_N (c1 + c3 + c5 + c7)) (own_N (c1 + c3 + c5 + c7 + c9)) b11) [(.int (own_D p2 c1 ((c1 + c3)) ((c1 + c3 + c5)) ((c1 + c3 + c5 + c7)) 0)), (.int (0 : Int32)), (.ref b11)])) rfl rfl (hb hby at_109)
  have N16 := Fr.snoc X16 M14 g_b11
  have V16 : Arv Z h16 b11 k11 .int (own_N 15) (own_V (own_up (fun _ => 0) 0 (own_D p2 c1 ((c1 + c3)) ((c1 + c3 + c5)) ((c1 + c3 + c5 + c7)) 0)) 15) (.int (0 : Int32)) := own_setV (X := 0) Ar15 qa15 Sa15 Na15 Ha15 Ga15 W16 (by decide) (by decide)
  obtain ⟨u16, hu16⟩ : ∃ z, z = (own_up (fun _ => 0) 0 (own_D p2 c1 ((c1 + c3)) ((c1 + c3 + c5)) ((c1 + c3 + c5 + c7)) 0)) := ⟨_, rfl⟩
  rw [← hu16] at V16
  refine own_hide X16 N16 fun lc16 Y16 M16 => ?_
  refine own_go (B := T16.setTop (mkF m 110 (LS_IIIIIIIIIIIIIIIRuuuuu p0 p1 p2 p3 (own_N nn) (own_N c1) (own_N c3) (own_N c5) (own_N c7) (own_N c9) (own_N c1) (own_N (c1 + c3)) (own_N (c1 + c3 + c5)) (own_N (c1 + c3 + c5 + c7)) (own_N (c1 + c3 + c5 + c7 + c9)) b11) [])) (fun t k => st16 _ k) ?_
  refine own_go (B := T16.setTop (mkF m 123 (LS_IIIIIIIIIIIIIIIRuuuuu p0 p1 p2 p3 (own_N nn) (own_N c1) (own_N c3) (own_N c5) (own_N c7) (own_N c9) (own_N c1) (own_N (c1 + c3)) (own_N (c1 + c3 + c5)) (own_N (c1 + c3 + c5 + c7)) (own_N (c1 + c3 + c5 + c7 + c9)) b11) [(.int p2), (.int (own_N (c1 + c3 + c5 + c7))), (.int (own_N (c1 + c3 + c5))), (.int (own_N (c1 + c3))), (.int (own_N c1)), (.int (1 : Int32)), (.int (1 : Int32)), (.ref b11)])) (fun t k => ?_) ?_
  · refine XS.aload Y16.here hx rfl (hb hby at_110) rfl rfl ?_
    refine XS.iconst Y16.here hx rfl (hb hby at_112) ?_
    show Steps p.tables e below (T16.setTop (mkF m 113 (LS_IIIIIIIIIIIIIIIRuuuuu p0 p1 p2 p3 (own_N nn) (own_N c1) (own_N c3) (own_N c5) (own_N c7) (own_N c9) (own_N c1) (own_N (c1 + c3)) (own_N (c1 + c3 + c5)) (own_N (c1 + c3 + c5 + c7)) (own_N (c1 + c3 + c5 + c7 + c9)) b11) [(.int (1 : Int32)), (.ref b11)])) _
    refine XS.iconst Y16.here hx rfl (hb hby at_113) ?_
    refine XS.iload Y16.here hx rfl (hb hby at_114) rfl ?_
    refine XS.iload Y16.here hx rfl (hb hby at_116) rfl ?_
    show Steps p.tables e below (T16.setTop (mkF m 118 (LS_IIIIIIIIIIIIIIIRuuuuu p0 p1 p2 p3 (own_N nn) (own_N c1) (own_N c3) (own_N c5) (own_N c7) (own_N c9) (own_N c1) (own_N (c1 + c3)) (own_N (c1 + c3 + c5)) (own_N (c1 + c3 + c5 + c7)) (own_N (c1 + c3 + c5 + c7 + c9)) b11) [(.int (own_N (c1 + c3))), (.int (own_N c1)), (.int (1 : Int32)), (.int (1 : Int32)), (.ref b11)])) _
    refine XS.iload Y16.here hx rfl (hb hby at_118) rfl ?_
    refine XS.iload Y16.here hx rfl (hb hby at_120) rfl ?_
    refine XS.iloadN Y16.here hx rfl (hb hby at_122) rfl ?_
    exact k
  have Z0_v17 := Nat.le_trans Z0_v12 (Nat.le_of_eq W16.size.symm)
  obtain ⟨_, _, ⟨T18, L18, k18, n18⟩, -, X18, ⟨Lc18, hQ18, l18, y18, z18⟩, st18⟩ := Jvm.LawKit.callS Y16 hx (y := (⟨"com/example/terms_to_scores/termstoscores/index/PostingsGetFreqPinLaw", "docAt", "(IIIIII)I"⟩ : MethodName)) hown (mvT hZ (hw _ (List.mem_of_getElem? (i := 6) rfl))) (mvT hZ (hw _ (List.mem_of_getElem? (i := 7) rfl))) (mvT hZ (hw _ (List.mem_of_getElem? (i := 3) rfl))) (mvT hZ (hw _ (List.mem_of_getElem? (i := 8) rfl))) (by decide) (backOf (W := 2) (rmdat l Z a0 hw [] p2 1 c1 ((c1 + c3)) ((c1 + c3 + c5)) ((c1 + c3 + c5 + c7)) h16 n0 Z0_v17 ⟨by decide, hcb⟩) hZ (hw _ (List.mem_of_getElem? (i := 8) rfl)) (hw _ (List.mem_of_getElem? (i := 3) rfl)) (by decide) (by decide)) (g := (mkF m 123 (LS_IIIIIIIIIIIIIIIRuuuuu p0 p1 p2 p3 (own_N nn) (own_N c1) (own_N c3) (own_N c5) (own_N c7) (own_N c9) (own_N c1) (own_N (c1 + c3)) (own_N (c1 + c3 + c5)) (own_N (c1 + c3 + c5 + c7)) (own_N (c1 + c3 + c5 + c7 + c9)) b11) [(.int p2), (.int (own_N (c1 + c3 + c5 + c7))), (.int (own_N (c1 + c3 + c5))), (.int (own_N (c1 + c3))), (.int (own_N c1)), (.int (1 : Int32)), (.int (1 : Int32)), (.ref b11)])) rfl (by rw [hml]; rfl) (argsL := [(.int (1 : Int32)), (.int (own_N c1)), (.int (own_N (c1 + c3))), (.int (own_N (c1 + c3 + c5))), (.int (own_N (c1 + c3 + c5 + c7))), (.int p2)]) (rest := [(.int (1 : Int32)), (.ref b11)]) (lenOf pd__IIIIII_I rfl) rfl (by show 2 * 0 + _ ≤ _; exact Nat.le_of_eq rfl) (hb hby at_123) (fun _ _ => ⟨rfl, e16, (by decide : 1 + 0 ≤ _), (by decide : 15 + 0 ≤ _)⟩)
  dsimp only [Pt.U, Pt.locs, Pt.cells, Pt.slots] at X18 l18 y18 z18 st18 hQ18
  subst l18 y18 z18
  obtain ⟨rfl, N18q, e18⟩ := hQ18
  have N18 := Fr.app M16 N18q
  refine own_go (B := T18.setTop (mkF m 126 (LS_IIIIIIIIIIIIIIIRuuuuu p0 p1 p2 p3 (own_N nn) (own_N c1) (own_N c3) (own_N c5) (own_N c7) (own_N c9) (own_N c1) (own_N (c1 + c3)) (own_N (c1 + c3 + c5)) (own_N (c1 + c3 + c5 + c7)) (own_N (c1 + c3 + c5 + c7 + c9)) b11) [(.int (own_D p2 c1 ((c1 + c3)) ((c1 + c3 + c5)) ((c1 + c3 + c5 + c7)) 1)), (.int (1 : Int32)), (.ref b11)])) (fun t k => st18 _ k) ?_
  refine own_hide X18 N18 fun lc19 Y19 M19 => ?_
  obtain ⟨cl20, Ar20, qa20, Sa20, Na20, Ha20, Ga20⟩ := id V16
  have hin21 : ¬ ((1 : Int32) < 0 ∨ cl20.slots.size ≤ ((1 : Int32)).toNatClampNeg) := own_inb (X := 1) Sa20 (by decide) (by decide)
  obtain ⟨T21, h21, X21, e21, W21, st21⟩ := stI Y19 hx hZ e18 Ar20 (j := (1 : Int32)) hin21 (g := (mkF m 126 (LS_IIIIIIIIIIIIIIIRuuuuu p0 p1 p2 p3 (own_N nn) (own_N c1) (own_N c3) (own_N c5) (own_N c7) (own_N c9) (own_N c1) (own_N (c1 + c3)) (own_N (c1 + c3 + c5)) (own_N (c1 + c3 + c5 + c7)) (own_N (c1 + c3 + c5 + c7 + c9)) b11) [(.int (own_D p2 c1 ((c1 + c3)) ((c1 + c3 + c5)) ((c1 + c3 + c5 + c7)) 1)), (.int (1 : Int32)), (.ref b11)])) rfl rfl (hb hby at_126)
  have N21 := Fr.snoc X21 M19 g_b11
  have V21 : Arv Z h21 b11 k11 .int (own_N 15) (own_V (own_up u16 1 (own_D p2 c1 ((c1 + c3)) ((c1 + c3 + c5)) ((c1 + c3 + c5 + c7)) 1)) 15) (.int (0 : Int32)) := own_setV (X := 1) Ar20 qa20 Sa20 Na20 Ha20 Ga20 W21 (by decide) (by decide)
  obtain ⟨u21, hu21⟩ : ∃ z, z = (own_up u16 1 (own_D p2 c1 ((c1 + c3)) ((c1 + c3 + c5)) ((c1 + c3 + c5 + c7)) 1)) := ⟨_, rfl⟩
  rw [← hu21] at V21
  refine own_hide X21 N21 fun lc21 Y21 M21 => ?_
  refine own_go (B := T21.setTop (mkF m 127 (LS_IIIIIIIIIIIIIIIRuuuuu p0 p1 p2 p3 (own_N nn) (own_N c1) (own_N c3) (own_N c5) (own_N c7) (own_N c9) (own_N c1) (own_N (c1 + c3)) (own_N (c1 + c3 + c5)) (own_N (c1 + c3 + c5 + c7)) (own_N (c1 + c3 + c5 + c7 + c9)) b11) [])) (fun t k => st21 _ k) ?_
  refine own_go (B := T21.setTop (mkF m 140 (LS_IIIIIIIIIIIIIIIRuuuuu p0 p1 p2 p3 (own_N nn) (own_N c1) (own_N c3) (own_N c5) (own_N c7) (own_N c9) (own_N c1) (own_N (c1 + c3)) (own_N (c1 + c3 + c5)) (own_N (c1 + c3 + c5 + c7)) (own_N (c1 + c3 + c5 + c7 + c9)) b11) [(.int p2), (.int (own_N (c1 + c3 + c5 + c7))), (.int (own_N (c1 + c3 + c5))), (.int (own_N (c1 + c3))), (.int (own_N c1)), (.int (2 : Int32)), (.int (2 : Int32)), (.ref b11)])) (fun t k => ?_) ?_
  · refine XS.aload Y21.here hx rfl (hb hby at_127) rfl rfl ?_
    refine XS.iconst Y21.here hx rfl (hb hby at_129) ?_
    show Steps p.tables e below (T21.setTop (mkF m 130 (LS_IIIIIIIIIIIIIIIRuuuuu p0 p1 p2 p3 (own_N nn) (own_N c1) (own_N c3) (own_N c5) (own_N c7) (own_N c9) (own_N c1) (own_N (c1 + c3)) (own_N (c1 + c3 + c5)) (own_N (c1 + c3 + c5 + c7)) (own_N (c1 + c3 + c5 + c7 + c9)) b11) [(.int (2 : Int32)), (.ref b11)])) _
    refine XS.iconst Y21.here hx rfl (hb hby at_130) ?_
    refine XS.iload Y21.here hx rfl (hb hby at_131) rfl ?_
    refine XS.iload Y21.here hx rfl (hb hby at_133) rfl ?_
    show Steps p.tables e below (T21.setTop (mkF m 135 (LS_IIIIIIIIIIIIIIIRuuuuu p0 p1 p2 p3 (own_N nn) (own_N c1) (own_N c3) (own_N c5) (own_N c7) (own_N c9) (own_N c1) (own_N (c1 + c3)) (own_N (c1 + c3 + c5)) (own_N (c1 + c3 + c5 + c7)) (own_N (c1 + c3 + c5 + c7 + c9)) b11) [(.int (own_N (c1 + c3))), (.int (own_N c1)), (.int (2 : Int32)), (.int (2 : Int32)), (.ref b11)])) _
    refine XS.iload Y21.here hx rfl (hb hby at_135) rfl ?_
    refine XS.iload Y21.here hx rfl (hb hby at_137) rfl ?_
    refine XS.iloadN Y21.here hx rfl (hb hby at_139) rfl ?_
    exact k
  have Z0_v22 := Nat.le_trans Z0_v17 (Nat.le_of_eq W21.size.symm)
  obtain ⟨_, _, ⟨T23, L23, k23, n23⟩, -, X23, ⟨Lc23, hQ23, l23, y23, z23⟩, st23⟩ := Jvm.LawKit.callS Y21 hx (y := (⟨"com/example/terms_to_scores/termstoscores/index/PostingsGetFreqPinLaw", "docAt", "(IIIIII)I"⟩ : MethodName)) hown (mvT hZ (hw _ (List.mem_of_getElem? (i := 6) rfl))) (mvT hZ (hw _ (List.mem_of_getElem? (i := 7) rfl))) (mvT hZ (hw _ (List.mem_of_getElem? (i := 3) rfl))) (mvT hZ (hw _ (List.mem_of_getElem? (i := 8) rfl))) (by decide) (backOf (W := 2) (rmdat l Z a0 hw [] p2 2 c1 ((c1 + c3)) ((c1 + c3 + c5)) ((c1 + c3 + c5 + c7)) h21 n0 Z0_v22 ⟨by decide, hcb⟩) hZ (hw _ (List.mem_of_getElem? (i := 8) rfl)) (hw _ (List.mem_of_getElem? (i := 3) rfl)) (by decide) (by decide)) (g := (mkF m 140 (LS_IIIIIIIIIIIIIIIRuuuuu p0 p1 p2 p3 (own_N nn) (own_N c1) (own_N c3) (own_N c5) (own_N c7) (own_N c9) (own_N c1) (own_N (c1 + c3)) (own_N (c1 + c3 + c5)) (own_N (c1 + c3 + c5 + c7)) (own_N (c1 + c3 + c5 + c7 + c9)) b11) [(.int p2), (.int (own_N (c1 + c3 + c5 + c7))), (.int (own_N (c1 + c3 + c5))), (.int (own_N (c1 + c3))), (.int (own_N c1)), (.int (2 : Int32)), (.int (2 : Int32)), (.ref b11)])) rfl (by rw [hml]; rfl) (argsL := [(.int (2 : Int32)), (.int (own_N c1)), (.int (own_N (c1 + c3))), (.int (own_N (c1 + c3 + c5))), (.int (own_N (c1 + c3 + c5 + c7))), (.int p2)]) (rest := [(.int (2 : Int32)), (.ref b11)]) (lenOf pd__IIIIII_I rfl) rfl (by show 2 * 0 + _ ≤ _; exact Nat.le_of_eq rfl) (hb hby at_140) (fun _ _ => ⟨rfl, e21, (by decide : 1 + 0 ≤ _), (by decide : 15 + 0 ≤ _)⟩)
  dsimp only [Pt.U, Pt.locs, Pt.cells, Pt.slots] at X23 l23 y23 z23 st23 hQ23
  subst l23 y23 z23
  obtain ⟨rfl, N23q, e23⟩ := hQ23
  have N23 := Fr.app M21 N23q
  refine own_go (B := T23.setTop (mkF m 143 (LS_IIIIIIIIIIIIIIIRuuuuu p0 p1 p2 p3 (own_N nn) (own_N c1) (own_N c3) (own_N c5) (own_N c7) (own_N c9) (own_N c1) (own_N (c1 + c3)) (own_N (c1 + c3 + c5)) (own_N (c1 + c3 + c5 + c7)) (own_N (c1 + c3 + c5 + c7 + c9)) b11) [(.int (own_D p2 c1 ((c1 + c3)) ((c1 + c3 + c5)) ((c1 + c3 + c5 + c7)) 2)), (.int (2 : Int32)), (.ref b11)])) (fun t k => st23 _ k) ?_
  refine own_hide X23 N23 fun lc24 Y24 M24 => ?_
  obtain ⟨cl25, Ar25, qa25, Sa25, Na25, Ha25, Ga25⟩ := id V21
  have hin26 : ¬ ((2 : Int32) < 0 ∨ cl25.slots.size ≤ ((2 : Int32)).toNatClampNeg) := own_inb (X := 2) Sa25 (by decide) (by decide)
  obtain ⟨T26, h26, X26, e26, W26, st26⟩ := stI Y24 hx hZ e23 Ar25 (j := (2 : Int32)) hin26 (g := (mkF m 143 (LS_IIIIIIIIIIIIIIIRuuuuu p0 p1 p2 p3 (own_N nn) (own_N c1) (own_N c3) (own_N c5) (own_N c7) (own_N c9) (own_N c1) (own_N (c1 + c3)) (own_N (c1 + c3 + c5)) (own_N (c1 + c3 + c5 + c7)) (own_N (c1 + c3 + c5 + c7 + c9)) b11) [(.int (own_D p2 c1 ((c1 + c3)) ((c1 + c3 + c5)) ((c1 + c3 + c5 + c7)) 2)), (.int (2 : Int32)), (.ref b11)])) rfl rfl (hb hby at_143)
  have N26 := Fr.snoc X26 M24 g_b11
  have V26 : Arv Z h26 b11 k11 .int (own_N 15) (own_V (own_up u21 2 (own_D p2 c1 ((c1 + c3)) ((c1 + c3 + c5)) ((c1 + c3 + c5 + c7)) 2)) 15) (.int (0 : Int32)) := own_setV (X := 2) Ar25 qa25 Sa25 Na25 Ha25 Ga25 W26 (by decide) (by decide)
  obtain ⟨u26, hu26⟩ : ∃ z, z = (own_up u21 2 (own_D p2 c1 ((c1 + c3)) ((c1 + c3 + c5)) ((c1 + c3 + c5 + c7)) 2)) := ⟨_, rfl⟩
  rw [← hu26] at V26
  refine own_hide X26 N26 fun lc26 Y26 M26 => ?_
  refine own_go (B := T26.setTop (mkF m 144 (LS_IIIIIIIIIIIIIIIRuuuuu p0 p1 p2 p3 (own_N nn) (own_N c1) (own_N c3) (own_N c5) (own_N c7) (own_N c9) (own_N c1) (own_N (c1 + c3)) (own_N (c1 + c3 + c5)) (own_N (c1 + c3 + c5 + c7)) (own_N (c1 + c3 + c5 + c7 + c9)) b11) [])) (fun t k => st26 _ k) ?_
  refine own_go (B := T26.setTop (mkF m 157 (LS_IIIIIIIIIIIIIIIRuuuuu p0 p1 p2 p3 (own_N nn) (own_N c1) (own_N c3) (own_N c5) (own_N c7) (own_N c9) (own_N c1) (own_N (c1 + c3)) (own_N (c1 + c3 + c5)) (own_N (c1 + c3 + c5 + c7)) (own_N (c1 + c3 + c5 + c7 + c9)) b11) [(.int p2), (.int (own_N (c1 + c3 + c5 + c7))), (.int (own_N (c1 + c3 + c5))), (.int (own_N (c1 + c3))), (.int (own_N c1)), (.int (3 : Int32)), (.int (3 : Int32)), (.ref b11)])) (fun t k => ?_) ?_
  · refine XS.aload Y26.here hx rfl (hb hby at_144) rfl rfl ?_
    refine XS.iconst Y26.here hx rfl (hb hby at_146) ?_
    show Steps p.tables e below (T26.setTop (mkF m 147 (LS_IIIIIIIIIIIIIIIRuuuuu p0 p1 p2 p3 (own_N nn) (own_N c1) (own_N c3) (own_N c5) (own_N c7) (own_N c9) (own_N c1) (own_N (c1 + c3)) (own_N (c1 + c3 + c5)) (own_N (c1 + c3 + c5 + c7)) (own_N (c1 + c3 + c5 + c7 + c9)) b11) [(.int (3 : Int32)), (.ref b11)])) _
    refine XS.iconst Y26.here hx rfl (hb hby at_147) ?_
    refine XS.iload Y26.here hx rfl (hb hby at_148) rfl ?_
    refine XS.iload Y26.here hx rfl (hb hby at_150) rfl ?_
    show Steps p.tables e below (T26.setTop (mkF m 152 (LS_IIIIIIIIIIIIIIIRuuuuu p0 p1 p2 p3 (own_N nn) (own_N c1) (own_N c3) (own_N c5) (own_N c7) (own_N c9) (own_N c1) (own_N (c1 + c3)) (own_N (c1 + c3 + c5)) (own_N (c1 + c3 + c5 + c7)) (own_N (c1 + c3 + c5 + c7 + c9)) b11) [(.int (own_N (c1 + c3))), (.int (own_N c1)), (.int (3 : Int32)), (.int (3 : Int32)), (.ref b11)])) _
    refine XS.iload Y26.here hx rfl (hb hby at_152) rfl ?_
    refine XS.iload Y26.here hx rfl (hb hby at_154) rfl ?_
    refine XS.iloadN Y26.here hx rfl (hb hby at_156) rfl ?_
    exact k
  have Z0_v27 := Nat.le_trans Z0_v22 (Nat.le_of_eq W26.size.symm)
  obtain ⟨_, _, ⟨T28, L28, k28, n28⟩, -, X28, ⟨Lc28, hQ28, l28, y28, z28⟩, st28⟩ := Jvm.LawKit.callS Y26 hx (y := (⟨"com/example/terms_to_scores/termstoscores/index/PostingsGetFreqPinLaw", "docAt", "(IIIIII)I"⟩ : MethodName)) hown (mvT hZ (hw _ (List.mem_of_getElem? (i := 6) rfl))) (mvT hZ (hw _ (List.mem_of_getElem? (i := 7) rfl))) (mvT hZ (hw _ (List.mem_of_getElem? (i := 3) rfl))) (mvT hZ (hw _ (List.mem_of_getElem? (i := 8) rfl))) (by decide) (backOf (W := 2) (rmdat l Z a0 hw [] p2 3 c1 ((c1 + c3)) ((c1 + c3 + c5)) ((c1 + c3 + c5 + c7)) h26 n0 Z0_v27 ⟨by decide, hcb⟩) hZ (hw _ (List.mem_of_getElem? (i := 8) rfl)) (hw _ (List.mem_of_getElem? (i := 3) rfl)) (by decide) (by decide)) (g := (mkF m 157 (LS_IIIIIIIIIIIIIIIRuuuuu p0 p1 p2 p3 (own_N nn) (own_N c1) (own_N c3) (own_N c5) (own_N c7) (own_N c9) (own_N c1) (own_N (c1 + c3)) (own_N (c1 + c3 + c5)) (own_N (c1 + c3 + c5 + c7)) (own_N (c1 + c3 + c5 + c7 + c9)) b11) [(.int p2), (.int (own_N (c1 + c3 + c5 + c7))), (.int (own_N (c1 + c3 + c5))), (.int (own_N (c1 + c3))), (.int (own_N c1)), (.int (3 : Int32)), (.int (3 : Int32)), (.ref b11)])) rfl (by rw [hml]; rfl) (argsL := [(.int (3 : Int32)), (.int (own_N c1)), (.int (own_N (c1 + c3))), (.int (own_N (c1 + c3 + c5))), (.int (own_N (c1 + c3 + c5 + c7))), (.int p2)]) (rest := [(.int (3 : Int32)), (.ref b11)]) (lenOf pd__IIIIII_I rfl) rfl (by show 2 * 0 + _ ≤ _; exact Nat.le_of_eq rfl) (hb hby at_157) (fun _ _ => ⟨rfl, e26, (by decide : 1 + 0 ≤ _), (by decide : 15 + 0 ≤ _)⟩)
  dsimp only [Pt.U, Pt.locs, Pt.cells, Pt.slots] at X28 l28 y28 z28 st28 hQ28
  subst l28 y28 z28
  obtain ⟨rfl, N28q, e28⟩ := hQ28
  have N28 := Fr.app M26 N28q
  refine own_go (B := T28.setTop (mkF m 160 (LS_IIIIIIIIIIIIIIIRuuuuu p0 p1 p2 p3 (own_N nn) (own_N c1) (own_N c3) (own_N c5) (own_N c7) (own_N c9) (own_N c1) (own_N (c1 + c3)) (own_N (c1 + c3 + c5)) (own_N (c1 + c3 + c5 + c7)) (own_N (c1 + c3 + c5 + c7 + c9)) b11) [(.int (own_D p2 c1 ((c1 + c3)) ((c1 + c3 + c5)) ((c1 + c3 + c5 + c7)) 3)), (.int (3 : Int32)), (.ref b11)])) (fun t k => st28 _ k) ?_
  refine own_hide X28 N28 fun lc29 Y29 M29 => ?_
  obtain ⟨cl30, Ar30, qa30, Sa30, Na30, Ha30, Ga30⟩ := id V26
  have hin31 : ¬ ((3 : Int32) < 0 ∨ cl30.slots.size ≤ ((3 : Int32)).toNatClampNeg) := own_inb (X := 3) Sa30 (by decide) (by decide)
  obtain ⟨T31, h31, X31, e31, W31, st31⟩ := stI Y29 hx hZ e28 Ar30 (j := (3 : Int32)) hin31 (g := (mkF m 160 (LS_IIIIIIIIIIIIIIIRuuuuu p0 p1 p2 p3 (own_N nn) (own_N c1) (own_N c3) (own_N c5) (own_N c7) (own_N c9) (own_N c1) (own_N (c1 + c3)) (own_N (c1 + c3 + c5)) (own_N (c1 + c3 + c5 + c7)) (own_N (c1 + c3 + c5 + c7 + c9)) b11) [(.int (own_D p2 c1 ((c1 + c3)) ((c1 + c3 + c5)) ((c1 + c3 + c5 + c7)) 3)), (.int (3 : Int32)), (.ref b11)])) rfl rfl (hb hby at_160)
  have N31 := Fr.snoc X31 M29 g_b11
  have V31 : Arv Z h31 b11 k11 .int (own_N 15) (own_V (own_up u26 3 (own_D p2 c1 ((c1 + c3)) ((c1 + c3 + c5)) ((c1 + c3 + c5 + c7)) 3)) 15) (.int (0 : Int32)) := own_setV (X := 3) Ar30 qa30 Sa30 Na30 Ha30 Ga30 W31 (by decide) (by decide)
  obtain ⟨u31, hu31⟩ : ∃ z, z = (own_up u26 3 (own_D p2 c1 ((c1 + c3)) ((c1 + c3 + c5)) ((c1 + c3 + c5 + c7)) 3)) := ⟨_, rfl⟩
  rw [← hu31] at V31
  refine own_hide X31 N31 fun lc31 Y31 M31 => ?_
  refine own_go (B := T31.setTop (mkF m 161 (LS_IIIIIIIIIIIIIIIRuuuuu p0 p1 p2 p3 (own_N nn) (own_N c1) (own_N c3) (own_N c5) (own_N c7) (own_N c9) (own_N c1) (own_N (c1 + c3)) (own_N (c1 + c3 + c5)) (own_N (c1 + c3 + c5 + c7)) (own_N (c1 + c3 + c5 + c7 + c9)) b11) [])) (fun t k => st31 _ k) ?_
  refine own_go (B := T31.setTop (mkF m 174 (LS_IIIIIIIIIIIIIIIRuuuuu p0 p1 p2 p3 (own_N nn) (own_N c1) (own_N c3) (own_N c5) (own_N c7) (own_N c9) (own_N c1) (own_N (c1 + c3)) (own_N (c1 + c3 + c5)) (own_N (c1 + c3 + c5 + c7)) (own_N (c1 + c3 + c5 + c7 + c9)) b11) [(.int p2), (.int (own_N (c1 + c3 + c5 + c7))), (.int (own_N (c1 + c3 + c5))), (.int (own_N (c1 + c3))), (.int (own_N c1)), (.int (4 : Int32)), (.int (4 : Int32)), (.ref b11)])) (fun t k => ?_) ?_
  · refine XS.aload Y31.here hx rfl (hb hby at_161) rfl rfl ?_
    refine XS.iconst Y31.here hx rfl (hb hby at_163) ?_
    show Steps p.tables e below (T31.setTop (mkF m 164 (LS_IIIIIIIIIIIIIIIRuuuuu p0 p1 p2 p3 (own_N nn) (own_N c1) (own_N c3) (own_N c5) (own_N c7) (own_N c9) (own_N c1) (own_N (c1 + c3)) (own_N (c1 + c3 + c5)) (own_N (c1 + c3 + c5 + c7)) (own_N (c1 + c3 + c5 + c7 + c9)) b11) [(.int (4 : Int32)), (.ref b11)])) _
    refine XS.iconst Y31.here hx rfl (hb hby at_164) ?_
    refine XS.iload Y31.here hx rfl (hb hby at_165) rfl ?_
    refine XS.iload Y31.here hx rfl (hb hby at_167) rfl ?_
    show Steps p.tables e below (T31.setTop (mkF m 169 (LS_IIIIIIIIIIIIIIIRuuuuu p0 p1 p2 p3 (own_N nn) (own_N c1) (own_N c3) (own_N c5) (own_N c7) (own_N c9) (own_N c1) (own_N (c1 + c3)) (own_N (c1 + c3 + c5)) (own_N (c1 + c3 + c5 + c7)) (own_N (c1 + c3 + c5 + c7 + c9)) b11) [(.int (own_N (c1 + c3))), (.int (own_N c1)), (.int (4 : Int32)), (.int (4 : Int32)), (.ref b11)])) _
    refine XS.iload Y31.here hx rfl (hb hby at_169) rfl ?_
    refine XS.iload Y31.here hx rfl (hb hby at_171) rfl ?_
    refine XS.iloadN Y31.here hx rfl (hb hby at_173) rfl ?_
    exact k
  have Z0_v32 := Nat.le_trans Z0_v27 (Nat.le_of_eq W31.size.symm)
  obtain ⟨_, _, ⟨T33, L33, k33, n33⟩, -, X33, ⟨Lc33, hQ33, l33, y33, z33⟩, st33⟩ := Jvm.LawKit.callS Y31 hx (y := (⟨"com/example/terms_to_scores/termstoscores/index/PostingsGetFreqPinLaw", "docAt", "(IIIIII)I"⟩ : MethodName)) hown (mvT hZ (hw _ (List.mem_of_getElem? (i := 6) rfl))) (mvT hZ (hw _ (List.mem_of_getElem? (i := 7) rfl))) (mvT hZ (hw _ (List.mem_of_getElem? (i := 3) rfl))) (mvT hZ (hw _ (List.mem_of_getElem? (i := 8) rfl))) (by decide) (backOf (W := 2) (rmdat l Z a0 hw [] p2 4 c1 ((c1 + c3)) ((c1 + c3 + c5)) ((c1 + c3 + c5 + c7)) h31 n0 Z0_v32 ⟨by decide, hcb⟩) hZ (hw _ (List.mem_of_getElem? (i := 8) rfl)) (hw _ (List.mem_of_getElem? (i := 3) rfl)) (by decide) (by decide)) (g := (mkF m 174 (LS_IIIIIIIIIIIIIIIRuuuuu p0 p1 p2 p3 (own_N nn) (own_N c1) (own_N c3) (own_N c5) (own_N c7) (own_N c9) (own_N c1) (own_N (c1 + c3)) (own_N (c1 + c3 + c5)) (own_N (c1 + c3 + c5 + c7)) (own_N (c1 + c3 + c5 + c7 + c9)) b11) [(.int p2), (.int (own_N (c1 + c3 + c5 + c7))), (.int (own_N (c1 + c3 + c5))), (.int (own_N (c1 + c3))), (.int (own_N c1)), (.int (4 : Int32)), (.int (4 : Int32)), (.ref b11)])) rfl (by rw [hml]; rfl) (argsL := [(.int (4 : Int32)), (.int (own_N c1)), (.int (own_N (c1 + c3))), (.int (own_N (c1 + c3 + c5))), (.int (own_N (c1 + c3 + c5 + c7))), (.int p2)]) (rest := [(.int (4 : Int32)), (.ref b11)]) (lenOf pd__IIIIII_I rfl) rfl (by show 2 * 0 + _ ≤ _; exact Nat.le_of_eq rfl) (hb hby at_174) (fun _ _ => ⟨rfl, e31, (by decide : 1 + 0 ≤ _), (by decide : 15 + 0 ≤ _)⟩)
  dsimp only [Pt.U, Pt.locs, Pt.cells, Pt.slots] at X33 l33 y33 z33 st33 hQ33
  subst l33 y33 z33
  obtain ⟨rfl, N33q, e33⟩ := hQ33
  have N33 := Fr.app M31 N33q
  refine own_go (B := T33.setTop (mkF m 177 (LS_IIIIIIIIIIIIIIIRuuuuu p0 p1 p2 p3 (own_N nn) (own_N c1) (own_N c3) (own_N c5) (own_N c7) (own_N c9) (own_N c1) (own_N (c1 + c3)) (own_N (c1 + c3 + c5)) (own_N (c1 + c3 + c5 + c7)) (own_N (c1 + c3 + c5 + c7 + c9)) b11) [(.int (own_D p2 c1 ((c1 + c3)) ((c1 + c3 + c5)) ((c1 + c3 + c5 + c7)) 4)), (.int (4 : Int32)), (.ref b11)])) (fun t k => st33 _ k) ?_
  refine own_hide X33 N33 fun lc34 Y34 M34 => ?_
  obtain ⟨cl35, Ar35, qa35, Sa35, Na35, Ha35, Ga35⟩ := id V31
  have hin36 : ¬ ((4 : Int32) < 0 ∨ cl35.slots.size ≤ ((4 : Int32)).toNatClampNeg) := own_inb (X := 4) Sa35 (by decide) (by decide)
  obtain ⟨T36, h36, X36, e36, W36, st36⟩ := stI Y34 hx hZ e33 Ar35 (j := (4 : Int32)) hin36 (g := (mkF m 177 (LS_IIIIIIIIIIIIIIIRuuuuu p0 p1 p2 p3 (own_N nn) (own_N c1) (own_N c3) (own_N c5) (own_N c7) (own_N c9) (own_N c1) (own_N (c1 + c3)) (own_N (c1 + c3 + c5)) (own_N (c1 + c3 + c5 + c7)) (own_N (c1 + c3 + c5 + c7 + c9)) b11) [(.int (own_D p2 c1 ((c1 + c3)) ((c1 + c3 + c5)) ((c1 + c3 + c5 + c7)) 4)), (.int (4 : Int32)), (.ref b11)])) rfl rfl (hb hby at_177)
  have N36 := Fr.snoc X36 M34 g_b11
  have V36 : Arv Z h36 b11 k11 .int (own_N 15) (own_V (own_up u31 4 (own_D p2 c1 ((c1 + c3)) ((c1 + c3 + c5)) ((c1 + c3 + c5 + c7)) 4)) 15) (.int (0 : Int32)) := own_setV (X := 4) Ar35 qa35 Sa35 Na35 Ha35 Ga35 W36 (by decide) (by decide)
  obtain ⟨u36, hu36⟩ : ∃ z, z = (own_up u31 4 (own_D p2 c1 ((c1 + c3)) ((c1 + c3 + c5)) ((c1 + c3 + c5 + c7)) 4)) := ⟨_, rfl⟩
  rw [← hu36] at V36
  refine own_hide X36 N36 fun lc36 Y36 M36 => ?_
  refine own_go (B := T36.setTop (mkF m 178 (LS_IIIIIIIIIIIIIIIRuuuuu p0 p1 p2 p3 (own_N nn) (own_N c1) (own_N c3) (own_N c5) (own_N c7) (own_N c9) (own_N c1) (own_N (c1 + c3)) (own_N (c1 + c3 + c5)) (own_N (c1 + c3 + c5 + c7)) (own_N (c1 + c3 + c5 + c7 + c9)) b11) [])) (fun t k => st36 _ k) ?_
  refine own_go (B := T36.setTop (mkF m 191 (LS_IIIIIIIIIIIIIIIRuuuuu p0 p1 p2 p3 (own_N nn) (own_N c1) (own_N c3) (own_N c5) (own_N c7) (own_N c9) (own_N c1) (own_N (c1 + c3)) (own_N (c1 + c3 + c5)) (own_N (c1 + c3 + c5 + c7)) (own_N (c1 + c3 + c5 + c7 + c9)) b11) [(.int p2), (.int (own_N (c1 + c3 + c5 + c7))), (.int (own_N (c1 + c3 + c5))), (.int (own_N (c1 + c3))), (.int (own_N c1)), (.int (5 : Int32)), (.int (5 : Int32)), (.ref b11)])) (fun t k => ?_) ?_
  · refine XS.aload Y36.here hx rfl (hb hby at_178) rfl rfl ?_
    refine XS.iconst Y36.here hx rfl (hb hby at_180) ?_
    show Steps p.tables e below (T36.setTop (mkF m 181 (LS_IIIIIIIIIIIIIIIRuuuuu p0 p1 p2 p3 (own_N nn) (own_N c1) (own_N c3) (own_N c5) (own_N c7) (own_N c9) (own_N c1) (own_N (c1 + c3)) (own_N (c1 + c3 + c5)) (own_N (c1 + c3 + c5 + c7)) (own_N (c1 + c3 + c5 + c7 + c9)) b11) [(.int (5 : Int32)), (.ref b11)])) _
    refine XS.iconst Y36.here hx rfl (hb hby at_181) ?_
    refine XS.iload Y36.here hx rfl (hb hby at_182) rfl ?_
    refine XS.iload Y36.here hx rfl (hb hby at_184) rfl ?_
    show Steps p.tables e below (T36.setTop (mkF m 186 (LS_IIIIIIIIIIIIIIIRuuuuu p0 p1 p2 p3 (own_N nn) (own_N c1) (own_N c3) (own_N c5) (own_N c7) (own_N c9) (own_N c1) (own_N (c1 + c3)) (own_N (c1 + c3 + c5)) (own_N (c1 + c3 + c5 + c7)) (own_N (c1 + c3 + c5 + c7 + c9)) b11) [(.int (own_N (c1 + c3))), (.int (own_N c1)), (.int (5 : Int32)), (.int (5 : Int32)), (.ref b11)])) _
    refine XS.iload Y36.here hx rfl (hb hby at_186) rfl ?_
    refine XS.iload Y36.here hx rfl (hb hby at_188) rfl ?_
    refine XS.iloadN Y36.here hx rfl (hb hby at_190) rfl ?_
    exact k
  have Z0_v37 := Nat.le_trans Z0_v32 (Nat.le_of_eq W36.size.symm)
  obtain ⟨_, _, ⟨T38, L38, k38, n38⟩, -, X38, ⟨Lc38, hQ38, l38, y38, z38⟩, st38⟩ := Jvm.LawKit.callS Y36 hx (y := (⟨"com/example/terms_to_scores/termstoscores/index/PostingsGetFreqPinLaw", "docAt", "(IIIIII)I"⟩ : MethodName)) hown (mvT hZ (hw _ (List.mem_of_getElem? (i := 6) rfl))) (mvT hZ (hw _ (List.mem_of_getElem? (i := 7) rfl))) (mvT hZ (hw _ (List.mem_of_getElem? (i := 3) rfl))) (mvT hZ (hw _ (List.mem_of_getElem? (i := 8) rfl))) (by decide) (backOf (W := 2) (rmdat l Z a0 hw [] p2 5 c1 ((c1 + c3)) ((c1 + c3 + c5)) ((c1 + c3 + c5 + c7)) h36 n0 Z0_v37 ⟨by decide, hcb⟩) hZ (hw _ (List.mem_of_getElem? (i := 8) rfl)) (hw _ (List.mem_of_getElem? (i := 3) rfl)) (by decide) (by decide)) (g := (mkF m 191 (LS_IIIIIIIIIIIIIIIRuuuuu p0 p1 p2 p3 (own_N nn) (own_N c1) (own_N c3) (own_N c5) (own_N c7) (own_N c9) (own_N c1) (own_N (c1 + c3)) (own_N (c1 + c3 + c5)) (own_N (c1 + c3 + c5 + c7)) (own_N (c1 + c3 + c5 + c7 + c9)) b11) [(.int p2), (.int (own_N (c1 + c3 + c5 + c7))), (.int (own_N (c1 + c3 + c5))), (.int (own_N (c1 + c3))), (.int (own_N c1)), (.int (5 : Int32)), (.int (5 : Int32)), (.ref b11)])) rfl (by rw [hml]; rfl) (argsL := [(.int (5 : Int32)), (.int (own_N c1)), (.int (own_N (c1 + c3))), (.int (own_N (c1 + c3 + c5))), (.int (own_N (c1 + c3 + c5 + c7))), (.int p2)]) (rest := [(.int (5 : Int32)), (.ref b11)]) (lenOf pd__IIIIII_I rfl) rfl (by show 2 * 0 + _ ≤ _; exact Nat.le_of_eq rfl) (hb hby at_191) (fun _ _ => ⟨rfl, e36, (by decide : 1 + 0 ≤ _), (by decide : 15 + 0 ≤ _)⟩)
  dsimp only [Pt.U, Pt.locs, Pt.cells, Pt.slots] at X38 l38 y38 z38 st38 hQ38
  subst l38 y38 z38
  obtain ⟨rfl, N38q, e38⟩ := hQ38
  have N38 := Fr.app M36 N38q
  refine own_go (B := T38.setTop (mkF m 194 (LS_IIIIIIIIIIIIIIIRuuuuu p0 p1 p2 p3 (own_N nn) (own_N c1) (own_N c3) (own_N c5) (own_N c7) (own_N c9) (own_N c1) (own_N (c1 + c3)) (own_N (c1 + c3 + c5)) (own_N (c1 + c3 + c5 + c7)) (own_N (c1 + c3 + c5 + c7 + c9)) b11) [(.int (own_D p2 c1 ((c1 + c3)) ((c1 + c3 + c5)) ((c1 + c3 + c5 + c7)) 5)), (.int (5 : Int32)), (.ref b11)])) (fun t k => st38 _ k) ?_
  refine own_hide X38 N38 fun lc39 Y39 M39 => ?_
  obtain ⟨cl40, Ar40, qa40, Sa40, Na40, Ha40, Ga40⟩ := id V36
  have hin41 : ¬ ((5 : Int32) < 0 ∨ cl40.slots.size ≤ ((5 : Int32)).toNatClampNeg) := own_inb (X := 5) Sa40 (by decide) (by decide)
  obtain ⟨T41, h41, X41, e41, W41, st41⟩ := stI Y39 hx hZ e38 Ar40 (j := (5 : Int32)) hin41 (g := (mkF m 194 (LS_IIIIIIIIIIIIIIIRuuuuu p0 p1 p2 p3 (own_N nn) (own_N c1) (own_N c3) (own_N c5) (own_N c7) (own_N c9) (own_N c1) (own_N (c1 + c3)) (own_N (c1 + c3 + c5)) (own_N (c1 + c3 + c5 + c7)) (own_N (c1 + c3 + c5 + c7 + c9)) b11) [(.int (own_D p2 c1 ((c1 + c3)) ((c1 + c3 + c5)) ((c1 + c3 + c5 + c7)) 5)), (.int (5 : Int32)), (.ref b11)])) rfl rfl (hb hby at_194)
  have N41 := Fr.snoc X41 M39 g_b11
  have V41 : Arv Z h41 b11 k11 .int (own_N 15) (own_V (own_up u36 5 (own_D p2 c1 ((c1 + c3)) ((c1 + c3 + c5)) ((c1 + c3 + c5 + c7)) 5)) 15) (.int (0 : Int32)) := own_setV (X := 5) Ar40 qa40 Sa40 Na40 Ha40 Ga40 W41 (by decide) (by decide)
  obtain ⟨u41, hu41⟩ : ∃ z, z = (own_up u36 5 (own_D p2 c1 ((c1 + c3)) ((c1 + c3 + c5)) ((c1 + c3 + c5 + c7)) 5)) := ⟨_, rfl⟩
  rw [← hu41] at V41
  refine own_hide X41 N41 fun lc41 Y41 M41 => ?_
  refine own_go (B := T41.setTop (mkF m 195 (LS_IIIIIIIIIIIIIIIRuuuuu p0 p1 p2 p3 (own_N nn) (own_N c1) (own_N c3) (own_N c5) (own_N c7) (own_N c9) (own_N c1) (own_N (c1 + c3)) (own_N (c1 + c3 + c5)) (own_N (c1 + c3 + c5 + c7)) (own_N (c1 + c3 + c5 + c7 + c9)) b11) [])) (fun t k => st41 _ k) ?_
  refine own_go (B := T41.setTop (mkF m 210 (LS_IIIIIIIIIIIIIIIRuuuuu p0 p1 p2 p3 (own_N nn) (own_N c1) (own_N c3) (own_N c5) (own_N c7) (own_N c9) (own_N c1) (own_N (c1 + c3)) (own_N (c1 + c3 + c5)) (own_N (c1 + c3 + c5 + c7)) (own_N (c1 + c3 + c5 + c7 + c9)) b11) [(.int p2), (.int (own_N (c1 + c3 + c5 + c7))), (.int (own_N (c1 + c3 + c5))), (.int (own_N (c1 + c3))), (.int (own_N c1)), (.int (6 : Int32)), (.int (6 : Int32)), (.ref b11)])) (fun t k => ?_) ?_
  · refine XS.aload Y41.here hx rfl (hb hby at_195) rfl rfl ?_
    refine XS.bipush Y41.here hx rfl (hb hby at_197) ?_
    show Steps p.tables e below (T41.setTop (mkF m 199 (LS_IIIIIIIIIIIIIIIRuuuuu p0 p1 p2 p3 (own_N nn) (own_N c1) (own_N c3) (own_N c5) (own_N c7) (own_N c9) (own_N c1) (own_N (c1 + c3)) (own_N (c1 + c3 + c5)) (own_N (c1 + c3 + c5 + c7)) (own_N (c1 + c3 + c5 + c7 + c9)) b11) [(.int (6 : Int32)), (.ref b11)])) _
    refine XS.bipush Y41.here hx rfl (hb hby at_199) ?_
    refine XS.iload Y41.here hx rfl (hb hby at_201) rfl ?_
    refine XS.iload Y41.here hx rfl (hb hby at_203) rfl ?_
    show Steps p.tables e below (T41.setTop (mkF m 205 (LS_IIIIIIIIIIIIIIIRuuuuu p0 p1 p2 p3 (own_N nn) (own_N c1) (own_N c3) (own_N c5) (own_N c7) (own_N c9) (own_N c1) (own_N (c1 + c3)) (own_N (c1 + c3 + c5)) (own_N (c1 + c3 + c5 + c7)) (own_N (c1 + c3 + c5 + c7 + c9)) b11) [(.int (own_N (c1 + c3))), (.int (own_N c1)), (.int (6 : Int32)), (.int (6 : Int32)), (.ref b11)])) _
    refine XS.iload Y41.here hx rfl (hb hby at_205) rfl ?_
    refine XS.iload Y41.here hx rfl (hb hby at_207) rfl ?_
    refine XS.iloadN Y41.here hx rfl (hb hby at_209) rfl ?_
    exact k
  have Z0_v42 := Nat.le_trans Z0_v37 (Nat.le_of_eq W41.size.symm)
  obtain ⟨_, _, ⟨T43, L43, k43, n43⟩, -, X43, ⟨Lc43, hQ43, l43, y43, z43⟩, st43⟩ := Jvm.LawKit.callS Y41 hx (y := (⟨"com/example/terms_to_scores/termstoscores/index/PostingsGetFreqPinLaw", "docAt", "(IIIIII)I"⟩ : MethodName)) hown (mvT hZ (hw _ (List.mem_of_getElem? (i := 6) rfl))) (mvT hZ (hw _ (List.mem_of_getElem? (i := 7) rfl))) (mvT hZ (hw _ (List.mem_of_getElem? (i := 3) rfl))) (mvT hZ (hw _ (List.mem_of_getElem? (i := 8) rfl))) (by decide) (backOf (W := 2) (rmdat l Z a0 hw [] p2 6 c1 ((c1 + c3)) ((c1 + c3 + c5)) ((c1 + c3 + c5 + c7)) h41 n0 Z0_v42 ⟨by decide, hcb⟩) hZ (hw _ (List.mem_of_getElem? (i := 8) rfl)) (hw _ (List.mem_of_getElem? (i := 3) rfl)) (by decide) (by decide)) (g := (mkF m 210 (LS_IIIIIIIIIIIIIIIRuuuuu p0 p1 p2 p3 (own_N nn) (own_N c1) (own_N c3) (own_N c5) (own_N c7) (own_N c9) (own_N c1) (own_N (c1 + c3)) (own_N (c1 + c3 + c5)) (own_N (c1 + c3 + c5 + c7)) (own_N (c1 + c3 + c5 + c7 + c9)) b11) [(.int p2), (.int (own_N (c1 + c3 + c5 + c7))), (.int (own_N (c1 + c3 + c5))), (.int (own_N (c1 + c3))), (.int (own_N c1)), (.int (6 : Int32)), (.int (6 : Int32)), (.ref b11)])) rfl (by rw [hml]; rfl) (argsL := [(.int (6 : Int32)), (.int (own_N c1)), (.int (own_N (c1 + c3))), (.int (own_N (c1 + c3 + c5))), (.int (own_N (c1 + c3 + c5 + c7))), (.int p2)]) (rest := [(.int (6 : Int32)), (.ref b11)]) (lenOf pd__IIIIII_I rfl) rfl (by show 2 * 0 + _ ≤ _; exact Nat.le_of_eq rfl) (hb hby at_210) (fun _ _ => ⟨rfl, e41, (by decide : 1 + 0 ≤ _), (by decide : 15 + 0 ≤ _)⟩)
  dsimp only [Pt.U, Pt.locs, Pt.cells, Pt.slots] at X43 l43 y43 z43 st43 hQ43
  subst l43 y43 z43
  obtain ⟨rfl, N43q, e43⟩ := hQ43
  have N43 := Fr.app M41 N43q
  refine own_go (B := T43.setTop (mkF m 213 (LS_IIIIIIIIIIIIIIIRuuuuu p0 p1 p2 p3 (own_N nn) (own_N c1) (own_N c3) (own_N c5) (own_N c7) (own_N c9) (own_N c1) (own_N (c1 + c3)) (own_N (c1 + c3 + c5)) (own_N (c1 + c3 + c5 + c7)) (own_N (c1 + c3 + c5 + c7 + c9)) b11) [(.int (own_D p2 c1 ((c1 + c3)) ((c1 + c3 + c5)) ((c1 + c3 + c5 + c7)) 6)), (.int (6 : Int32)), (.ref b11)])) (fun t k => st43 _ k) ?_
  refine own_hide X43 N43 fun lc44 Y44 M44 => ?_
  obtain ⟨cl45, Ar45, qa45, Sa45, Na45, Ha45, Ga45⟩ := id V41
  have hin46 : ¬ ((6 : Int32) < 0 ∨ cl45.slots.size ≤ ((6 : Int32)).toNatClampNeg) := own_inb (X := 6) Sa45 (by decide) (by decide)
  obtain ⟨T46, h46, X46, e46, W46, st46⟩ := stI Y44 hx hZ e43 Ar45 (j := (6 : Int32)) hin46 (g := (mkF m 213 (LS_IIIIIIIIIIIIIIIRuuuuu p0 p1 p2 p3 (own_N nn) (own_N c1) (own_N c3) (own_N c5) (own_N c7) (own_N c9) (own_N c1) (own_N (c1 + c3)) (own_N (c1 + c3 + c5)) (own_N (c1 + c3 + c5 + c7)) (own_N (c1 + c3 + c5 + c7 + c9)) b11) [(.int (own_D p2 c1 ((c1 + c3)) ((c1 + c3 + c5)) ((c1 + c3 + c5 + c7)) 6)), (.int (6 : Int32)), (.ref b11)])) rfl rfl (hb hby at_213)
  have N46 := Fr.snoc X46 M44 g_b11
  have V46 : Arv Z h46 b11 k11 .int (own_N 15) (own_V (own_up u41 6 (own_D p2 c1 ((c1 + c3)) ((c1 + c3 + c5)) ((c1 + c3 + c5 + c7)) 6)) 15) (.int (0 : Int32)) := own_setV (X := 6) Ar45 qa45 Sa45 Na45 Ha45 Ga45 W46 (by decide) (by decide)
  obtain ⟨u46, hu46⟩ : ∃ z, z = (own_up u41 6 (own_D p2 c1 ((c1 + c3)) ((c1 + c3 + c5)) ((c1 + c3 + c5 + c7)) 6)) := ⟨_, rfl⟩
  rw [← hu46] at V46
  refine own_hide X46 N46 fun lc46 Y46 M46 => ?_
  refine own_go (B := T46.setTop (mkF m 214 (LS_IIIIIIIIIIIIIIIRuuuuu p0 p1 p2 p3 (own_N nn) (own_N c1) (own_N c3) (own_N c5) (own_N c7) (own_N c9) (own_N c1) (own_N (c1 + c3)) (own_N (c1 + c3 + c5)) (own_N (c1 + c3 + c5 + c7)) (own_N (c1 + c3 + c5 + c7 + c9)) b11) [])) (fun t k => st46 _ k) ?_
  refine own_go (B := T46.setTop (mkF m 229 (LS_IIIIIIIIIIIIIIIRuuuuu p0 p1 p2 p3 (own_N nn) (own_N c1) (own_N c3) (own_N c5) (own_N c7) (own_N c9) (own_N c1) (own_N (c1 + c3)) (own_N (c1 + c3 + c5)) (own_N (c1 + c3 + c5 + c7)) (own_N (c1 + c3 + c5 + c7 + c9)) b11) [(.int p2), (.int (own_N (c1 + c3 + c5 + c7))), (.int (own_N (c1 + c3 + c5))), (.int (own_N (c1 + c3))), (.int (own_N c1)), (.int (7 : Int32)), (.int (7 : Int32)), (.ref b11)])) (fun t k => ?_) ?_
  · refine XS.aload Y46.here hx rfl (hb hby at_214) rfl rfl ?_
    refine XS.bipush Y46.here hx rfl (hb hby at_216) ?_
    show Steps p.tables e below (T46.setTop (mkF m 218 (LS_IIIIIIIIIIIIIIIRuuuuu p0 p1 p2 p3 (own_N nn) (own_N c1) (own_N c3) (own_N c5) (own_N c7) (own_N c9) (own_N c1) (own_N (c1 + c3)) (own_N (c1 + c3 + c5)) (own_N (c1 + c3 + c5 + c7)) (own_N (c1 + c3 + c5 + c7 + c9)) b11) [(.int (7 : Int32)), (.ref b11)])) _
    refine XS.bipush Y46.here hx rfl (hb hby at_218) ?_
    refine XS.iload Y46.here hx rfl (hb hby at_220) rfl ?_
    refine XS.iload Y46.here hx rfl (hb hby at_222) rfl ?_
    show Steps p.tables e below (T46.setTop (mkF m 224 (LS_IIIIIIIIIIIIIIIRuuuuu p0 p1 p2 p3 (own_N nn) (own_N c1) (own_N c3) (own_N c5) (own_N c7) (own_N c9) (own_N c1) (own_N (c1 + c3)) (own_N (c1 + c3 + c5)) (own_N (c1 + c3 + c5 + c7)) (own_N (c1 + c3 + c5 + c7 + c9)) b11) [(.int (own_N (c1 + c3))), (.int (own_N c1)), (.int (7 : Int32)), (.int (7 : Int32)), (.ref b11)])) _
    refine XS.iload Y46.here hx rfl (hb hby at_224) rfl ?_
    refine XS.iload Y46.here hx rfl (hb hby at_226) rfl ?_
    refine XS.iloadN Y46.here hx rfl (hb hby at_228) rfl ?_
    exact k
  have Z0_v47 := Nat.le_trans Z0_v42 (Nat.le_of_eq W46.size.symm)
  obtain ⟨_, _, ⟨T48, L48, k48, n48⟩, -, X48, ⟨Lc48, hQ48, l48, y48, z48⟩, st48⟩ := Jvm.LawKit.callS Y46 hx (y := (⟨"com/example/terms_to_scores/termstoscores/index/PostingsGetFreqPinLaw", "docAt", "(IIIIII)I"⟩ : MethodName)) hown (mvT hZ (hw _ (List.mem_of_getElem? (i := 6) rfl))) (mvT hZ (hw _ (List.mem_of_getElem? (i := 7) rfl))) (mvT hZ (hw _ (List.mem_of_getElem? (i := 3) rfl))) (mvT hZ (hw _ (List.mem_of_getElem? (i := 8) rfl))) (by decide) (backOf (W := 2) (rmdat l Z a0 hw [] p2 7 c1 ((c1 + c3)) ((c1 + c3 + c5)) ((c1 + c3 + c5 + c7)) h46 n0 Z0_v47 ⟨by decide, hcb⟩) hZ (hw _ (List.mem_of_getElem? (i := 8) rfl)) (hw _ (List.mem_of_getElem? (i := 3) rfl)) (by decide) (by decide)) (g := (mkF m 229 (LS_IIIIIIIIIIIIIIIRuuuuu p0 p1 p2 p3 (own_N nn) (own_N c1) (own_N c3) (own_N c5) (own_N c7) (own_N c9) (own_N c1) (own_N (c1 + c3)) (own_N (c1 + c3 + c5)) (own_N (c1 + c3 + c5 + c7)) (own_N (c1 + c3 + c5 + c7 + c9)) b11) [(.int p2), (.int (own_N (c1 + c3 + c5 + c7))), (.int (own_N (c1 + c3 + c5))), (.int (own_N (c1 + c3))), (.int (own_N c1)), (.int (7 : Int32)), (.int (7 : Int32)), (.ref b11)])) rfl (by rw [hml]; rfl) (argsL := [(.int (7 : Int32)), (.int (own_N c1)), (.int (own_N (c1 + c3))), (.int (own_N (c1 + c3 + c5))), (.int (own_N (c1 + c3 + c5 + c7))), (.int p2)]) (rest := [(.int (7 : Int32)), (.ref b11)]) (lenOf pd__IIIIII_I rfl) rfl (by show 2 * 0 + _ ≤ _; exact Nat.le_of_eq rfl) (hb hby at_229) (fun _ _ => ⟨rfl, e46, (by decide : 1 + 0 ≤ _), (by decide : 15 + 0 ≤ _)⟩)
  dsimp only [Pt.U, Pt.locs, Pt.cells, Pt.slots] at X48 l48 y48 z48 st48 hQ48
  subst l48 y48 z48
  obtain ⟨rfl, N48q, e48⟩ := hQ48
  have N48 := Fr.app M46 N48q
  refine own_go (B := T48.setTop (mkF m 232 (LS_IIIIIIIIIIIIIIIRuuuuu p0 p1 p2 p3 (own_N nn) (own_N c1) (own_N c3) (own_N c5) (own_N c7) (own_N c9) (own_N c1) (own_N (c1 + c3)) (own_N (c1 + c3 + c5)) (own_N (c1 + c3 + c5 + c7)) (own_N (c1 + c3 + c5 + c7 + c9)) b11) [(.int (own_D p2 c1 ((c1 + c3)) ((c1 + c3 + c5)) ((c1 + c3 + c5 + c7)) 7)), (.int (7 : Int32)), (.ref b11)])) (fun t k => st48 _ k) ?_
  refine own_hide X48 N48 fun lc49 Y49 M49 => ?_
  obtain ⟨cl50, Ar50, qa50, Sa50, Na50, Ha50, Ga50⟩ := id V46
  have hin51 : ¬ ((7 : Int32) < 0 ∨ cl50.slots.size ≤ ((7 : Int32)).toNatClampNeg) := own_inb (X := 7) Sa50 (by decide) (by decide)
  obtain ⟨T51, h51, X51, e51, W51, st51⟩ := stI Y49 hx hZ e48 Ar50 (j := (7 : Int32)) hin51 (g := (mkF m 232 (LS_IIIIIIIIIIIIIIIRuuuuu p0 p1 p2 p3 (own_N nn) (own_N c1) (own_N c3) (own_N c5) (own_N c7) (own_N c9) (own_N c1) (own_N (c1 + c3)) (own_N (c1 + c3 + c5)) (own_N (c1 + c3 + c5 + c7)) (own_N (c1 + c3 + c5 + c7 + c9)) b11) [(.int (own_D p2 c1 ((c1 + c3)) ((c1 + c3 + c5)) ((c1 + c3 + c5 + c7)) 7)), (.int (7 : Int32)), (.ref b11)])) rfl rfl (hb hby at_232)
  have N51 := Fr.snoc X51 M49 g_b11
  have V51 : Arv Z h51 b11 k11 .int (own_N 15) (own_V (own_up u46 7 (own_D p2 c1 ((c1 + c3)) ((c1 + c3 + c5)) ((c1 + c3 + c5 + c7)) 7)) 15) (.int (0 : Int32)) := own_setV (X := 7) Ar50 qa50 Sa50 Na50 Ha50 Ga50 W51 (by decide) (by decide)
  obtain ⟨u51, hu51⟩ : ∃ z, z = (own_up u46 7 (own_D p2 c1 ((c1 + c3)) ((c1 + c3 + c5)) ((c1 + c3 + c5 + c7)) 7)) := ⟨_, rfl⟩
  rw [← hu51] at V51
  refine own_hide X51 N51 fun lc51 Y51 M51 => ?_
  refine own_go (B := T51.setTop (mkF m 233 (LS_IIIIIIIIIIIIIIIRuuuuu p0 p1 p2 p3 (own_N nn) (own_N c1) (own_N c3) (own_N c5) (own_N c7) (own_N c9) (own_N c1) (own_N (c1 + c3)) (own_N (c1 + c3 + c5)) (own_N (c1 + c3 + c5 + c7)) (own_N (c1 + c3 + c5 + c7 + c9)) b11) [])) (fun t k => st51 _ k) ?_
  refine own_go (B := T51.setTop (mkF m 248 (LS_IIIIIIIIIIIIIIIRuuuuu p0 p1 p2 p3 (own_N nn) (own_N c1) (own_N c3) (own_N c5) (own_N c7) (own_N c9) (own_N c1) (own_N (c1 + c3)) (own_N (c1 + c3 + c5)) (own_N (c1 + c3 + c5 + c7)) (own_N (c1 + c3 + c5 + c7 + c9)) b11) [(.int p2), (.int (own_N (c1 + c3 + c5 + c7))), (.int (own_N (c1 + c3 + c5))), (.int (own_N (c1 + c3))), (.int (own_N c1)), (.int (8 : Int32)), (.int (8 : Int32)), (.ref b11)])) (fun t k => ?_) ?_
  · refine XS.aload Y51.here hx rfl (hb hby at_233) rfl rfl ?_
    refine XS.bipush Y51.here hx rfl (hb hby at_235) ?_
    show Steps p.tables e below (T51.setTop (mkF m 237 (LS_IIIIIIIIIIIIIIIRuuuuu p0 p1 p2 p3 (own_N nn) (own_N c1) (own_N c3) (own_N c5) (own_N c7) (own_N c9) (own_N c1) (own_N (c1 + c3)) (own_N (c1 + c3 + c5)) (own_N (c1 + c3 + c5 + c7)) (own_N (c1 + c3 + c5 + c7 + c9)) b11) [(.int (8 : Int32)), (.ref b11)])) _
    refine XS.bipush Y51.here hx rfl (hb hby at_237) ?_
    refine XS.iload Y51.here hx rfl (hb hby at_239) rfl ?_
    refine XS.iload Y51.here hx rfl (hb hby at_241) rfl ?_
    show Steps p.tables e below (T51.setTop (mkF m 243 (LS_IIIIIIIIIIIIIIIRuuuuu p0 p1 p2 p3 (own_N nn) (own_N c1) (own_N c3) (own_N c5) (own_N c7) (own_N c9) (own_N c1) (own_N (c1 + c3)) (own_N (c1 + c3 + c5)) (own_N (c1 + c3 + c5 + c7)) (own_N (c1 + c3 + c5 + c7 + c9)) b11) [(.int (own_N (c1 + c3))), (.int (own_N c1)), (.int (8 : Int32)), (.int (8 : Int32)), (.ref b11)])) _
    refine XS.iload Y51.here hx rfl (hb hby at_243) rfl ?_
    refine XS.iload Y51.here hx rfl (hb hby at_245) rfl ?_
    refine XS.iloadN Y51.here hx rfl (hb hby at_247) rfl ?_
    exact k
  have Z0_v52 := Nat.le_trans Z0_v47 (Nat.le_of_eq W51.size.symm)
  obtain ⟨_, _, ⟨T53, L53, k53, n53⟩, -, X53, ⟨Lc53, hQ53, l53, y53, z53⟩, st53⟩ := Jvm.LawKit.callS Y51 hx (y := (⟨"com/example/terms_to_scores/termstoscores/index/PostingsGetFreqPinLaw", "docAt", "(IIIIII)I"⟩ : MethodName)) hown (mvT hZ (hw _ (List.mem_of_getElem? (i := 6) rfl))) (mvT hZ (hw _ (List.mem_of_getElem? (i := 7) rfl))) (mvT hZ (hw _ (List.mem_of_getElem? (i := 3) rfl))) (mvT hZ (hw _ (List.mem_of_getElem? (i := 8) rfl))) (by decide) (backOf (W := 2) (rmdat l Z a0 hw [] p2 8 c1 ((c1 + c3)) ((c1 + c3 + c5)) ((c1 + c3 + c5 + c7)) h51 n0 Z0_v52 ⟨by decide, hcb⟩) hZ (hw _ (List.mem_of_getElem? (i := 8) rfl)) (hw _ (List.mem_of_getElem? (i := 3) rfl)) (by decide) (by decide)) (g := (mkF m 248 (LS_IIIIIIIIIIIIIIIRuuuuu p0 p1 p2 p3 (own_N nn) (own_N c1) (own_N c3) (own_N c5) (own_N c7) (own_N c9) (own_N c1) (own_N (c1 + c3)) (own_N (c1 + c3 + c5)) (own_N (c1 + c3 + c5 + c7)) (own_N (c1 + c3 + c5 + c7 + c9)) b11) [(.int p2), (.int (own_N (c1 + c3 + c5 + c7))), (.int (own_N (c1 + c3 + c5))), (.int (own_N (c1 + c3))), (.int (own_N c1)), (.int (8 : Int32)), (.int (8 : Int32)), (.ref b11)])) rfl (by rw [hml]; rfl) (argsL := [(.int (8 : Int32)), (.int (own_N c1)), (.int (own_N (c1 + c3))), (.int (own_N (c1 + c3 + c5))), (.int (own_N (c1 + c3 + c5 + c7))), (.int p2)]) (rest := [(.int (8 : Int32)), (.ref b11)]) (lenOf pd__IIIIII_I rfl) rfl (by show 2 * 0 + _ ≤ _; exact Nat.le_of_eq rfl) (hb hby at_248) (fun _ _ => ⟨rfl, e51, (by decide : 1 + 0 ≤ _), (by decide : 15 + 0 ≤ _)⟩)
  dsimp only [Pt.U, Pt.locs, Pt.cells, Pt.slots] at X53 l53 y53 z53 st53 hQ53
  subst l53 y53 z53
  obtain ⟨rfl, N53q, e53⟩ := hQ53
  have N53 := Fr.app M51 N53q
  refine own_go (B := T53.setTop (mkF m 251 (LS_IIIIIIIIIIIIIIIRuuuuu p0 p1 p2 p3 (own_N nn) (own_N c1) (own_N c3) (own_N c5) (own_N c7) (own_N c9) (own_N c1) (own_N (c1 + c3)) (own_N (c1 + c3 + c5)) (own_N (c1 + c3 + c5 + c7)) (own_N (c1 + c3 + c5 + c7 + c9)) b11) [(.int (own_D p2 c1 ((c1 + c3)) ((c1 + c3 + c5)) ((c1 + c3 + c5 + c7)) 8)), (.int (8 : Int32)), (.ref b11)])) (fun t k => st53 _ k) ?_
  refine own_hide X53 N53 fun lc54 Y54 M54 => ?_
  obtain ⟨cl55, Ar55, qa55, Sa55, Na55, Ha55, Ga55⟩ := id V51
  have hin56 : ¬ ((8 : Int32) < 0 ∨ cl55.slots.size ≤ ((8 : Int32)).toNatClampNeg) := own_inb (X := 8) Sa55 (by decide) (by decide)
  obtain ⟨T56, h56, X56, e56, W56, st56⟩ := stI Y54 hx hZ e53 Ar55 (j := (8 : Int32)) hin56 (g := (mkF m 251 (LS_IIIIIIIIIIIIIIIRuuuuu p0 p1 p2 p3 (own_N nn) (own_N c1) (own_N c3) (own_N c5) (own_N c7) (own_N c9) (own_N c1) (own_N (c1 + c3)) (own_N (c1 + c3 + c5)) (own_N (c1 + c3 + c5 + c7)) (own_N (c1 + c3 + c5 + c7 + c9)) b11) [(.int (own_D p2 c1 ((c1 + c3)) ((c1 + c3 + c5)) ((c1 + c3 + c5 + c7)) 8)), (.int (8 : Int32)), (.ref b11)])) rfl rfl (hb hby at_251)
  have N56 := Fr.snoc X56 M54 g_b11
  have V56 : Arv Z h56 b11 k11 .int (own_N 15) (own_V (own_up u51 8 (own_D p2 c1 ((c1 + c3)) ((c1 + c3 + c5)) ((c1 + c3 + c5 + c7)) 8)) 15) (.int (0 : Int32)) := own_setV (X := 8) Ar55 qa55 Sa55 Na55 Ha55 Ga55 W56 (by decide) (by decide)
  obtain ⟨u56, hu56⟩ : ∃ z, z = (own_up u51 8 (own_D p2 c1 ((c1 + c3)) ((c1 + c3 + c5)) ((c1 + c3 + c5 + c7)) 8)) := ⟨_, rfl⟩
  rw [← hu56] at V56
  refine own_hide X56 N56 fun lc56 Y56 M56 => ?_
  refine own_go (B := T56.setTop (mkF m 252 (LS_IIIIIIIIIIIIIIIRuuuuu p0 p1 p2 p3 (own_N nn) (own_N c1) (own_N c3) (own_N c5) (own_N c7) (own_N c9) (own_N c1) (own_N (c1 + c3)) (own_N (c1 + c3 + c5)) (own_N (c1 + c3 + c5 + c7)) (own_N (c1 + c3 + c5 + c7 + c9)) b11) [])) (fun t k => st56 _ k) ?_
  refine own_go (B := T56.setTop (mkF m 267 (LS_IIIIIIIIIIIIIIIRuuuuu p0 p1 p2 p3 (own_N nn) (own_N c1) (own_N c3) (own_N c5) (own_N c7) (own_N c9) (own_N c1) (own_N (c1 + c3)) (own_N (c1 + c3 + c5)) (own_N (c1 + c3 + c5 + c7)) (own_N (c1 + c3 + c5 + c7 + c9)) b11) [(.int p2), (.int (own_N (c1 + c3 + c5 + c7))), (.int (own_N (c1 + c3 + c5))), (.int (own_N (c1 + c3))), (.int (own_N c1)), (.int (9 : Int32)), (.int (9 : Int32)), (.ref b11)])) (fun t k => ?_) ?_
  · refine XS.aload Y56.here hx rfl (hb hby at_252) rfl rfl ?_
    refine XS.bipush Y56.here hx rfl (hb hby at_254) ?_
    show Steps p.tables e below (T56.setTop (mkF m 256 (LS_IIIIIIIIIIIIIIIRuuuuu p0 p1 p2 p3 (own_N nn) (own_N c1) (own_N c3) (own_N c5) (own_N c7) (own_N c9) (own_N c1) (own_N (c1 + c3)) (own_N (c1 + c3 + c5)) (own_N (c1 + c3 + c5 + c7)) (own_N (c1 + c3 + c5 + c7 + c9)) b11) [(.int (9 : Int32)), (.ref b11)])) _
    refine XS.bipush Y56.here hx rfl (hb hby at_256) ?_
    refine XS.iload Y56.here hx rfl (hb hby at_258) rfl ?_
    refine XS.iload Y56.here hx rfl (hb hby at_260) rfl ?_
    show Steps p.tables e below (T56.setTop (mkF m 262 (LS_IIIIIIIIIIIIIIIRuuuuu p0 p1 p2 p3 (own_N nn) (own_N c1) (own_N c3) (own_N c5) (own_N c7) (own_N c9) (own_N c1) (own_N (c1 + c3)) (own_N (c1 + c3 + c5)) (own_N (c1 + c3 + c5 + c7)) (own_N (c1 + c3 + c5 + c7 + c9)) b11) [(.int (own_N (c1 + c3))), (.int (own_N c1)), (.int (9 : Int32)), (.int (9 : Int32)), (.ref b11)])) _
    refine XS.iload Y56.here hx rfl (hb hby at_262) rfl ?_
    refine XS.iload Y56.here hx rfl (hb hby at_264) rfl ?_
    refine XS.iloadN Y56.here hx rfl (hb hby at_266) rfl ?_
    exact k
  have Z0_v57 := Nat.le_trans Z0_v52 (Nat.le_of_eq W56.size.symm)
  obtain ⟨_, _, ⟨T58, L58, k58, n58⟩, -, X58, ⟨Lc58, hQ58, l58, y58, z58⟩, st58⟩ := Jvm.LawKit.callS Y56 hx (y := (⟨"com/example/terms_to_scores/termstoscores/index/PostingsGetFreqPinLaw", "docAt", "(IIIIII)I"⟩ : MethodName)) hown (mvT hZ (hw _ (List.mem_of_getElem? (i := 6) rfl))) (mvT hZ (hw _ (List.mem_of_getElem? (i := 7) rfl))) (mvT hZ (hw _ (List.mem_of_getElem? (i := 3) rfl))) (mvT hZ (hw _ (List.mem_of_getElem? (i := 8) rfl))) (by decide) (backOf (W := 2) (rmdat l Z a0 hw [] p2 9 c1 ((c1 + c3)) ((c1 + c3 + c5)) ((c1 + c3 + c5 + c7)) h56 n0 Z0_v57 ⟨by decide, hcb⟩) hZ (hw _ (List.mem_of_getElem? (i := 8) rfl)) (hw _ (List.mem_of_getElem? (i := 3) rfl)) (by decide) (by decide)) (g := (mkF m 267 (LS_IIIIIIIIIIIIIIIRuuuuu p0 p1 p2 p3 (own_N nn) (own_N c1) (own_N c3) (own_N c5) (own_N c7) (own_N c9) (own_N c1) (own_N (c1 + c3)) (own_N (c1 + c3 + c5)) (own_N (c1 + c3 + c5 + c7)) (own_N (c1 + c3 + c5 + c7 + c9)) b11) [(.int p2), (.int (own_N (c1 + c3 + c5 + c7))), (.int (own_N (c1 + c3 + c5))), (.int (own_N (c1 + c3))), (.int (own_N c1)), (.int (9 : Int32)), (.int (9 : Int32)), (.ref b11)])) rfl (by rw [hml]; rfl) (argsL := [(.int (9 : Int32)), (.int (own_N c1)), (.int (own_N (c1 + c3))), (.int (own_N (c1 + c3 + c5))), (.int (own_N (c1 + c3 + c5 + c7))), (.int p2)]) (rest := [(.int (9 : Int32)), (.ref b11)]) (lenOf pd__IIIIII_I rfl) rfl (by show 2 * 0 + _ ≤ _; exact Nat.le_of_eq rfl) (hb hby at_267) (fun _ _ => ⟨rfl, e56, (by decide : 1 + 0 ≤ _), (by decide : 15 + 0 ≤ _)⟩)
  dsimp only [Pt.U, Pt.locs, Pt.cells, Pt.slots] at X58 l58 y58 z58 st58 hQ58
  subst l58 y58 z58
  obtain ⟨rfl, N58q, e58⟩ := hQ58
  have N58 := Fr.app M56 N58q
  refine own_go (B := T58.setTop (mkF m 270 (LS_IIIIIIIIIIIIIIIRuuuuu p0 p1 p2 p3 (own_N nn) (own_N c1) (own_N c3) (own_N c5) (own_N c7) (own_N c9) (own_N c1) (own_N (c1 + c3)) (own_N (c1 + c3 + c5)) (own_N (c1 + c3 + c5 + c7)) (own_N (c1 + c3 + c5 + c7 + c9)) b11) [(.int (own_D p2 c1 ((c1 + c3)) ((c1 + c3 + c5)) ((c1 + c3 + c5 + c7)) 9)), (.int (9 : Int32)), (.ref b11)])) (fun t k => st58 _ k) ?_
  refine own_hide X58 N58 fun lc59 Y59 M59 => ?_
  obtain ⟨cl60, Ar60, qa60, Sa60, Na60, Ha60, Ga60⟩ := id V56
  have hin61 : ¬ ((9 : Int32) < 0 ∨ cl60.slots.size ≤ ((9 : Int32)).toNatClampNeg) := own_inb (X := 9) Sa60 (by decide) (by decide)
  obtain ⟨T61, h61, X61, e61, W61, st61⟩ := stI Y59 hx hZ e58 Ar60 (j := (9 : Int32)) hin61 (g := (mkF m 270 (LS_IIIIIIIIIIIIIIIRuuuuu p0 p1 p2 p3 (own_N nn) (own_N c1) (own_N c3) (own_N c5) (own_N c7) (own_N c9) (own_N c1) (own_N (c1 + c3)) (own_N (c1 + c3 + c5)) (own_N (c1 + c3 + c5 + c7)) (own_N (c1 + c3 + c5 + c7 + c9)) b11) [(.int (own_D p2 c1 ((c1 + c3)) ((c1 + c3 + c5)) ((c1 + c3 + c5 + c7)) 9)), (.int (9 : Int32)), (.ref b11)])) rfl rfl (hb hby at_270)
  have N61 := Fr.snoc X61 M59 g_b11
  have V61 : Arv Z h61 b11 k11 .int (own_N 15) (own_V (own_up u56 9 (own_D p2 c1 ((c1 + c3)) ((c1 + c3 + c5)) ((c1 + c3 + c5 + c7)) 9)) 15) (.int (0 : Int32)) := own_setV (X := 9) Ar60 qa60 Sa60 Na60 Ha60 Ga60 W61 (by decide) (by decide)
  obtain ⟨u61, hu61⟩ : ∃ z, z = (own_up u56 9 (own_D p2 c1 ((c1 + c3)) ((c1 + c3 + c5)) ((c1 + c3 + c5 + c7)) 9)) := ⟨_, rfl⟩
  rw [← hu61] at V61
  refine own_hide X61 N61 fun lc61 Y61 M61 => ?_
  refine own_go (B := T61.setTop (mkF m 271 (LS_IIIIIIIIIIIIIIIRuuuuu p0 p1 p2 p3 (own_N nn) (own_N c1) (own_N c3) (own_N c5) (own_N c7) (own_N c9) (own_N c1) (own_N (c1 + c3)) (own_N (c1 + c3 + c5)) (own_N (c1 + c3 + c5 + c7)) (own_N (c1 + c3 + c5 + c7 + c9)) b11) [])) (fun t k => st61 _ k) ?_
  refine own_go (B := T61.setTop (mkF m 286 (LS_IIIIIIIIIIIIIIIRuuuuu p0 p1 p2 p3 (own_N nn) (own_N c1) (own_N c3) (own_N c5) (own_N c7) (own_N c9) (own_N c1) (own_N (c1 + c3)) (own_N (c1 + c3 + c5)) (own_N (c1 + c3 + c5 + c7)) (own_N (c1 + c3 + c5 + c7 + c9)) b11) [(.int p2), (.int (own_N (c1 + c3 + c5 + c7))), (.int (own_N (c1 + c3 + c5))), (.int (own_N (c1 + c3))), (.int (own_N c1)), (.int (10 : Int32)), (.int (10 : Int32)), (.ref b11)])) (fun t k => ?_) ?_
  · refine XS.aload Y61.here hx rfl (hb hby at_271) rfl rfl ?_
    refine XS.bipush Y61.here hx rfl (hb hby at_273) ?_
    show Steps p.tables e below (T61.setTop (mkF m 275 (LS_IIIIIIIIIIIIIIIRuuuuu p0 p1 p2 p3 (own_N nn) (own_N c1) (own_N c3) (own_N c5) (own_N c7) (own_N c9) (own_N c1) (own_N (c1 + c3)) (own_N (c1 + c3 + c5)) (own_N (c1 + c3 + c5 + c7)) (own_N (c1 + c3 + c5 + c7 + c9)) b11) [(.int (10 : Int32)), (.ref b11)])) _
    refine XS.bipush Y61.here hx rfl (hb hby at_275) ?_
    refine XS.iload Y61.here hx rfl (hb hby at_277) rfl ?_
    refine XS.iload Y61.here hx rfl (hb hby at_279) rfl ?_
    show Steps p.tables e below (T61.setTop (mkF m 281 (LS_IIIIIIIIIIIIIIIRuuuuu p0 p1 p2 p3 (own_N nn) (own_N c1) (own_N c3) (own_N c5) (own_N c7) (own_N c9) (own_N c1) (own_N (c1 + c3)) (own_N (c1 + c3 + c5)) (own_N (c1 + c3 + c5 + c7)) (own_N (c1 + c3 + c5 + c7 + c9)) b11) [(.int (own_N (c1 + c3))), (.int (own_N c1)), (.int (10 : Int32)), (.int (10 : Int32)), (.ref b11)])) _
    refine XS.iload Y61.here hx rfl (hb hby at_281) rfl ?_
    refine XS.iload Y61.here hx rfl (hb hby at_283) rfl ?_
    refine XS.iloadN Y61.here hx rfl (hb hby at_285) rfl ?_
    exact k
  have Z0_v62 := Nat.le_trans Z0_v57 (Nat.le_of_eq W61.size.symm)
  obtain ⟨_, _, ⟨T63, L63, k63, n63⟩, -, X63, ⟨Lc63, hQ63, l63, y63, z63⟩, st63⟩ := Jvm.LawKit.callS Y61 hx (y := (⟨"com/example/terms_to_scores/termstoscores/index/PostingsGetFreqPinLaw", "docAt", "(IIIIII)I"⟩ : MethodName)) hown (mvT hZ (hw _ (List.mem_of_getElem? (i := 6) rfl))) (mvT hZ (hw _ (List.mem_of_getElem? (i := 7) rfl))) (mvT hZ (hw _ (List.mem_of_getElem? (i := 3) rfl))) (mvT hZ (hw _ (List.mem_of_getElem? (i := 8) rfl))) (by decide) (backOf (W := 2) (rmdat l Z a0 hw [] p2 10 c1 ((c1 + c3)) ((c1 + c3 + c5)) ((c1 + c3 + c5 + c7)) h61 n0 Z0_v62 ⟨by decide, hcb⟩) hZ (hw _ (List.mem_of_getElem? (i := 8) rfl)) (hw _ (List.mem_of_getElem? (i := 3) rfl)) (by decide) (by decide)) (g := (mkF m 286 (LS_IIIIIIIIIIIIIIIRuuuuu p0 p1 p2 p3 (own_N nn) (own_N c1) (own_N c3) (own_N c5) (own_N c7) (own_N c9) (own_N c1) (own_N (c1 + c3)) (own_N (c1 + c3 + c5)) (own_N (c1 + c3 + c5 + c7)) (own_N (c1 + c3 + c5 + c7 + c9)) b11) [(.int p2), (.int (own_N (c1 + c3 + c5 + c7))), (.int (own_N (c1 + c3 + c5))), (.int (own_N (c1 + c3))), (.int (own_N c1)), (.int (10 : Int32)), (.int (10 : Int32)), (.ref b11)])) rfl (by rw [hml]; rfl) (argsL := [(.int (10 : Int32)), (.int (own_N c1)), (.int (own_N (c1 + c3))), (.int (own_N (c1 + c3 + c5))), (.int (own_N (c1 + c3 + c5 + c7))), (.int p2)]) (rest := [(.int (10 : Int32)), (.ref b11)]) (lenOf pd__IIIIII_I rfl) rfl (by show 2 * 0 + _ ≤ _; exact Nat.le_of_eq rfl) (hb hby at_286) (fun _ _ => ⟨rfl, e61, (by decide : 1 + 0 ≤ _), (by decide : 15 + 0 ≤ _)⟩)
  dsimp only [Pt.U, Pt.locs, Pt.cells, Pt.slots] at X63 l63 y63 z63 st63 hQ63
  subst l63 y63 z63
  obtain ⟨rfl, N63q, e63⟩ := hQ63
  have N63 := Fr.app M61 N63q
  refine own_go (B := T63.setTop (mkF m 289 (LS_IIIIIIIIIIIIIIIRuuuuu p0 p1 p2 p3 (own_N nn) (own_N c1) (own_N c3) (own_N c5) (own_N c7) (own_N c9) (own_N c1) (own_N (c1 + c3)) (own_N (c1 + c3 + c5)) (own_N (c1 + c3 + c5 + c7)) (own_N (c1 + c3 + c5 + c7 + c9)) b11) [(.int (own_D p2 c1 ((c1 + c3)) ((c1 + c3 + c5)) ((c1 + c3 + c5 + c7)) 10)), (.int (10 : Int32)), (.ref b11)])) (fun t k => st63 _ k) ?_
  refine own_hide X63 N63 fun lc64 Y64 M64 => ?_
  obtain ⟨cl65, Ar65, qa65, Sa65, Na65, Ha65, Ga65⟩ := id V61
  have hin66 : ¬ ((10 : Int32) < 0 ∨ cl65.slots.size ≤ ((10 : Int32)).toNatClampNeg) := own_inb (X := 10) Sa65 (by decide) (by decide)
  obtain ⟨T66, h66, X66, e66, W66, st66⟩ := stI Y64 hx hZ e63 Ar65 (j := (10 : Int32)) hin66 (g := (mkF m 289 (LS_IIIIIIIIIIIIIIIRuuuuu p0 p1 p2 p3 (own_N nn) (own_N c1) (own_N c3) (own_N c5) (own_N c7) (own_N c9) (own_N c1) (own_N (c1 + c3)) (own_N (c1 + c3 + c5)) (own_N (c1 + c3 + c5 + c7)) (own_N (c1 + c3 + c5 + c7 + c9)) b11) [(.int (own_D p2 c1 ((c1 + c3)) ((c1 + c3 + c5)) ((c1 + c3 + c5 + c7)) 10)), (.int (10 : Int32)), (.ref b11)])) rfl rfl (hb hby at_289)
  have N66 := Fr.snoc X66 M64 g_b11
  have V66 : Arv Z h66 b11 k11 .int (own_N 15) (own_V (own_up u61 10 (own_D p2 c1 ((c1 + c3)) ((c1 + c3 + c5)) ((c1 + c3 + c5 + c7)) 10)) 15) (.int (0 : Int32)) := own_setV (X := 10) Ar65 qa65 Sa65 Na65 Ha65 Ga65 W66 (by decide) (by decide)
  obtain ⟨u66, hu66⟩ : ∃ z, z = (own_up u61 10 (own_D p2 c1 ((c1 + c3)) ((c1 + c3 + c5)) ((c1 + c3 + c5 + c7)) 10)) := ⟨_, rfl⟩
  rw [← hu66] at V66
  refine own_hide X66 N66 fun lc66 Y66 M66 => ?_
  refine own_go (B := T66.setTop (mkF m 290 (LS_IIIIIIIIIIIIIIIRuuuuu p0 p1 p2 p3 (own_N nn) (own_N c1) (own_N c3) (own_N c5) (own_N c7) (own_N c9) (own_N c1) (own_N (c1 + c3)) (own_N (c1 + c3 + c5)) (own_N (c1 + c3 + c5 + c7)) (own_N (c1 + c3 + c5 + c7 + c9)) b11) [])) (fun t k => st66 _ k) ?_
  refine own_go (B := T66.setTop (mkF m 305 (LS_IIIIIIIIIIIIIIIRuuuuu p0 p1 p2 p3 (own_N nn) (own_N c1) (own_N c3) (own_N c5) (own_N c7) (own_N c9) (own_N c1) (own_N (c1 + c3)) (own_N (c1 + c3 + c5)) (own_N (c1 + c3 + c5 + c7)) (own_N (c1 + c3 + c5 + c7 + c9)) b11) [(.int p2), (.int (own_N (c1 + c3 + c5 + c7))), (.int (own_N (c1 + c3 + c5))), (.int (own_N (c1 + c3))), (.int (own_N c1)), (.int (11 : Int32)), (.int (11 : Int32)), (.ref b11)])) (fun t k => ?_) ?_
  · refine XS.aload Y66.here hx rfl (hb hby at_290) rfl rfl ?_
    refine XS.bipush Y66.here hx rfl (hb hby at_292) ?_
    show Steps p.tables e below (T66.setTop (mkF m 294 (LS_IIIIIIIIIIIIIIIRuuuuu p0 p1 p2 p3 (own_N nn) (own_N c1) (own_N c3) (own_N c5) (own_N c7) (own_N c9) (own_N c1) (own_N (c1 + c3)) (own_N (c1 + c3 + c5)) (own_N (c1 + c3 + c5 + c7)) (own_N (c1 + c3 + c5 + c7 + c9)) b11) [(.int (11 : Int32)), (.ref b11)])) _
    refine XS.bipush Y66.here hx rfl (hb hby at_294) ?_
    refine XS.iload Y66.here hx rfl (hb hby at_296) rfl ?_
    refine XS.iload Y66.here hx rfl (hb hby at_298) rfl ?_
    show Steps p.tables e below (T66.setTop (mkF m 300 (LS_IIIIIIIIIIIIIIIRuuuuu p0 p1 p2 p3 (own_N nn) (own_N c1) (own_N c3) (own_N c5) (own_N c7) (own_N c9) (own_N c1) (own_N (c1 + c3)) (own_N (c1 + c3 + c5)) (own_N (c1 + c3 + c5 + c7)) (own_N (c1 + c3 + c5 + c7 + c9)) b11) [(.int (own_N (c1 + c3))), (.int (own_N c1)), (.int (11 : Int32)), (.int (11 : Int32)), (.ref b11)])) _
    refine XS.iload Y66.here hx rfl (hb hby at_300) rfl ?_
    refine XS.iload Y66.here hx rfl (hb hby at_302) rfl ?_
    refine XS.iloadN Y66.here hx rfl (hb hby at_304) rfl ?_
    exact k
  have Z0_v67 := Nat.le_trans Z0_v62 (Nat.le_of_eq W66.size.symm)
  obtain ⟨_, _, ⟨T68, L68, k68, n68⟩, -, X68, ⟨Lc68, hQ68, l68, y68, z68⟩, st68⟩ := Jvm.LawKit.callS Y66 hx (y := (⟨"com/example/terms_to_scores/termstoscores/index/PostingsGetFreqPinLaw", "docAt", "(IIIIII)I"⟩ : MethodName)) hown (mvT hZ (hw _ (List.mem_of_getElem? (i := 6) rfl))) (mvT hZ (hw _ (List.mem_of_getElem? (i := 7) rfl))) (mvT hZ (hw _ (List.mem_of_getElem? (i := 3) rfl))) (mvT hZ (hw _ (List.mem_of_getElem? (i := 8) rfl))) (by decide) (backOf (W := 2) (rmdat l Z a0 hw [] p2 11 c1 ((c1 + c3)) ((c1 + c3 + c5)) ((c1 + c3 + c5 + c7)) h66 n0 Z0_v67 ⟨by decide, hcb⟩) hZ (hw _ (List.mem_of_getElem? (i := 8) rfl)) (hw _ (List.mem_of_getElem? (i := 3) rfl)) (by decide) (by decide)) (g := (mkF m 305 (LS_IIIIIIIIIIIIIIIRuuuuu p0 p1 p2 p3 (own_N nn) (own_N c1) (own_N c3) (own_N c5) (own_N c7) (own_N c9) (own_N c1) (own_N (c1 + c3)) (own_N (c1 + c3 + c5)) (own_N (c1 + c3 + c5 + c7)) (own_N (c1 + c3 + c5 + c7 + c9)) b11) [(.int p2), (.int (own_N (c1 + c3 + c5 + c7))), (.int (own_N (c1 + c3 + c5))), (.int (own_N (c1 + c3))), (.int (own_N c1)), (.int (11 : Int32)), (.int (11 : Int32)), (.ref b11)])) rfl (by rw [hml]; rfl) (argsL := [(.int (11 : Int32)), (.int (own_N c1)), (.int (own_N (c1 + c3))), (.int (own_N (c1 + c3 + c5))), (.int (own_N (c1 + c3 + c5 + c7))), (.int p2)]) (rest := [(.int (11 : Int32)), (.ref b11)]) (lenOf pd__IIIIII_I rfl) rfl (by show 2 * 0 + _ ≤ _; exact Nat.le_of_eq rfl) (hb hby at_305) (fun _ _ => ⟨rfl, e66, (by decide : 1 + 0 ≤ _), (by decide : 15 + 0 ≤ _)⟩)
  dsimp only [Pt.U, Pt.locs, Pt.cells, Pt.slots] at X68 l68 y68 z68 st68 hQ68
  subst l68 y68 z68
  obtain ⟨rfl, N68q, e68⟩ := hQ68
  have N68 := Fr.app M66 N68q
  refine own_go (B := T68.setTop (mkF m 308 (LS_IIIIIIIIIIIIIIIRuuuuu p0 p1 p2 p3 (own_N nn) (own_N c1) (own_N c3) (own_N c5) (own_N c7) (own_N c9) (own_N c1) (own_N (c1 + c3)) (own_N (c1 + c3 + c5)) (own_N (c1 + c3 + c5 + c7)) (own_N (c1 + c3 + c5 + c7 + c9)) b11) [(.int (own_D p2 c1 ((c1 + c3)) ((c1 + c3 + c5)) ((c1 + c3 + c5 + c7)) 11)), (.int (11 : Int32)), (.ref b11)])) (fun t k => st68 _ k) ?_
  refine own_hide X68 N68 fun lc69 Y69 M69 => ?_
  obtain ⟨cl70, Ar70, qa70, Sa70, Na70, Ha70, Ga70⟩ := id V66
  have hin71 : ¬ ((11 : Int32) < 0 ∨ cl70.slots.size ≤ ((11 : Int32)).toNatClampNeg) := own_inb (X := 11) Sa70 (by decide) (by decide)
  obtain ⟨T71, h71, X71, e71, W71, st71⟩ := stI Y69 hx hZ e68 Ar70 (j := (11 : Int32)) hin71 (g := (mkF m 308 (LS_IIIIIIIIIIIIIIIRuuuuu p0 p1 p2 p3 (own_N nn) (own_N c1) (own_N c3) (own_N c5) (own_N c7) (own_N c9) (own_N c1) (own_N (c1 + c3)) (own_N (c1 + c3 + c5)) (own_N (c1 + c3 + c5 + c7)) (own_N (c1 + c3 + c5 + c7 + c9)) b11) [(.int (own_D p2 c1 ((c1 + c3)) ((c1 + c3 + c5)) ((c1 + c3 + c5 + c7)) 11)), (.int (11 : Int32)), (.ref b11)])) rfl rfl (hb hby at_308)
  have N71 := Fr.snoc X71 M69 g_b11
  have V71 : Arv Z h71 b11 k11 .int (own_N 15) (own_V (own_up u66 11 (own_D p2 c1 ((c1 + c3)) ((c1 + c3 + c5)) ((c1 + c3 + c5 + c7)) 11)) 15) (.int (0 : Int32)) := own_setV (X := 11) Ar70 qa70 Sa70 Na70 Ha70 Ga70 W71 (by decide) (by decide)
  obtain ⟨u71, hu71⟩ : ∃ z, z = (own_up u66 11 (own_D p2 c1 ((c1 + c3)) ((c1 + c3 + c5)) ((c1 + c3 + c5 + c7)) 11)) := ⟨_, rfl⟩
  rw [← hu71] at V71
  refine own_hide X71 N71 fun lc71 Y71 M71 => ?_
  refine own_go (B := T71.setTop (mkF m 309 (LS_IIIIIIIIIIIIIIIRuuuuu p0 p1 p2 p3 (own_N nn) (own_N c1) (own_N c3) (own_N c5) (own_N c7) (own_N c9) (own_N c1) (own_N (c1 + c3)) (own_N (c1 + c3 + c5)) (own_N (c1 + c3 + c5 + c7)) (own_N (c1 + c3 + c5 + c7 + c9)) b11) [])) (fun t k => st71 _ k) ?_
  refine own_go (B := T71.setTop (mkF m 324 (LS_IIIIIIIIIIIIIIIRuuuuu p0 p1 p2 p3 (own_N nn) (own_N c1) (own_N c3) (own_N c5) (own_N c7) (own_N c9) (own_N c1) (own_N (c1 + c3)) (own_N (c1 + c3 + c5)) (own_N (c1 + c3 + c5 + c7)) (own_N (c1 + c3 + c5 + c7 + c9)) b11) [(.int p2), (.int (own_N (c1 + c3 + c5 + c7))), (.int (own_N (c1 + c3 + c5))), (.int (own_N (c1 + c3))), (.int (own_N c1)), (.int (12 : Int32)), (.int (12 : Int32)), (.ref b11)])) (fun t k => ?_) ?_
  · refine XS.aload Y71.here hx rfl (hb hby at_309) rfl rfl ?_
    refine XS.bipush Y71.here hx rfl (hb hby at_311) ?_
    show Steps p.tables e below (T71.setTop (mkF m 313 (LS_IIIIIIIIIIIIIIIRuuuuu p0 p1 p2 p3 (own_N nn) (own_N c1) (own_N c3) (own_N c5) (own_N c7) (own_N c9) (own_N c1) (own_N (c1 + c3)) (own_N (c1 + c3 + c5)) (own_N (c1 + c3 + c5 + c7)) (own_N (c1 + c3 + c5 + c7 + c9)) b11) [(.int (12 : Int32)), (.ref b11)])) _
    refine XS.bipush Y71.here hx rfl (hb hby at_313) ?_
    refine XS.iload Y71.here hx rfl (hb hby at_315) rfl ?_
    refine XS.iload Y71.here hx rfl (hb hby at_317) rfl ?_
    show Steps p.tables e below (T71.setTop (mkF m 319 (LS_IIIIIIIIIIIIIIIRuuuuu p0 p1 p2 p3 (own_N nn) (own_N c1) (own_N c3) (own_N c5) (own_N c7) (own_N c9) (own_N c1) (own_N (c1 + c3)) (own_N (c1 + c3 + c5)) (own_N (c1 + c3 + c5 + c7)) (own_N (c1 + c3 + c5 + c7 + c9)) b11) [(.int (own_N (c1 + c3))), (.int (own_N c1)), (.int (12 : Int32)), (.int (12 : Int32)), (.ref b11)])) _
    refine XS.iload Y71.here hx rfl (hb hby at_319) rfl ?_
    refine XS.iload Y71.here hx rfl (hb hby at_321) rfl ?_
    refine XS.iloadN Y71.here hx rfl (hb hby at_323) rfl ?_
    exact k
  have Z0_v72 := Nat.le_trans Z0_v67 (Nat.le_of_eq W71.size.symm)
  obtain ⟨_, _, ⟨T73, L73, k73, n73⟩, -, X73, ⟨Lc73, hQ73, l73, y73, z73⟩, st73⟩ := Jvm.LawKit.callS Y71 hx (y := (⟨"com/example/terms_to_scores/termstoscores/index/PostingsGetFreqPinLaw", "docAt", "(IIIIII)I"⟩ : MethodName)) hown (mvT hZ (hw _ (List.mem_of_getElem? (i := 6) rfl))) (mvT hZ (hw _ (List.mem_of_getElem? (i := 7) rfl))) (mvT hZ (hw _ (List.mem_of_getElem? (i := 3) rfl))) (mvT hZ (hw _ (List.mem_of_getElem? (i := 8) rfl))) (by decide) (backOf (W := 2) (rmdat l Z a0 hw [] p2 12 c1 ((c1 + c3)) ((c1 + c3 + c5)) ((c1 + c3 + c5 + c7)) h71 n0 Z0_v72 ⟨by decide, hcb⟩) hZ (hw _ (List.mem_of_getElem? (i := 8) rfl)) (hw _ (List.mem_of_getElem? (i := 3) rfl)) (by decide) (by decide)) (g := (mkF m 324 (LS_IIIIIIIIIIIIIIIRuuuuu p0 p1 p2 p3 (own_N nn) (own_N c1) (own_N c3) (own_N c5) (own_N c7) (own_N c9) (own_N c1) (own_N (c1 + c3)) (own_N (c1 + c3 + c5)) (own_N (c1 + c3 + c5 + c7)) (own_N (c1 + c3 + c5 + c7 + c9)) b11) [(.int p2), (.int (own_N (c1 + c3 + c5 + c7))), (.int (own_N (c1 + c3 + c5))), (.int (own_N (c1 + c3))), (.int (own_N c1)), (.int (12 : Int32)), (.int (12 : Int32)), (.ref b11)])) rfl (by rw [hml]; rfl) (argsL := [(.int (12 : Int32)), (.int (own_N c1)), (.int (own_N (c1 + c3))), (.int (own_N (c1 + c3 + c5))), (.int (own_N (c1 + c3 + c5 + c7))), (.int p2)]) (rest := [(.int (12 : Int32)), (.ref b11)]) (lenOf pd__IIIIII_I rfl) rfl (by show 2 * 0 + _ ≤ _; exact Nat.le_of_eq rfl) (hb hby at_324) (fun _ _ => ⟨rfl, e71, (by decide : 1 + 0 ≤ _), (by decide : 15 + 0 ≤ _)⟩)
  dsimp only [Pt.U, Pt.locs, Pt.cells, Pt.slots] at X73 l73 y73 z73 st73 hQ73
  subst l73 y73 z73
  obtain ⟨rfl, N73q, e73⟩ := hQ73
  have N73 := Fr.app M71 N73q
  refine own_go (B := T73.setTop (mkF m 327 (LS_IIIIIIIIIIIIIIIRuuuuu p0 p1 p2 p3 (own_N nn) (own_N c1) (own_N c3) (own_N c5) (own_N c7) (own_N c9) (own_N c1) (own_N (c1 + c3)) (own_N (c1 + c3 + c5)) (own_N (c1 + c3 + c5 + c7)) (own_N (c1 + c3 + c5 + c7 + c9)) b11) [(.int (own_D p2 c1 ((c1 + c3)) ((c1 + c3 + c5)) ((c1 + c3 + c5 + c7)) 12)), (.int (12 : Int32)), (.ref b11)])) (fun t k => st73 _ k) ?_
  refine own_hide X73 N73 fun lc74 Y74 M74 => ?_
  obtain ⟨cl75, Ar75, qa75, Sa75, Na75, Ha75, Ga75⟩ := id V71
  have hin76 : ¬ ((12 : Int32) < 0 ∨ cl75.slots.size ≤ ((12 : Int32)).toNatClampNeg) := own_inb (X := 12) Sa75 (by decide) (by decide)
  obtain ⟨T76, h76, X76, e76, W76, st76⟩ := stI Y74 hx hZ e73 Ar75 (j := (12 : Int32)) hin76 (g := (mkF m 327 (LS_IIIIIIIIIIIIIIIRuuuuu p0 p1 p2 p3 (own_N nn) (own_N c1) (own_N c3) (own_N c5) (own_N c7) (own_N c9) (own_N c1) (own_N (c1 + c3)) (own_N (c1 + c3 + c5)) (own_N (c1 + c3 + c5 + c7)) (own_N (c1 + c3 + c5 + c7 + c9)) b11) [(.int (own_D p2 c1 ((c1 + c3)) ((c1 + c3 + c5)) ((c1 + c3 + c5 + c7)) 12)), (.int (12 : Int32)), (.ref b11)])) rfl rfl (hb hby at_327)
  have N76 := Fr.snoc X76 M74 g_b11
  have V76 : Arv Z h76 b11 k11 .int (own_N 15) (own_V (own_up u71 12 (own_D p2 c1 ((c1 + c3)) ((c1 + c3 + c5)) ((c1 + c3 + c5 + c7)) 12)) 15) (.int (0 : Int32)) := own_setV (X := 12) Ar75 qa75 Sa75 Na75 Ha75 Ga75 W76 (by decide) (by decide)
  obtain ⟨u76, hu76⟩ : ∃ z, z = (own_up u71 12 (own_D p2 c1 ((c1 + c3)) ((c1 + c3 + c5)) ((c1 + c3 + c5 + c7)) 12)) := ⟨_, rfl⟩
  rw [← hu76] at V76
  refine own_hide X76 N76 fun lc76 Y76 M76 => ?_
  refine own_go (B := T76.setTop (mkF m 328 (LS_IIIIIIIIIIIIIIIRuuuuu p0 p1 p2 p3 (own_N nn) (own_N c1) (own_N c3) (own_N c5) (own_N c7) (own_N c9) (own_N c1) (own_N (c1 + c3)) (own_N (c1 + c3 + c5)) (own_N (c1 + c3 + c5 + c7)) (own_N (c1 + c3 + c5 + c7 + c9)) b11) [])) (fun t k => st76 _ k) ?_
  refine own_go (B := T76.setTop (mkF m 343 (LS_IIIIIIIIIIIIIIIRuuuuu p0 p1 p2 p3 (own_N nn) (own_N c1) (own_N c3) (own_N c5) (own_N c7) (own_N c9) (own_N c1) (own_N (c1 + c3)) (own_N (c1 + c3 + c5)) (own_N (c1 + c3 + c5 + c7)) (own_N (c1 + c3 + c5 + c7 + c9)) b11) [(.int p2), (.int (own_N (c1 + c3 + c5 + c7))), (.int (own_N (c1 + c3 + c5))), (.int (own_N (c1 + c3))), (.int (own_N c1)), (.int (13 : Int32)), (.int (13 : Int32)), (.ref b11)])) (fun t k => ?_) ?_
  · refine XS.aload Y76.here hx rfl (hb hby at_328) rfl rfl ?_
    refine XS.bipush Y76.here hx rfl (hb hby at_330) ?_
    show Steps p.tables e below (T76.setTop (mkF m 332 (LS_IIIIIIIIIIIIIIIRuuuuu p0 p1 p2 p3 (own_N nn) (own_N c1) (own_N c3) (own_N c5) (own_N c7) (own_N c9) (own_N c1) (own_N (c1 + c3)) (own_N (c1 + c3 + c5)) (own_N (c1 + c3 + c5 + c7)) (own_N (c1 + c3 + c5 + c7 + c9)) b11) [(.int (13 : Int32)), (.ref b11)])) _
    refine XS.bipush Y76.here hx rfl (hb hby at_332) ?_
    refine XS.iload Y76.here hx rfl (hb hby at_334) rfl ?_
    refine XS.iload Y76.here hx rfl (hb hby at_336) rfl ?_
    show Steps p.tables e below (T76.setTop (mkF m 338 (LS_IIIIIIIIIIIIIIIRuuuuu p0 p1 p2 p3 (own_N nn) (own_N c1) (own_N c3) (own_N c5) (own_N c7) (own_N c9) (own_N c1) (own_N (c1 + c3)) (own_N (c1 + c3 + c5)) (own_N (c1 + c3 + c5 + c7)) (own_N (c1 + c3 + c5 + c7 + c9)) b11) [(.int (own_N (c1 + c3))), (.int (own_N c1)), (.int (13 : Int32)), (.int (13 : Int32)), (.ref b11)])) _
    refine XS.iload Y76.here hx rfl (hb hby at_338) rfl ?_
    refine XS.iload Y76.here hx rfl (hb hby at_340) rfl ?_
    refine XS.iloadN Y76.here hx rfl (hb hby at_342) rfl ?_
    exact k
  have Z0_v77 := Nat.le_trans Z0_v72 (Nat.le_of_eq W76.size.symm)
  obtain ⟨_, _, ⟨T78, L78, k78, n78⟩, -, X78, ⟨Lc78, hQ78, l78, y78, z78⟩, st78⟩ := Jvm.LawKit.callS Y76 hx (y := (⟨"com/example/terms_to_scores/termstoscores/index/PostingsGetFreqPinLaw", "docAt", "(IIIIII)I"⟩ : MethodName)) hown (mvT hZ (hw _ (List.mem_of_getElem? (i := 6) rfl))) (mvT hZ (hw _ (List.mem_of_getElem? (i := 7) rfl))) (mvT hZ (hw _ (List.mem_of_getElem? (i := 3) rfl))) (mvT hZ (hw _ (List.mem_of_getElem? (i := 8) rfl))) (by decide) (backOf (W := 2) (rmdat l Z a0 hw [] p2 13 c1 ((c1 + c3)) ((c1 + c3 + c5)) ((c1 + c3 + c5 + c7)) h76 n0 Z0_v77 ⟨by decide, hcb⟩) hZ (hw _ (List.mem_of_getElem? (i := 8) rfl)) (hw _ (List.mem_of_getElem? (i := 3) rfl)) (by decide) (by decide)) (g := (mkF m 343 (LS_IIIIIIIIIIIIIIIRuuuuu p0 p1 p2 p3 (own_N nn) (own_N c1) (own_N c3) (own_N c5) (own_N c7) (own_N c9) (own_N c1) (own_N (c1 + c3)) (own_N (c1 + c3 + c5)) (own_N (c1 + c3 + c5 + c7)) (own_N (c1 + c3 + c5 + c7 + c9)) b11) [(.int p2), (.int (own_N (c1 + c3 + c5 + c7))), (.int (own_N (c1 + c3 + c5))), (.int (own_N (c1 + c3))), (.int (own_N c1)), (.int (13 : Int32)), (.int (13 : Int32)), (.ref b11)])) rfl (by rw [hml]; rfl) (argsL := [(.int (13 : Int32)), (.int (own_N c1)), (.int (own_N (c1 + c3))), (.int (own_N (c1 + c3 + c5))), (.int (own_N (c1 + c3 + c5 + c7))), (.int p2)]) (rest := [(.int (13 : Int32)), (.ref b11)]) (lenOf pd__IIIIII_I rfl) rfl (by show 2 * 0 + _ ≤ _; exact Nat.le_of_eq rfl) (hb hby at_343) (fun _ _ => ⟨rfl, e76, (by decide : 1 + 0 ≤ _), (by decide : 15 + 0 ≤ _)⟩)
  dsimp only [Pt.U, Pt.locs, Pt.cells, Pt.slots] at X78 l78 y78 z78 st78 hQ78
  subst l78 y78 z78
  obtain ⟨rfl, N78q, e78⟩ := hQ78
  have N78 := Fr.app M76 N78q
  refine own_go (B := T78.setTop (mkF m 346 (LS_IIIIIIIIIIIIIIIRuuuuu p0 p1 p2 p3 (own_N nn) (own_N c1) (own_N c3) (own_N c5) (own_N c7) (own_N c9) (own_N c1) (own_N (c1 + c3)) (own_N (c1 + c3 + c5)) (own_N (c1 + c3 + c5 + c7)) (own_N (c1 + c3 + c5 + c7 + c9)) b11) [(.int (own_D p2 c1 ((c1 + c3)) ((c1 + c3 + c5)) ((c1 + c3 + c5 + c7)) 13)), (.int (13 : Int32)), (.ref b11)])) (fun t k => st78 _ k) ?_
  refine own_hide X78 N78 fun lc79 Y79 M79 => ?_
  obtain ⟨cl80, Ar80, qa80, Sa80, Na80, Ha80, Ga80⟩ := id V76
  have hin81 : ¬ ((13 : Int32) < 0 ∨ cl80.slots.size ≤ ((13 : Int32)).toNatClampNeg) := own_inb (X := 13) Sa80 (by decide) (by decide)
  obtain ⟨T81, h81, X81, e81, W81, st81⟩ := stI Y79 hx hZ e78 Ar80 (j := (13 : Int32)) hin81 (g := (mkF m 346 (LS_IIIIIIIIIIIIIIIRuuuuu p0 p1 p2 p3 (own_N nn) (own_N c1) (own_N c3) (own_N c5) (own_N c7) (own_N c9) (own_N c1) (own_N (c1 + c3)) (own_N (c1 + c3 + c5)) (own_N (c1 + c3 + c5 + c7)) (own_N (c1 + c3 + c5 + c7 + c9)) b11) [(.int (own_D p2 c1 ((c1 + c3)) ((c1 + c3 + c5)) ((c1 + c3 + c5 + c7)) 13)), (.int (13 : Int32)), (.ref b11)])) rfl rfl (hb hby at_346)
  have N81 := Fr.snoc X81 M79 g_b11
  have V81 : Arv Z h81 b11 k11 .int (own_N 15) (own_V (own_up u76 13 (own_D p2 c1 ((c1 + c3)) ((c1 + c3 + c5)) ((c1 + c3 + c5 + c7)) 13)) 15) (.int (0 : Int32)) := own_setV (X := 13) Ar80 qa80 Sa80 Na80 Ha80 Ga80 W81 (by decide) (by decide)
  obtain ⟨u81, hu81⟩ : ∃ z, z = (own_up u76 13 (own_D p2 c1 ((c1 + c3)) ((c1 + c3 + c5)) ((c1 + c3 + c5 + c7)) 13)) := ⟨_, rfl⟩
  rw [← hu81] at V81
  refine own_hide X81 N81 fun lc81 Y81 M81 => ?_
  refine own_go (B := T81.setTop (mkF m 347 (LS_IIIIIIIIIIIIIIIRuuuuu p0 p1 p2 p3 (own_N nn) (own_N c1) (own_N c3) (own_N c5) (own_N c7) (own_N c9) (own_N c1) (own_N (c1 + c3)) (own_N (c1 + c3 + c5)) (own_N (c1 + c3 + c5 + c7)) (own_N (c1 + c3 + c5 + c7 + c9)) b11) [])) (fun t k => st81 _ k) ?_
  refine own_go (B := T81.setTop (mkF m 362 (LS_IIIIIIIIIIIIIIIRuuuuu p0 p1 p2 p3 (own_N nn) (own_N c1) (own_N c3) (own_N c5) (own_N c7) (own_N c9) (own_N c1) (own_N (c1 + c3)) (own_N (c1 + c3 + c5)) (own_N (c1 + c3 + c5 + c7)) (own_N (c1 + c3 + c5 + c7 + c9)) b11) [(.int p2), (.int (own_N (c1 + c3 + c5 + c7))), (.int (own_N (c1 + c3 + c5))), (.int (own_N (c1 + c3))), (.int (own_N c1)), (.int (14 : Int32)), (.int (14 : Int32)), (.ref b11)])) (fun t k => ?_) ?_
  · refine XS.aload Y81.here hx rfl (hb hby at_347) rfl rfl ?_
    refine XS.bipush Y81.here hx rfl (hb hby at_349) ?_
    show Steps p.tables e below (T81.setTop (mkF m 351 (LS_IIIIIIIIIIIIIIIRuuuuu p0 p1 p2 p3 (own_N nn) (own_N c1) (own_N c3) (own_N c5) (own_N c7) (own_N c9) (own_N c1) (own_N (c1 + c3)) (own_N (c1 + c3 + c5)) (own_N (c1 + c3 + c5 + c7)) (own_N (c1 + c3 + c5 + c7 + c9)) b11) [(.int (14 : Int32)), (.ref b11)])) _
    refine XS.bipush Y81.here hx rfl (hb hby at_351) ?_
    refine XS.iload Y81.here hx rfl (hb hby at_353) rfl ?_
    refine XS.iload Y81.here hx rfl (hb hby at_355) rfl ?_
    show Steps p.tables e below (T81.setTop (mkF m 357 (LS_IIIIIIIIIIIIIIIRuuuuu p0 p1 p2 p3 (own_N nn) (own_N c1) (own_N c3) (own_N c5) (own_N c7) (own_N c9) (own_N c1) (own_N (c1 + c3)) (own_N (c1 + c3 + c5)) (own_N (c1 + c3 + c5 + c7)) (own_N (c1 + c3 + c5 + c7 + c9)) b11) [(.int (own_N (c1 + c3))), (.int (own_N c1)), (.int (14 : Int32)), (.int (14 : Int32)), (.ref b11)])) _
    refine XS.iload Y81.here hx rfl (hb hby at_357) rfl ?_
    refine XS.iload Y81.here hx rfl (hb hby at_359) rfl ?_
    refine XS.iloadN Y81.here hx rfl (hb hby at_361) rfl ?_
    exact k
  have Z0_v82 := Nat.le_trans Z0_v77 (Nat.le_of_eq W81.size.symm)
  obtain ⟨_, _, ⟨T83, L83, k83, n83⟩, -, X83, ⟨Lc83, hQ83, l83, y83, z83⟩, st83⟩ := Jvm.LawKit.callS Y81 hx (y := (⟨"com/example/terms_to_scores/termstoscores/index/PostingsGetFreqPinLaw", "docAt", "(IIIIII)I"⟩ : MethodName)) hown (mvT hZ (hw _ (List.mem_of_getElem? (i := 6) rfl))) (mvT hZ (hw _ (List.mem_of_getElem? (i := 7) rfl))) (mvT hZ (hw _ (List.mem_of_getElem? (i := 3) rfl))) (mvT hZ (hw _ (List.mem_of_getElem? (i := 8) rfl))) (by decide) (backOf (W := 2) (rmdat l Z a0 hw [] p2 14 c1 ((c1 + c3)) ((c1 + c3 + c5)) ((c1 + c3 + c5 + c7)) h81 n0 Z0_v82 ⟨by decide, hcb⟩) hZ (hw _ (List.mem_of_getElem? (i := 8) rfl)) (hw _ (List.mem_of_getElem? (i := 3) rfl)) (by decide) (by decide)) (g := (mkF m 362 (LS_IIIIIIIIIIIIIIIRuuuuu p0 p1 p2 p3 (own_N nn) (own_N c1) (own_N c3) (own_N c5) (own_N c7) (own_N c9) (own_N c1) (own_N (c1 + c3)) (own_N (c1 + c3 + c5)) (own_N (c1 + c3 + c5 + c7)) (own_N (c1 + c3 + c5 + c7 + c9)) b11) [(.int p2), (.int (own_N (c1 + c3 + c5 + c7))), (.int (own_N (c1 + c3 + c5))), (.int (own_N (c1 + c3))), (.int (own_N c1)), (.int (14 : Int32)), (.int (14 : Int32)), (.ref b11)])) rfl (by rw [hml]; rfl) (argsL := [(.int (14 : Int32)), (.int (own_N c1)), (.int (own_N (c1 + c3))), (.int (own_N (c1 + c3 + c5))), (.int (own_N (c1 + c3 + c5 + c7))), (.int p2)]) (rest := [(.int (14 : Int32)), (.ref b11)]) (lenOf pd__IIIIII_I rfl) rfl (by show 2 * 0 + _ ≤ _; exact Nat.le_of_eq rfl) (hb hby at_362) (fun _ _ => ⟨rfl, e81, (by decide : 1 + 0 ≤ _), (by decide : 15 + 0 ≤ _)⟩)
  dsimp only [Pt.U, Pt.locs, Pt.cells, Pt.slots] at X83 l83 y83 z83 st83 hQ83
  subst l83 y83 z83
  obtain ⟨rfl, N83q, e83⟩ := hQ83
  have N83 := Fr.app M81 N83q
  refine own_go (B := T83.setTop (mkF m 365 (LS_IIIIIIIIIIIIIIIRuuuuu p0 p1 p2 p3 (own_N nn) (own_N c1) (own_N c3) (own_N c5) (own_N c7) (own_N c9) (own_N c1) (own_N (c1 + c3)) (own_N (c1 + c3 + c5)) (own_N (c1 + c3 + c5 + c7)) (own_N (c1 + c3 + c5 + c7 + c9)) b11) [(.int (own_D p2 c1 ((c1 + c3)) ((c1 + c3 + c5)) ((c1 + c3 + c5 + c7)) 14)), (.int (14 : Int32)), (.ref b11)])) (fun t k => st83 _ k) ?_
  refine own_hide X83 N83 fun lc84 Y84 M84 => ?_
  obtain ⟨cl85, Ar85, qa85, Sa85, Na85, Ha85, Ga85⟩ := id V81
  have hin86 : ¬ ((14 : Int32) < 0 ∨ cl85.slots.size ≤ ((14 : Int32)).toNatClampNeg) := own_inb (X := 14) Sa85 (by decide) (by decide)
  obtain ⟨T86, h86, X86, e86, W86, st86⟩ := stI Y84 hx hZ e83 Ar85 (j := (14 : Int32)) hin86 (g := (mkF m 365 (LS_IIIIIIIIIIIIIIIRuuuuu p0 p1 p2 p3 (own_N nn) (own_N c1) (own_N c3) (own_N c5) (own_N c7) (own_N c9) (own_N c1) (own_N (c1 + c3)) (own_N (c1 + c3 + c5)) (own_N (c1 + c3 + c5 + c7)) (own_N (c1 + c3 + c5 + c7 + c9)) b11) [(.int (own_D p2 c1 ((c1 + c3)) ((c1 + c3 + c5)) ((c1 + c3 + c5 + c7)) 14)), (.int (14 : Int32)), (.ref b11)])) rfl rfl (hb hby at_365)
  have N86 := Fr.snoc X86 M84 g_b11
  have V86 : Arv Z h86 b11 k11 .int (own_N 15) (own_V (own_up u81 14 (own_D p2 c1 ((c1 + c3)) ((c1 + c3 + c5)) ((c1 + c3 + c5 + c7)) 14)) 15) (.int (0 : Int32)) := own_setV (X := 14) Ar85 qa85 Sa85 Na85 Ha85 Ga85 W86 (by decide) (by decide)
  obtain ⟨u86, hu86⟩ : ∃ z, z = (own_up u81 14 (own_D p2 c1 ((c1 + c3)) ((c1 + c3 + c5)) ((c1 + c3 + c5 + c7)) 14)) := ⟨_, rfl⟩
  rw [← hu86] at V86
  refine own_hide X86 N86 fun lc86 Y86 M86 => ?_
  refine own_go (B := T86.setTop (mkF m 366 (LS_IIIIIIIIIIIIIIIRuuuuu p0 p1 p2 p3 (own_N nn) (own_N c1) (own_N c3) (own_N c5) (own_N c7) (own_N c9) (own_N c1) (own_N (c1 + c3)) (own_N (c1 + c3 + c5)) (own_N (c1 + c3 + c5 + c7)) (own_N (c1 + c3 + c5 + c7 + c9)) b11) [])) (fun t k => st86 _ k) ?_
  have hf0 : ∀ i, i < 0 → (fun _ => (0 : Int32)) i = (own_D p2 c1 (c1 + c3) (c1 + c3 + c5) (c1 + c3 + c5 + c7)) i := fun i hi => absurd hi (Nat.not_lt_zero _)
  have hf1 : ∀ i, i < 1 → u16 i = (own_D p2 c1 (c1 + c3) (c1 + c3 + c5) (c1 + c3 + c5 + c7)) i := by rw [hu16]; exact own_fill hf0 rfl
  have hf2 : ∀ i, i < 2 → u21 i = (own_D p2 c1 (c1 + c3) (c1 + c3 + c5) (c1 + c3 + c5 + c7)) i := by rw [hu21]; exact own_fill hf1 rfl
  have hf3 : ∀ i, i < 3 → u26 i = (own_D p2 c1 (c1 + c3) (c1 + c3 + c5) (c1 + c3 + c5 + c7)) i := by rw [hu26]; exact own_fill hf2 rfl
  have hf4 : ∀ i, i < 4 → u31 i = (own_D p2 c1 (c1 + c3) (c1 + c3 + c5) (c1 + c3 + c5 + c7)) i := by rw [hu31]; exact own_fill hf3 rfl
  have hf5 : ∀ i, i < 5 → u36 i = (own_D p2 c1 (c1 + c3) (c1 + c3 + c5) (c1 + c3 + c5 + c7)) i := by rw [hu36]; exact own_fill hf4 rfl
  have hf6 : ∀ i, i < 6 → u41 i = (own_D p2 c1 (c1 + c3) (c1 + c3 + c5) (c1 + c3 + c5 + c7)) i := by rw [hu41]; exact own_fill hf5 rfl
  have hf7 : ∀ i, i < 7 → u46 i = (own_D p2 c1 (c1 + c3) (c1 + c3 + c5) (c1 + c3 + c5 + c7)) i := by rw [hu46]; exact own_fill hf6 rfl
  have hf8 : ∀ i, i < 8 → u51 i = (own_D p2 c1 (c1 + c3) (c1 + c3 + c5) (c1 + c3 + c5 + c7)) i := by rw [hu51]; exact own_fill hf7 rfl
  have hf9 : ∀ i, i < 9 → u56 i = (own_D p2 c1 (c1 + c3) (c1 + c3 + c5) (c1 + c3 + c5 + c7)) i := by rw [hu56]; exact own_fill hf8 rfl
  have hf10 : ∀ i, i < 10 → u61 i = (own_D p2 c1 (c1 + c3) (c1 + c3 + c5) (c1 + c3 + c5 + c7)) i := by rw [hu61]; exact own_fill hf9 rfl
  have hf11 : ∀ i, i < 11 → u66 i = (own_D p2 c1 (c1 + c3) (c1 + c3 + c5) (c1 + c3 + c5 + c7)) i := by rw [hu66]; exact own_fill hf10 rfl
  have hf12 : ∀ i, i < 12 → u71 i = (own_D p2 c1 (c1 + c3) (c1 + c3 + c5) (c1 + c3 + c5 + c7)) i := by rw [hu71]; exact own_fill hf11 rfl
  have hf13 : ∀ i, i < 13 → u76 i = (own_D p2 c1 (c1 + c3) (c1 + c3 + c5) (c1 + c3 + c5 + c7)) i := by rw [hu76]; exact own_fill hf12 rfl
  have hf14 : ∀ i, i < 14 → u81 i = (own_D p2 c1 (c1 + c3) (c1 + c3 + c5) (c1 + c3 + c5 + c7)) i := by rw [hu81]; exact own_fill hf13 rfl
  have hf15 : ∀ i, i < 15 → u86 i = (own_D p2 c1 (c1 + c3) (c1 + c3 + c5) (c1 + c3 + c5 + c7)) i := by rw [hu86]; exact own_fill hf14 rfl
  have Vdoc : Arv Z h86 b11 k11 .int (own_N 15) (own_V (own_D p2 c1 (c1 + c3) (c1 + c3 + c5) (c1 + c3 + c5 + c7)) 15) (.int (0 : Int32)) := by
    have q := V86
    rw [own_V_congr (n := 15) hf15] at q
    exact q
  refine own_go (B := T86.setTop (mkF m 368 (LS_IIIIIIIIIIIIIIIRuuuuu p0 p1 p2 p3 (own_N nn) (own_N c1) (own_N c3) (own_N c5) (own_N c7) (own_N c9) (own_N c1) (own_N (c1 + c3)) (own_N (c1 + c3 + c5)) (own_N (c1 + c3 + c5 + c7)) (own_N (c1 + c3 + c5 + c7 + c9)) b11) [(.int (15 : Int32))])) (fun t k => ?_) ?_
  · refine XS.bipush Y86.here hx rfl (hb hby at_366) ?_
    exact k
  obtain ⟨T87, h87, k87, X87, e87, E87, A87, Ex87, st87⟩ := newPE Y86 hx hZ (hw _ (List.mem_of_getElem? (i := 5) rfl)) e86 (g := (mkF m 368 (LS_IIIIIIIIIIIIIIIRuuuuu p0 p1 p2 p3 (own_N nn) (own_N c1) (own_N c3) (own_N c5) (own_N c7) (own_N c9) (own_N c1) (own_N (c1 + c3)) (own_N (c1 + c3 + c5)) (own_N (c1 + c3 + c5 + c7)) (own_N (c1 + c3 + c5 + c7 + c9)) b11) [(.int (15 : Int32))])) rfl (hb hby at_368) rfl (by decide) (cap := 15) (by decide) (by decide) (by decide) (by decide) (ad := "[I") rfl
  obtain ⟨b87, g87⟩ : ∃ z, z = h86.size := ⟨_, rfl⟩
  rw [← g87] at A87 Ex87 st87
  have Z0_v88 := Nat.le_trans Z0_v82 (Nat.le_of_eq W86.size.symm)
  have g_b87 : n0 ≤ b87 := Nat.le_trans Z0_v88 (Nat.le_of_eq g87.symm)
  have V87 : Arv Z h87 b87 k87 .int (own_N 15) (own_V (fun _ => 0) 15) (.int (0 : Int32)) := own_newV (Arv.new A87 (by decide))
  refine own_go (B := T87.setTop (mkF m 370 (LS_IIIIIIIIIIIIIIIRuuuuu p0 p1 p2 p3 (own_N nn) (own_N c1) (own_N c3) (own_N c5) (own_N c7) (own_N c9) (own_N c1) (own_N (c1 + c3)) (own_N (c1 + c3 + c5)) (own_N (c1 + c3 + c5 + c7)) (own_N (c1 + c3 + c5 + c7 + c9)) b11) [(.ref b87)])) (fun t k => st87 _ k) ?_
  refine own_go (B := T87.setTop (mkF m 373 (LS_IIIIIIIIIIIIIIIRuuuuu p0 p1 p2 p3 (own_N nn) (own_N c1) (own_N c3) (own_N c5) (own_N c7) (own_N c9) (own_N c1) (own_N (c1 + c3)) (own_N (c1 + c3 + c5)) (own_N (c1 + c3 + c5 + c7)) (own_N (c1 + c3 + c5 + c7 + c9)) b11) [(.int (0 : Int32)), (.int (0 : Int32)), (.ref b87), (.ref b87)])) (fun t k => ?_) ?_
  · refine XS.dup X87.here hx rfl (hb hby at_370) rfl rfl ?_
    refine XS.iconst X87.here hx rfl (hb hby at_371) ?_
    show Steps p.tables e below (T87.setTop (mkF m 372 (LS_IIIIIIIIIIIIIIIRuuuuu p0 p1 p2 p3 (own_N nn) (own_N c1) (own_N c3) (own_N c5) (own_N c7) (own_N c9) (own_N c1) (own_N (c1 + c3)) (own_N (c1 + c3 + c5)) (own_N (c1 + c3 + c5 + c7)) (own_N (c1 + c3 + c5 + c7 + c9)) b11) [(.int (0 : Int32)), (.ref b87), (.ref b87)])) _
    refine XS.iconst X87.here hx rfl (hb hby at_372) ?_
    exact k
  obtain ⟨cl89, Ar89, qa89, Sa89, Na89, Ha89, Ga89⟩ := id V87
  have hin90 : ¬ ((0 : Int32) < 0 ∨ cl89.slots.size ≤ ((0 : Int32)).toNatClampNeg) := own_inb (X := 0) Sa89 (by decide) (by decide)
  obtain ⟨T90, h90, X90, e90, W90, st90⟩ := stI X87 hx hZ e87 Ar89 (j := (0 : Int32)) hin90 (g := (mkF m 373 (LS_IIIIIIIIIIIIIIIRuuuuu p0 p1 p2 p3 (own_N nn) (own_N c1) (own_N c3) (own_N c5) (own_N c7) (own_N c9) (own_N c1) (own_N (c1 + c3)) (own_N (c1 + c3 + c5)) (own_N (c1 + c3 + c5 + c7)) (own_N (c1 + c3 + c5 + c7 + c9)) b11) [(.int (0 : Int32)), (.int (0 : Int32)), (.ref b87), (.ref b87)])) rfl rfl (hb hby at_373)
  have N90 := Fr.snoc X90 M86 g_b87
  have V90 : Arv Z h90 b87 k87 .int (own_N 15) (own_V (own_up (fun _ => 0) 0 (0 : Int32)) 15) (.int (0 : Int32)) := own_setV (X := 0) Ar89 qa89 Sa89 Na89 Ha89 Ga89 W90 (by decide) (by decide)
  obtain ⟨u90, hu90⟩ : ∃ z, z = (own_up (fun _ => 0) 0 (0 : Int32)) := ⟨_, rfl⟩
  rw [← hu90] at V90
  refine own_hide X90 N90 fun lc90 Y90 M90 => ?_
  refine own_go (B := T90.setTop (mkF m 374 (LS_IIIIIIIIIIIIIIIRuuuuu p0 p1 p2 p3 (own_N nn) (own_N c1) (own_N c3) (own_N c5) (own_N c7) (own_N c9) (own_N c1) (own_N (c1 + c3)) (own_N (c1 + c3 + c5)) (own_N (c1 + c3 + c5 + c7)) (own_N (c1 + c3 + c5 + c7 + c9)) b11) [(.ref b87)])) (fun t k => st90 _ k) ?_
  refine own_go (B := T90.setTop (mkF m 377 (LS_IIIIIIIIIIIIIIIRuuuuu p0 p1 p2 p3 (own_N nn) (own_N c1) (own_N c3) (own_N c5) (own_N c7) (own_N c9) (own_N c1) (own_N (c1 + c3)) (own_N (c1 + c3 + c5)) (own_N (c1 + c3 + c5 + c7)) (own_N (c1 + c3 + c5 + c7 + c9)) b11) [(.int (1 : Int32)), (.int (1 : Int32)), (.ref b87), (.ref b87)])) (fun t k => ?_) ?_
  · refine XS.dup Y90.here hx rfl (hb hby at_374) rfl rfl ?_
    refine XS.iconst Y90.here hx rfl (hb hby at_375) ?_
    show Steps p.tables e below (T90.setTop (mkF m 376 (LS_IIIIIIIIIIIIIIIRuuuuu p0 p1 p2 p3 (own_N nn) (own_N c1) (own_N c3) (own_N c5) (own_N c7) (own_N c9) (own_N c1) (own_N (c1 + c3)) (own_N (c1 + c3 + c5)) (own_N (c1 + c3 + c5 + c7)) (own_N (c1 + c3 + c5 + c7 + c9)) b11) [(.int (1 : Int32)), (.ref b87), (.ref b87)])) _
    refine XS.iconst Y90.here hx rfl (hb hby at_376) ?_
    exact k
  obtain ⟨cl91, Ar91, qa91, Sa91, Na91, Ha91, Ga91⟩ := id V90
  have hin92 : ¬ ((1 : Int32) < 0 ∨ cl91.slots.size ≤ ((1 : Int32)).toNatClampNeg) := own_inb (X := 1) Sa91 (by decide) (by decide)
  obtain ⟨T92, h92, X92, e92, W92, st92⟩ := stI Y90 hx hZ e90 Ar91 (j := (1 : Int32)) hin92 (g := (mkF m 377 (LS_IIIIIIIIIIIIIIIRuuuuu p0 p1 p2 p3 (own_N nn) (own_N c1) (own_N c3) (own_N c5) (own_N c7) (own_N c9) (own_N c1) (own_N (c1 + c3)) (own_N (c1 + c3 + c5)) (own_N (c1 + c3 + c5 + c7)) (own_N (c1 + c3 + c5 + c7 + c9)) b11) [(.int (1 : Int32)), (.int (1 : Int32)), (.ref b87), (.ref b87)])) rfl rfl (hb hby at_377)
  have N92 := Fr.snoc X92 M90 g_b87
  have V92 : Arv Z h92 b87 k87 .int (own_N 15) (own_V (own_up u90 1 (1 : Int32)) 15) (.int (0 : Int32)) := own_setV (X := 1) Ar91 qa91 Sa91 Na91 Ha91 Ga91 W92 (by decide) (by decide)
  obtain ⟨u92, hu92⟩ : ∃ z, z = (own_up u90 1 (1 : Int32)) := ⟨_, rfl⟩
  rw [← hu92] at V92
  refine own_hide X92 N92 fun lc92 Y92 M92 => ?_
  refine own_go (B := T92.setTop (mkF m 378 (LS_IIIIIIIIIIIIIIIRuuuuu p0 p1 p2 p3 (own_N nn) (own_N c1) (own_N c3) (own_N c5) (own_N c7) (own_N c9) (own_N c1) (own_N (c1 + c3)) (own_N (c1 + c3 + c5)) (own_N (c1 + c3 + c5 + c7)) (own_N (c1 + c3 + c5 + c7 + c9)) b11) [(.ref b87)])) (fun t k => st92 _ k) ?_
  refine own_go (B := T92.setTop (mkF m 381 (LS_IIIIIIIIIIIIIIIRuuuuu p0 p1 p2 p3 (own_N nn) (own_N c1) (own_N c3) (own_N c5) (own_N c7) (own_N c9) (own_N c1) (own_N (c1 + c3)) (own_N (c1 + c3 + c5)) (own_N (c1 + c3 + c5 + c7)) (own_N (c1 + c3 + c5 + c7 + c9)) b11) [(.int (2 : Int32)), (.int (2 : Int32)), (.ref b87), (.ref b87)])) (fun t k => ?_) ?_
  · refine XS.dup Y92.here hx rfl (hb hby at_378) rfl rfl ?_
    refine XS.iconst Y92.here hx rfl (hb hby at_379) ?_
    show Steps p.tables e below (T92.setTop (mkF m 380 (LS_IIIIIIIIIIIIIIIRuuuuu p0 p1 p2 p3 (own_N nn) (own_N c1) (own_N c3) (own_N c5) (own_N c7) (own_N c9) (own_N c1) (own_N (c1 + c3)) (own_N (c1 + c3 + c5)) (own_N (c1 + c3 + c5 + c7)) (own_N (c1 + c3 + c5 + c7 + c9)) b11) [(.int (2 : Int32)), (.ref b87), (.ref b87)])) _
    refine XS.iconst Y92.here hx rfl (hb hby at_380) ?_
    exact k
  obtain ⟨cl93, Ar93, qa93, Sa93, Na93, Ha93, Ga93⟩ := id V92
  have hin94 : ¬ ((2 : Int32) < 0 ∨ cl93.slots.size ≤ ((2 : Int32)).toNatClampNeg) := own_inb (X := 2) Sa93 (by decide) (by decide)
  obtain ⟨T94, h94, X94, e94, W94, st94⟩ := stI Y92 hx hZ e92 Ar93 (j := (2 : Int32)) hin94 (g := (mkF m 381 (LS_IIIIIIIIIIIIIIIRuuuuu p0 p1 p2 p3 (own_N nn) (own_N c1) (own_N c3) (own_N c5) (own_N c7) (own_N c9) (own_N c1) (own_N (c1 + c3)) (own_N (c1 + c3 + c5)) (own_N (c1 + c3 + c5 + c7)) (own_N (c1 + c3 + c5 + c7 + c9)) b11) [(.int (2 : Int32)), (.int (2 : Int32)), (.ref b87), (.ref b87)])) rfl rfl (hb hby at_381)
  have N94 := Fr.snoc X94 M92 g_b87
  have V94 : Arv Z h94 b87 k87 .int (own_N 15) (own_V (own_up u92 2 (2 : Int32)) 15) (.int (0 : Int32)) := own_setV (X := 2) Ar93 qa93 Sa93 Na93 Ha93 Ga93 W94 (by decide) (by decide)
  obtain ⟨u94, hu94⟩ : ∃ z, z = (own_up u92 2 (2 : Int32)) := ⟨_, rfl⟩
  rw [← hu94] at V94
  refine own_hide X94 N94 fun lc94 Y94 M94 => ?_
  refine own_go (B := T94.setTop (mkF m 382 (LS_IIIIIIIIIIIIIIIRuuuuu p0 p1 p2 p3 (own_N nn) (own_N c1) (own_N c3) (own_N c5) (own_N c7) (own_N c9) (own_N c1) (own_N (c1 + c3)) (own_N (c1 + c3 + c5)) (own_N (c1 + c3 + c5 + c7)) (own_N (c1 + c3 + c5 + c7 + c9)) b11) [(.ref b87)])) (fun t k => st94 _ k) ?_
  refine own_go (B := T94.setTop (mkF m 385 (LS_IIIIIIIIIIIIIIIRuuuuu p0 p1 p2 p3 (own_N nn) (own_N c1) (own_N c3) (own_N c5) (own_N c7) (own_N c9) (own_N c1) (own_N (c1 + c3)) (own_N (c1 + c3 + c5)) (own_N (c1 + c3 + c5 + c7)) (own_N (c1 + c3 + c5 + c7 + c9)) b11) [(.int (3 : Int32)), (.int (3 : Int32)), (.ref b87), (.ref b87)])) (fun t k => ?_) ?_
  · refine XS.dup Y94.here hx rfl (hb hby at_382) rfl rfl ?_
    refine XS.iconst Y94.here hx rfl (hb hby at_383) ?_
    show Steps p.tables e below (T94.setTop (mkF m 384 (LS_IIIIIIIIIIIIIIIRuuuuu p0 p1 p2 p3 (own_N nn) (own_N c1) (own_N c3) (own_N c5) (own_N c7) (own_N c9) (own_N c1) (own_N (c1 + c3)) (own_N (c1 + c3 + c5)) (own_N (c1 + c3 + c5 + c7)) (own_N (c1 + c3 + c5 + c7 + c9)) b11) [(.int (3 : Int32)), (.ref b87), (.ref b87)])) _
    refine XS.iconst Y94.here hx rfl (hb hby at_384) ?_
    exact k
  obtain ⟨cl95, Ar95, qa95, Sa95, Na95, Ha95, Ga95⟩ := id V94
  have hin96 : ¬ ((3 : Int32) < 0 ∨ cl95.slots.size ≤ ((3 : Int32)).toNatClampNeg) := own_inb (X := 3) Sa95 (by decide) (by decide)
  obtain ⟨T96, h96, X96, e96, W96, st96⟩ := stI Y94 hx hZ e94 Ar95 (j := (3 : Int32)) hin96 (g := (mkF m 385 (LS_IIIIIIIIIIIIIIIRuuuuu p0 p1 p2 p3 (own_N nn) (own_N c1) (own_N c3) (own_N c5) (own_N c7) (own_N c9) (own_N c1) (own_N (c1 + c3)) (own_N (c1 + c3 + c5)) (own_N (c1 + c3 + c5 + c7)) (own_N (c1 + c3 + c5 + c7 + c9)) b11) [(.int (3 : Int32)), (.int (3 : Int32)), (.ref b87), (.ref b87)])) rfl rfl (hb hby at_385)
  have N96 := Fr.snoc X96 M94 g_b87
  have V96 : Arv Z h96 b87 k87 .int (own_N 15) (own_V (own_up u94 3 (3 : Int32)) 15) (.int (0 : Int32)) := own_setV (X := 3) Ar95 qa95 Sa95 Na95 Ha95 Ga95 W96 (by decide) (by decide)
  obtain ⟨u96, hu96⟩ : ∃ z, z = (own_up u94 3 (3 : Int32)) := ⟨_, rfl⟩
  rw [← hu96] at V96
  refine own_hide X96 N96 fun lc96 Y96 M96 => ?_
  refine own_go (B := T96.setTop (mkF m 386 (LS_IIIIIIIIIIIIIIIRuuuuu p0 p1 p2 p3 (own_N nn) (own_N c1) (own_N c3) (own_N c5) (own_N c7) (own_N c9) (own_N c1) (own_N (c1 + c3)) (own_N (c1 + c3 + c5)) (own_N (c1 + c3 + c5 + c7)) (own_N (c1 + c3 + c5 + c7 + c9)) b11) [(.ref b87)])) (fun t k => st96 _ k) ?_
  refine own_go (B := T96.setTop (mkF m 389 (LS_IIIIIIIIIIIIIIIRuuuuu p0 p1 p2 p3 (own_N nn) (own_N c1) (own_N c3) (own_N c5) (own_N c7) (own_N c9) (own_N c1) (own_N (c1 + c3)) (own_N (c1 + c3 + c5)) (own_N (c1 + c3 + c5 + c7)) (own_N (c1 + c3 + c5 + c7 + c9)) b11) [(.int (4 : Int32)), (.int (4 : Int32)), (.ref b87), (.ref b87)])) (fun t k => ?_) ?_
  · refine XS.dup Y96.here hx rfl (hb hby at_386) rfl rfl ?_
    refine XS.iconst Y96.here hx rfl (hb hby at_387) ?_
    show Steps p.tables e below (T96.setTop (mkF m 388 (LS_IIIIIIIIIIIIIIIRuuuuu p0 p1 p2 p3 (own_N nn) (own_N c1) (own_N c3) (own_N c5) (own_N c7) (own_N c9) (own_N c1) (own_N (c1 + c3)) (own_N (c1 + c3 + c5)) (own_N (c1 + c3 + c5 + c7)) (own_N (c1 + c3 + c5 + c7 + c9)) b11) [(.int (4 : Int32)), (.ref b87), (.ref b87)])) _
    refine XS.iconst Y96.here hx rfl (hb hby at_388) ?_
    exact k
  obtain ⟨cl97, Ar97, qa97, Sa97, Na97, Ha97, Ga97⟩ := id V96
  have hin98 : ¬ ((4 : Int32) < 0 ∨ cl97.slots.size ≤ ((4 : Int32)).toNatClampNeg) := own_inb (X := 4) Sa97 (by decide) (by decide)
  obtain ⟨T98, h98, X98, e98, W98, st98⟩ := stI Y96 hx hZ e96 Ar97 (j := (4 : Int32)) hin98 (g := (mkF m 389 (LS_IIIIIIIIIIIIIIIRuuuuu p0 p1 p2 p3 (own_N nn) (own_N c1) (own_N c3) (own_N c5) (own_N c7) (own_N c9) (own_N c1) (own_N (c1 + c3)) (own_N (c1 + c3 + c5)) (own_N (c1 + c3 + c5 + c7)) (own_N (c1 + c3 + c5 + c7 + c9)) b11) [(.int (4 : Int32)), (.int (4 : Int32)), (.ref b87), (.ref b87)])) rfl rfl (hb hby at_389)
  have N98 := Fr.snoc X98 M96 g_b87
  have V98 : Arv Z h98 b87 k87 .int (own_N 15) (own_V (own_up u96 4 (4 : Int32)) 15) (.int (0 : Int32)) := own_setV (X := 4) Ar97 qa97 Sa97 Na97 Ha97 Ga97 W98 (by decide) (by decide)
  obtain ⟨u98, hu98⟩ : ∃ z, z = (own_up u96 4 (4 : Int32)) := ⟨_, rfl⟩
  rw [← hu98] at V98
  refine own_hide X98 N98 fun lc98 Y98 M98 => ?_
  refine own_go (B := T98.setTop (mkF m 390 (LS_IIIIIIIIIIIIIIIRuuuuu p0 p1 p2 p3 (own_N nn) (own_N c1) (own_N c3) (own_N c5) (own_N c7) (own_N c9) (own_N c1) (own_N (c1 + c3)) (own_N (c1 + c3 + c5)) (own_N (c1 + c3 + c5 + c7)) (own_N (c1 + c3 + c5 + c7 + c9)) b11) [(.ref b87)])) (fun t k => st98 _ k) ?_
  refine own_go (B := T98.setTop (mkF m 393 (LS_IIIIIIIIIIIIIIIRuuuuu p0 p1 p2 p3 (own_N nn) (own_N c1) (own_N c3) (own_N c5) (own_N c7) (own_N c9) (own_N c1) (own_N (c1 + c3)) (own_N (c1 + c3 + c5)) (own_N (c1 + c3 + c5 + c7)) (own_N (c1 + c3 + c5 + c7 + c9)) b11) [(.int (5 : Int32)), (.int (5 : Int32)), (.ref b87), (.ref b87)])) (fun t k => ?_) ?_
  · refine XS.dup Y98.here hx rfl (hb hby at_390) rfl rfl ?_
    refine XS.iconst Y98.here hx rfl (hb hby at_391) ?_
    show Steps p.tables e below (T98.setTop (mkF m 392 (LS_IIIIIIIIIIIIIIIRuuuuu p0 p1 p2 p3 (own_N nn) (own_N c1) (own_N c3) (own_N c5) (own_N c7) (own_N c9) (own_N c1) (own_N (c1 + c3)) (own_N (c1 + c3 + c5)) (own_N (c1 + c3 + c5 + c7)) (own_N (c1 + c3 + c5 + c7 + c9)) b11) [(.int (5 : Int32)), (.ref b87), (.ref b87)])) _
    refine XS.iconst Y98.here hx rfl (hb hby at_392) ?_
    exact k
  obtain ⟨cl99, Ar99, qa99, Sa99, Na99, Ha99, Ga99⟩ := id V98
  have hin100 : ¬ ((5 : Int32) < 0 ∨ cl99.slots.size ≤ ((5 : Int32)).toNatClampNeg) := own_inb (X := 5) Sa99 (by decide) (by decide)
  obtain ⟨T100, h100, X100, e100, W100, st100⟩ := stI Y98 hx hZ e98 Ar99 (j := (5 : Int32)) hin100 (g := (mkF m 393 (LS_IIIIIIIIIIIIIIIRuuuuu p0 p1 p2 p3 (own_N nn) (own_N c1) (own_N c3) (own_N c5) (own_N c7) (own_N c9) (own_N c1) (own_N (c1 + c3)) (own_N (c1 + c3 + c5)) (own_N (c1 + c3 + c5 + c7)) (own_N (c1 + c3 + c5 + c7 + c9)) b11) [(.int (5 : Int32)), (.int (5 : Int32)), (.ref b87), (.ref b87)])) rfl rfl (hb hby at_393)
  have N100 := Fr.snoc X100 M98 g_b87
  have V100 : Arv Z h100 b87 k87 .int (own_N 15) (own_V (own_up u98 5 (5 : Int32)) 15) (.int (0 : Int32)) := own_setV (X := 5) Ar99 qa99 Sa99 Na99 Ha99 Ga99 W100 (by decide) (by decide)
  obtain ⟨u100, hu100⟩ : ∃ z, z = (own_up u98 5 (5 : Int32)) := ⟨_, rfl⟩
  rw [← hu100] at V100
  refine own_hide X100 N100 fun lc100 Y100 M100 => ?_
  refine own_go (B := T100.setTop (mkF m 394 (LS_IIIIIIIIIIIIIIIRuuuuu p0 p1 p2 p3 (own_N nn) (own_N c1) (own_N c3) (own_N c5) (own_N c7) (own_N c9) (own_N c1) (own_N (c1 + c3)) (own_N (c1 + c3 + c5)) (own_N (c1 + c3 + c5 + c7)) (own_N (c1 + c3 + c5 + c7 + c9)) b11) [(.ref b87)])) (fun t k => st100 _ k) ?_
  refine own_go (B := T100.setTop (mkF m 399 (LS_IIIIIIIIIIIIIIIRuuuuu p0 p1 p2 p3 (own_N nn) (own_N c1) (own_N c3) (own_N c5) (own_N c7) (own_N c9) (own_N c1) (own_N (c1 + c3)) (own_N (c1 + c3 + c5)) (own_N (c1 + c3 + c5 + c7)) (own_N (c1 + c3 + c5 + c7 + c9)) b11) [(.int (6 : Int32)), (.int (6 : Int32)), (.ref b87), (.ref b87)])) (fun t k => ?_) ?_
  · refine XS.dup Y100.here hx rfl (hb hby at_394) rfl rfl ?_
    refine XS.bipush Y100.here hx rfl (hb hby at_395) ?_
    show Steps p.tables e below (T100.setTop (mkF m 397 (LS_IIIIIIIIIIIIIIIRuuuuu p0 p1 p2 p3 (own_N nn) (own_N c1) (own_N c3) (own_N c5) (own_N c7) (own_N c9) (own_N c1) (own_N (c1 + c3)) (own_N (c1 + c3 + c5)) (own_N (c1 + c3 + c5 + c7)) (own_N (c1 + c3 + c5 + c7 + c9)) b11) [(.int (6 : Int32)), (.ref b87), (.ref b87)])) _
    refine XS.bipush Y100.here hx rfl (hb hby at_397) ?_
    exact k
  obtain ⟨cl101, Ar101, qa101, Sa101, Na101, Ha101, Ga101⟩ := id V100
  have hin102 : ¬ ((6 : Int32) < 0 ∨ cl101.slots.size ≤ ((6 : Int32)).toNatClampNeg) := own_inb (X := 6) Sa101 (by decide) (by decide)
  obtain ⟨T102, h102, X102, e102, W102, st102⟩ := stI Y100 hx hZ e100 Ar101 (j := (6 : Int32)) hin102 (g := (mkF m 399 (LS_IIIIIIIIIIIIIIIRuuuuu p0 p1 p2 p3 (own_N nn) (own_N c1) (own_N c3) (own_N c5) (own_N c7) (own_N c9) (own_N c1) (own_N (c1 + c3)) (own_N (c1 + c3 + c5)) (own_N (c1 + c3 + c5 + c7)) (own_N (c1 + c3 + c5 + c7 + c9)) b11) [(.int (6 : Int32)), (.int (6 : Int32)), (.ref b87), (.ref b87)])) rfl rfl (hb hby at_399)
  have N102 := Fr.snoc X102 M100 g_b87
  have V102 : Arv Z h102 b87 k87 .int (own_N 15) (own_V (own_up u100 6 (6 : Int32)) 15) (.int (0 : Int32)) := own_setV (X := 6) Ar101 qa101 Sa101 Na101 Ha101 Ga101 W102 (by decide) (by decide)
  obtain ⟨u102, hu102⟩ : ∃ z, z = (own_up u100 6 (6 : Int32)) := ⟨_, rfl⟩
  rw [← hu102] at V102
  refine own_hide X102 N102 fun lc102 Y102 M102 => ?_
  refine own_go (B := T102.setTop (mkF m 400 (LS_IIIIIIIIIIIIIIIRuuuuu p0 p1 p2 p3 (own_N nn) (own_N c1) (own_N c3) (own_N c5) (own_N c7) (own_N c9) (own_N c1) (own_N (c1 + c3)) (own_N (c1 + c3 + c5)) (own_N (c1 + c3 + c5 + c7)) (own_N (c1 + c3 + c5 + c7 + c9)) b11) [(.ref b87)])) (fun t k => st102 _ k) ?_
  refine own_go (B := T102.setTop (mkF m 405 (LS_IIIIIIIIIIIIIIIRuuuuu p0 p1 p2 p3 (own_N nn) (own_N c1) (own_N c3) (own_N c5) (own_N c7) (own_N c9) (own_N c1) (own_N (c1 + c3)) (own_N (c1 + c3 + c5)) (own_N (c1 + c3 + c5 + c7)) (own_N (c1 + c3 + c5 + c7 + c9)) b11) [(.int (7 : Int32)), (.int (7 : Int32)), (.ref b87), (.ref b87)])) (fun t k => ?_) ?_
  · refine XS.dup Y102.here hx rfl (hb hby at_400) rfl rfl ?_
    refine XS.bipush Y102.here hx rfl (hb hby at_401) ?_
    show Steps p.tables e below (T102.setTop (mkF m 403 (LS_IIIIIIIIIIIIIIIRuuuuu p0 p1 p2 p3 (own_N nn) (own_N c1) (own_N c3) (own_N c5) (own_N c7) (own_N c9) (own_N c1) (own_N (c1 + c3)) (own_N (c1 + c3 + c5)) (own_N (c1 + c3 + c5 + c7)) (own_N (c1 + c3 + c5 + c7 + c9)) b11) [(.int (7 : Int32)), (.ref b87), (.ref b87)])) _
    refine XS.bipush Y102.here hx rfl (hb hby at_403) ?_
    exact k
  obtain ⟨cl103, Ar103, qa103, Sa103, Na103, Ha103, Ga103⟩ := id V102
  have hin104 : ¬ ((7 : Int32) < 0 ∨ cl103.slots.size ≤ ((7 : Int32)).toNatClampNeg) := own_inb (X := 7) Sa103 (by decide) (by decide)
  obtain ⟨T104, h104, X104, e104, W104, st104⟩ := stI Y102 hx hZ e102 Ar103 (j := (7 : Int32)) hin104 (g := (mkF m 405 (LS_IIIIIIIIIIIIIIIRuuuuu p0 p1 p2 p3 (own_N nn) (own_N c1) (own_N c3) (own_N c5) (own_N c7) (own_N c9) (own_N c1) (own_N (c1 + c3)) (own_N (c1 + c3 + c5)) (own_N (c1 + c3 + c5 + c7)) (own_N (c1 + c3 + c5 + c7 + c9)) b11) [(.int (7 : Int32)), (.int (7 : Int32)), (.ref b87), (.ref b87)])) rfl rfl (hb hby at_405)
  have N104 := Fr.snoc X104 M102 g_b87
  have V104 : Arv Z h104 b87 k87 .int (own_N 15) (own_V (own_up u102 7 (7 : Int32)) 15) (.int (0 : Int32)) := own_setV (X := 7) Ar103 qa103 Sa103 Na103 Ha103 Ga103 W104 (by decide) (by decide)
  obtain ⟨u104, hu104⟩ : ∃ z, z = (own_up u102 7 (7 : Int32)) := ⟨_, rfl⟩
  rw [← hu104] at V104
  refine own_hide X104 N104 fun lc104 Y104 M104 => ?_
  refine own_go (B := T104.setTop (mkF m 406 (LS_IIIIIIIIIIIIIIIRuuuuu p0 p1 p2 p3 (own_N nn) (own_N c1) (own_N c3) (own_N c5) (own_N c7) (own_N c9) (own_N c1) (own_N (c1 + c3)) (own_N (c1 + c3 + c5)) (own_N (c1 + c3 + c5 + c7)) (own_N (c1 + c3 + c5 + c7 + c9)) b11) [(.ref b87)])) (fun t k => st104 _ k) ?_
  refine own_go (B := T104.setTop (mkF m 411 (LS_IIIIIIIIIIIIIIIRuuuuu p0 p1 p2 p3 (own_N nn) (own_N c1) (own_N c3) (own_N c5) (own_N c7) (own_N c9) (own_N c1) (own_N (c1 + c3)) (own_N (c1 + c3 + c5)) (own_N (c1 + c3 + c5 + c7)) (own_N (c1 + c3 + c5 + c7 + c9)) b11) [(.int (8 : Int32)), (.int (8 : Int32)), (.ref b87), (.ref b87)])) (fun t k => ?_) ?_
  · refine XS.dup Y104.here hx rfl (hb hby at_406) rfl rfl ?_
    refine XS.bipush Y104.here hx rfl (hb hby at_407) ?_
    show Steps p.tables e below (T104.setTop (mkF m 409 (LS_IIIIIIIIIIIIIIIRuuuuu p0 p1 p2 p3 (own_N nn) (own_N c1) (own_N c3) (own_N c5) (own_N c7) (own_N c9) (own_N c1) (own_N (c1 + c3)) (own_N (c1 + c3 + c5)) (own_N (c1 + c3 + c5 + c7)) (own_N (c1 + c3 + c5 + c7 + c9)) b11) [(.int (8 : Int32)), (.ref b87), (.ref b87)])) _
    refine XS.bipush Y104.here hx rfl (hb hby at_409) ?_
    exact k
  obtain ⟨cl105, Ar105, qa105, Sa105, Na105, Ha105, Ga105⟩ := id V104
  have hin106 : ¬ ((8 : Int32) < 0 ∨ cl105.slots.size ≤ ((8 : Int32)).toNatClampNeg) := own_inb (X := 8) Sa105 (by decide) (by decide)
  obtain ⟨T106, h106, X106, e106, W106, st106⟩ := stI Y104 hx hZ e104 Ar105 (j := (8 : Int32)) hin106 (g := (mkF m 411 (LS_IIIIIIIIIIIIIIIRuuuuu p0 p1 p2 p3 (own_N nn) (own_N c1) (own_N c3) (own_N c5) (own_N c7) (own_N c9) (own_N c1) (own_N (c1 + c3)) (own_N (c1 + c3 + c5)) (own_N (c1 + c3 + c5 + c7)) (own_N (c1 + c3 + c5 + c7 + c9)) b11) [(.int (8 : Int32)), (.int (8 : Int32)), (.ref b87), (.ref b87)])) rfl rfl (hb hby at_411)
  have N106 := Fr.snoc X106 M104 g_b87
  have V106 : Arv Z h106 b87 k87 .int (own_N 15) (own_V (own_up u104 8 (8 : Int32)) 15) (.int (0 : Int32)) := own_setV (X := 8) Ar105 qa105 Sa105 Na105 Ha105 Ga105 W106 (by decide) (by decide)
  obtain ⟨u106, hu106⟩ : ∃ z, z = (own_up u104 8 (8 : Int32)) := ⟨_, rfl⟩
  rw [← hu106] at V106
  refine own_hide X106 N106 fun lc106 Y106 M106 => ?_
  refine own_go (B := T106.setTop (mkF m 412 (LS_IIIIIIIIIIIIIIIRuuuuu p0 p1 p2 p3 (own_N nn) (own_N c1) (own_N c3) (own_N c5) (own_N c7) (own_N c9) (own_N c1) (own_N (c1 + c3)) (own_N (c1 + c3 + c5)) (own_N (c1 + c3 + c5 + c7)) (own_N (c1 + c3 + c5 + c7 + c9)) b11) [(.ref b87)])) (fun t k => st106 _ k) ?_
  refine own_go (B := T106.setTop (mkF m 417 (LS_IIIIIIIIIIIIIIIRuuuuu p0 p1 p2 p3 (own_N nn) (own_N c1) (own_N c3) (own_N c5) (own_N c7) (own_N c9) (own_N c1) (own_N (c1 + c3)) (own_N (c1 + c3 + c5)) (own_N (c1 + c3 + c5 + c7)) (own_N (c1 + c3 + c5 + c7 + c9)) b11) [(.int (9 : Int32)), (.int (9 : Int32)), (.ref b87), (.ref b87)])) (fun t k => ?_) ?_
  · refine XS.dup Y106.here hx rfl (hb hby at_412) rfl rfl ?_
    refine XS.bipush Y106.here hx rfl (hb hby at_413) ?_
    show Steps p.tables e below (T106.setTop (mkF m 415 (LS_IIIIIIIIIIIIIIIRuuuuu p0 p1 p2 p3 (own_N nn) (own_N c1) (own_N c3) (own_N c5) (own_N c7) (own_N c9) (own_N c1) (own_N (c1 + c3)) (own_N (c1 + c3 + c5)) (own_N (c1 + c3 + c5 + c7)) (own_N (c1 + c3 + c5 + c7 + c9)) b11) [(.int (9 : Int32)), (.ref b87), (.ref b87)])) _
    refine XS.bipush Y106.here hx rfl (hb hby at_415) ?_
    exact k
  obtain ⟨cl107, Ar107, qa107, Sa107, Na107, Ha107, Ga107⟩ := id V106
  have hin108 : ¬ ((9 : Int32) < 0 ∨ cl107.slots.size ≤ ((9 : Int32)).toNatClampNeg) := own_inb (X := 9) Sa107 (by decide) (by decide)
  obtain ⟨T108, h108, X108, e108, W108, st108⟩ := stI Y106 hx hZ e106 Ar107 (j := (9 : Int32)) hin108 (g := (mkF m 417 (LS_IIIIIIIIIIIIIIIRuuuuu p0 p1 p2 p3 (own_N nn) (own_N c1) (own_N c3) (own_N c5) (own_N c7) (own_N c9) (own_N c1) (own_N (c1 + c3)) (own_N (c1 + c3 + c5)) (own_N (c1 + c3 + c5 + c7)) (own_N (c1 + c3 + c5 + c7 + c9)) b11) [(.int (9 : Int32)), (.int (9 : Int32)), (.ref b87), (.ref b87)])) rfl rfl (hb hby at_417)
  have N108 := Fr.snoc X108 M106 g_b87
  have V108 : Arv Z h108 b87 k87 .int (own_N 15) (own_V (own_up u106 9 (9 : Int32)) 15) (.int (0 : Int32)) := own_setV (X := 9) Ar107 qa107 Sa107 Na107 Ha107 Ga107 W108 (by decide) (by decide)
  obtain ⟨u108, hu108⟩ : ∃ z, z = (own_up u106 9 (9 : Int32)) := ⟨_, rfl⟩
  rw [← hu108] at V108
  refine own_hide X108 N108 fun lc108 Y108 M108 => ?_
  refine own_go (B := T108.setTop (mkF m 418 (LS_IIIIIIIIIIIIIIIRuuuuu p0 p1 p2 p3 (own_N nn) (own_N c1) (own_N c3) (own_N c5) (own_N c7) (own_N c9) (own_N c1) (own_N (c1 + c3)) (own_N (c1 + c3 + c5)) (own_N (c1 + c3 + c5 + c7)) (own_N (c1 + c3 + c5 + c7 + c9)) b11) [(.ref b87)])) (fun t k => st108 _ k) ?_
  refine own_go (B := T108.setTop (mkF m 423 (LS_IIIIIIIIIIIIIIIRuuuuu p0 p1 p2 p3 (own_N nn) (own_N c1) (own_N c3) (own_N c5) (own_N c7) (own_N c9) (own_N c1) (own_N (c1 + c3)) (own_N (c1 + c3 + c5)) (own_N (c1 + c3 + c5 + c7)) (own_N (c1 + c3 + c5 + c7 + c9)) b11) [(.int (10 : Int32)), (.int (10 : Int32)), (.ref b87), (.ref b87)])) (fun t k => ?_) ?_
  · refine XS.dup Y108.here hx rfl (hb hby at_418) rfl rfl ?_
    refine XS.bipush Y108.here hx rfl (hb hby at_419) ?_
    show Steps p.tables e below (T108.setTop (mkF m 421 (LS_IIIIIIIIIIIIIIIRuuuuu p0 p1 p2 p3 (own_N nn) (own_N c1) (own_N c3) (own_N c5) (own_N c7) (own_N c9) (own_N c1) (own_N (c1 + c3)) (own_N (c1 + c3 + c5)) (own_N (c1 + c3 + c5 + c7)) (own_N (c1 + c3 + c5 + c7 + c9)) b11) [(.int (10 : Int32)), (.ref b87), (.ref b87)])) _
    refine XS.bipush Y108.here hx rfl (hb hby at_421) ?_
    exact k
  obtain ⟨cl109, Ar109, qa109, Sa109, Na109, Ha109, Ga109⟩ := id V108
  have hin110 : ¬ ((10 : Int32) < 0 ∨ cl109.slots.size ≤ ((10 : Int32)).toNatClampNeg) := own_inb (X := 10) Sa109 (by decide) (by decide)
  obtain ⟨T110, h110, X110, e110, W110, st110⟩ := stI Y108 hx hZ e108 Ar109 (j := (10 : Int32)) hin110 (g := (mkF m 423 (LS_IIIIIIIIIIIIIIIRuuuuu p0 p1 p2 p3 (own_N nn) (own_N c1) (own_N c3) (own_N c5) (own_N c7) (own_N c9) (own_N c1) (own_N (c1 + c3)) (own_N (c1 + c3 + c5)) (own_N (c1 + c3 + c5 + c7)) (own_N (c1 + c3 + c5 + c7 + c9)) b11) [(.int (10 : Int32)), (.int (10 : Int32)), (.ref b87), (.ref b87)])) rfl rfl (hb hby at_423)
  have N110 := Fr.snoc X110 M108 g_b87
  have V110 : Arv Z h110 b87 k87 .int (own_N 15) (own_V (own_up u108 10 (10 : Int32)) 15) (.int (0 : Int32)) := own_setV (X := 10) Ar109 qa109 Sa109 Na109 Ha109 Ga109 W110 (by decide) (by decide)
  obtain ⟨u110, hu110⟩ : ∃ z, z = (own_up u108 10 (10 : Int32)) := ⟨_, rfl⟩
  rw [← hu110] at V110
  refine own_hide X110 N110 fun lc110 Y110 M110 => ?_
  refine own_go (B := T110.setTop (mkF m 424 (LS_IIIIIIIIIIIIIIIRuuuuu p0 p1 p2 p3 (own_N nn) (own_N c1) (own_N c3) (own_N c5) (own_N c7) (own_N c9) (own_N c1) (own_N (c1 + c3)) (own_N (c1 + c3 + c5)) (own_N (c1 + c3 + c5 + c7)) (own_N (c1 + c3 + c5 + c7 + c9)) b11) [(.ref b87)])) (fun t k => st110 _ k) ?_
  refine own_go (B := T110.setTop (mkF m 429 (LS_IIIIIIIIIIIIIIIRuuuuu p0 p1 p2 p3 (own_N nn) (own_N c1) (own_N c3) (own_N c5) (own_N c7) (own_N c9) (own_N c1) (own_N (c1 + c3)) (own_N (c1 + c3 + c5)) (own_N (c1 + c3 + c5 + c7)) (own_N (c1 + c3 + c5 + c7 + c9)) b11) [(.int (11 : Int32)), (.int (11 : Int32)), (.ref b87), (.ref b87)])) (fun t k => ?_) ?_
  · refine XS.dup Y110.here hx rfl (hb hby at_424) rfl rfl ?_
    refine XS.bipush Y110.here hx rfl (hb hby at_425) ?_
    show Steps p.tables e below (T110.setTop (mkF m 427 (LS_IIIIIIIIIIIIIIIRuuuuu p0 p1 p2 p3 (own_N nn) (own_N c1) (own_N c3) (own_N c5) (own_N c7) (own_N c9) (own_N c1) (own_N (c1 + c3)) (own_N (c1 + c3 + c5)) (own_N (c1 + c3 + c5 + c7)) (own_N (c1 + c3 + c5 + c7 + c9)) b11) [(.int (11 : Int32)), (.ref b87), (.ref b87)])) _
    refine XS.bipush Y110.here hx rfl (hb hby at_427) ?_
    exact k
  obtain ⟨cl111, Ar111, qa111, Sa111, Na111, Ha111, Ga111⟩ := id V110
  have hin112 : ¬ ((11 : Int32) < 0 ∨ cl111.slots.size ≤ ((11 : Int32)).toNatClampNeg) := own_inb (X := 11) Sa111 (by decide) (by decide)
  obtain ⟨T112, h112, X112, e112, W112, st112⟩ := stI Y110 hx hZ e110 Ar111 (j := (11 : Int32)) hin112 (g := (mkF m 429 (LS_IIIIIIIIIIIIIIIRuuuuu p0 p1 p2 p3 (own_N nn) (own_N c1) (own_N c3) (own_N c5) (own_N c7) (own_N c9) (own_N c1) (own_N (c1 + c3)) (own_N (c1 + c3 + c5)) (own_N (c1 + c3 + c5 + c7)) (own_N (c1 + c3 + c5 + c7 + c9)) b11) [(.int (11 : Int32)), (.int (11 : Int32)), (.ref b87), (.ref b87)])) rfl rfl (hb hby at_429)
  have N112 := Fr.snoc X112 M110 g_b87
  have V112 : Arv Z h112 b87 k87 .int (own_N 15) (own_V (own_up u110 11 (11 : Int32)) 15) (.int (0 : Int32)) := own_setV (X := 11) Ar111 qa111 Sa111 Na111 Ha111 Ga111 W112 (by decide) (by decide)
  obtain ⟨u112, hu112⟩ : ∃ z, z = (own_up u110 11 (11 : Int32)) := ⟨_, rfl⟩
  rw [← hu112] at V112
  refine own_hide X112 N112 fun lc112 Y112 M112 => ?_
  refine own_go (B := T112.setTop (mkF m 430 (LS_IIIIIIIIIIIIIIIRuuuuu p0 p1 p2 p3 (own_N nn) (own_N c1) (own_N c3) (own_N c5) (own_N c7) (own_N c9) (own_N c1) (own_N (c1 + c3)) (own_N (c1 + c3 + c5)) (own_N (c1 + c3 + c5 + c7)) (own_N (c1 + c3 + c5 + c7 + c9)) b11) [(.ref b87)])) (fun t k => st112 _ k) ?_
  refine own_go (B := T112.setTop (mkF m 435 (LS_IIIIIIIIIIIIIIIRuuuuu p0 p1 p2 p3 (own_N nn) (own_N c1) (own_N c3) (own_N c5) (own_N c7) (own_N c9) (own_N c1) (own_N (c1 + c3)) (own_N (c1 + c3 + c5)) (own_N (c1 + c3 + c5 + c7)) (own_N (c1 + c3 + c5 + c7 + c9)) b11) [(.int (12 : Int32)), (.int (12 : Int32)), (.ref b87), (.ref b87)])) (fun t k => ?_) ?_
  · refine XS.dup Y112.here hx rfl (hb hby at_430) rfl rfl ?_
    refine XS.bipush Y112.here hx rfl (hb hby at_431) ?_
    show Steps p.tables e below (T112.setTop (mkF m 433 (LS_IIIIIIIIIIIIIIIRuuuuu p0 p1 p2 p3 (own_N nn) (own_N c1) (own_N c3) (own_N c5) (own_N c7) (own_N c9) (own_N c1) (own_N (c1 + c3)) (own_N (c1 + c3 + c5)) (own_N (c1 + c3 + c5 + c7)) (own_N (c1 + c3 + c5 + c7 + c9)) b11) [(.int (12 : Int32)), (.ref b87), (.ref b87)])) _
    refine XS.bipush Y112.here hx rfl (hb hby at_433) ?_
    exact k
  obtain ⟨cl113, Ar113, qa113, Sa113, Na113, Ha113, Ga113⟩ := id V112
  have hin114 : ¬ ((12 : Int32) < 0 ∨ cl113.slots.size ≤ ((12 : Int32)).toNatClampNeg) := own_inb (X := 12) Sa113 (by decide) (by decide)
  obtain ⟨T114, h114, X114, e114, W114, st114⟩ := stI Y112 hx hZ e112 Ar113 (j := (12 : Int32)) hin114 (g := (mkF m 435 (LS_IIIIIIIIIIIIIIIRuuuuu p0 p1 p2 p3 (own_N nn) (own_N c1) (own_N c3) (own_N c5) (own_N c7) (own_N c9) (own_N c1) (own_N (c1 + c3)) (own_N (c1 + c3 + c5)) (own_N (c1 + c3 + c5 + c7)) (own_N (c1 + c3 + c5 + c7 + c9)) b11) [(.int (12 : Int32)), (.int (12 : Int32)), (.ref b87), (.ref b87)])) rfl rfl (hb hby at_435)
  have N114 := Fr.snoc X114 M112 g_b87
  have V114 : Arv Z h114 b87 k87 .int (own_N 15) (own_V (own_up u112 12 (12 : Int32)) 15) (.int (0 : Int32)) := own_setV (X := 12) Ar113 qa113 Sa113 Na113 Ha113 Ga113 W114 (by decide) (by decide)
  obtain ⟨u114, hu114⟩ : ∃ z, z = (own_up u112 12 (12 : Int32)) := ⟨_, rfl⟩
  rw [← hu114] at V114
  refine own_hide X114 N114 fun lc114 Y114 M114 => ?_
  refine own_go (B := T114.setTop (mkF m 436 (LS_IIIIIIIIIIIIIIIRuuuuu p0 p1 p2 p3 (own_N nn) (own_N c1) (own_N c3) (own_N c5) (own_N c7) (own_N c9) (own_N c1) (own_N (c1 + c3)) (own_N (c1 + c3 + c5)) (own_N (c1 + c3 + c5 + c7)) (own_N (c1 + c3 + c5 + c7 + c9)) b11) [(.ref b87)])) (fun t k => st114 _ k) ?_
  refine own_go (B := T114.setTop (mkF m 441 (LS_IIIIIIIIIIIIIIIRuuuuu p0 p1 p2 p3 (own_N nn) (own_N c1) (own_N c3) (own_N c5) (own_N c7) (own_N c9) (own_N c1) (own_N (c1 + c3)) (own_N (c1 + c3 + c5)) (own_N (c1 + c3 + c5 + c7)) (own_N (c1 + c3 + c5 + c7 + c9)) b11) [(.int (13 : Int32)), (.int (13 : Int32)), (.ref b87), (.ref b87)])) (fun t k => ?_) ?_
  · refine XS.dup Y114.here hx rfl (hb hby at_436) rfl rfl ?_
    refine XS.bipush Y114.here hx rfl (hb hby at_437) ?_
    show Steps p.tables e below (T114.setTop (mkF m 439 (LS_IIIIIIIIIIIIIIIRuuuuu p0 p1 p2 p3 (own_N nn) (own_N c1) (own_N c3) (own_N c5) (own_N c7) (own_N c9) (own_N c1) (own_N (c1 + c3)) (own_N (c1 + c3 + c5)) (own_N (c1 + c3 + c5 + c7)) (own_N (c1 + c3 + c5 + c7 + c9)) b11) [(.int (13 : Int32)), (.ref b87), (.ref b87)])) _
    refine XS.bipush Y114.here hx rfl (hb hby at_439) ?_
    exact k
  obtain ⟨cl115, Ar115, qa115, Sa115, Na115, Ha115, Ga115⟩ := id V114
  have hin116 : ¬ ((13 : Int32) < 0 ∨ cl115.slots.size ≤ ((13 : Int32)).toNatClampNeg) := own_inb (X := 13) Sa115 (by decide) (by decide)
  obtain ⟨T116, h116, X116, e116, W116, st116⟩ := stI Y114 hx hZ e114 Ar115 (j := (13 : Int32)) hin116 (g := (mkF m 441 (LS_IIIIIIIIIIIIIIIRuuuuu p0 p1 p2 p3 (own_N nn) (own_N c1) (own_N c3) (own_N c5) (own_N c7) (own_N c9) (own_N c1) (own_N (c1 + c3)) (own_N (c1 + c3 + c5)) (own_N (c1 + c3 + c5 + c7)) (own_N (c1 + c3 + c5 + c7 + c9)) b11) [(.int (13 : Int32)), (.int (13 : Int32)), (.ref b87), (.ref b87)])) rfl rfl (hb hby at_441)
  have N116 := Fr.snoc X116 M114 g_b87
  have V116 : Arv Z h116 b87 k87 .int (own_N 15) (own_V (own_up u114 13 (13 : Int32)) 15) (.int (0 : Int32)) := own_setV (X := 13) Ar115 qa115 Sa115 Na115 Ha115 Ga115 W116 (by decide) (by decide)
  obtain ⟨u116, hu116⟩ : ∃ z, z = (own_up u114 13 (13 : Int32)) := ⟨_, rfl⟩
  rw [← hu116] at V116
  refine own_hide X116 N116 fun lc116 Y116 M116 => ?_
  refine own_go (B := T116.setTop (mkF m 442 (LS_IIIIIIIIIIIIIIIRuuuuu p0 p1 p2 p3 (own_N nn) (own_N c1) (own_N c3) (own_N c5) (own_N c7) (own_N c9) (own_N c1) (own_N (c1 + c3)) (own_N (c1 + c3 + c5)) (own_N (c1 + c3 + c5 + c7)) (own_N (c1 + c3 + c5 + c7 + c9)) b11) [(.ref b87)])) (fun t k => st116 _ k) ?_
  refine own_go (B := T116.setTop (mkF m 447 (LS_IIIIIIIIIIIIIIIRuuuuu p0 p1 p2 p3 (own_N nn) (own_N c1) (own_N c3) (own_N c5) (own_N c7) (own_N c9) (own_N c1) (own_N (c1 + c3)) (own_N (c1 + c3 + c5)) (own_N (c1 + c3 + c5 + c7)) (own_N (c1 + c3 + c5 + c7 + c9)) b11) [(.int (14 : Int32)), (.int (14 : Int32)), (.ref b87), (.ref b87)])) (fun t k => ?_) ?_
  · refine XS.dup Y116.here hx rfl (hb hby at_442) rfl rfl ?_
    refine XS.bipush Y116.here hx rfl (hb hby at_443) ?_
    show Steps p.tables e below (T116.setTop (mkF m 445 (LS_IIIIIIIIIIIIIIIRuuuuu p0 p1 p2 p3 (own_N nn) (own_N c1) (own_N c3) (own_N c5) (own_N c7) (own_N c9) (own_N c1) (own_N (c1 + c3)) (own_N (c1 + c3 + c5)) (own_N (c1 + c3 + c5 + c7)) (own_N (c1 + c3 + c5 + c7 + c9)) b11) [(.int (14 : Int32)), (.ref b87), (.ref b87)])) _
    refine XS.bipush Y116.here hx rfl (hb hby at_445) ?_
    exact k
  obtain ⟨cl117, Ar117, qa117, Sa117, Na117, Ha117, Ga117⟩ := id V116
  have hin118 : ¬ ((14 : Int32) < 0 ∨ cl117.slots.size ≤ ((14 : Int32)).toNatClampNeg) := own_inb (X := 14) Sa117 (by decide) (by decide)
  obtain ⟨T118, h118, X118, e118, W118, st118⟩ := stI Y116 hx hZ e116 Ar117 (j := (14 : Int32)) hin118 (g := (mkF m 447 (LS_IIIIIIIIIIIIIIIRuuuuu p0 p1 p2 p3 (own_N nn) (own_N c1) (own_N c3) (own_N c5) (own_N c7) (own_N c9) (own_N c1) (own_N (c1 + c3)) (own_N (c1 + c3 + c5)) (own_N (c1 + c3 + c5 + c7)) (own_N (c1 + c3 + c5 + c7 + c9)) b11) [(.int (14 : Int32)), (.int (14 : Int32)), (.ref b87), (.ref b87)])) rfl rfl (hb hby at_447)
  have N118 := Fr.snoc X118 M116 g_b87
  have V118 : Arv Z h118 b87 k87 .int (own_N 15) (own_V (own_up u116 14 (14 : Int32)) 15) (.int (0 : Int32)) := own_setV (X := 14) Ar117 qa117 Sa117 Na117 Ha117 Ga117 W118 (by decide) (by decide)
  obtain ⟨u118, hu118⟩ : ∃ z, z = (own_up u116 14 (14 : Int32)) := ⟨_, rfl⟩
  rw [← hu118] at V118
  refine own_hide X118 N118 fun lc118 Y118 M118 => ?_
  refine own_go (B := T118.setTop (mkF m 448 (LS_IIIIIIIIIIIIIIIRuuuuu p0 p1 p2 p3 (own_N nn) (own_N c1) (own_N c3) (own_N c5) (own_N c7) (own_N c9) (own_N c1) (own_N (c1 + c3)) (own_N (c1 + c3 + c5)) (own_N (c1 + c3 + c5 + c7)) (own_N (c1 + c3 + c5 + c7 + c9)) b11) [(.ref b87)])) (fun t k => st118 _ k) ?_
  refine own_go (B := T118.setTop (mkF m 450 (LS_IIIIIIIIIIIIIIIRRuuuu p0 p1 p2 p3 (own_N nn) (own_N c1) (own_N c3) (own_N c5) (own_N c7) (own_N c9) (own_N c1) (own_N (c1 + c3)) (own_N (c1 + c3 + c5)) (own_N (c1 + c3 + c5 + c7)) (own_N (c1 + c3 + c5 + c7 + c9)) b11 b87) [])) (fun t k => ?_) ?_
  · refine XS.astore Y118.here hx rfl (hb hby at_448) rfl rfl (l' := (LS_IIIIIIIIIIIIIIIRRuuuu p0 p1 p2 p3 (own_N nn) (own_N c1) (own_N c3) (own_N c5) (own_N c7) (own_N c9) (own_N c1) (own_N (c1 + c3)) (own_N (c1 + c3 + c5)) (own_N (c1 + c3 + c5 + c7)) (own_N (c1 + c3 + c5 + c7 + c9)) b11 b87)) rfl ?_
    exact k
  obtain ⟨PS, hPS⟩ : ∃ z, z = u118 := ⟨_, rfl⟩
  have Vpos : Arv Z h118 b87 k87 .int (own_N 15) (own_V PS 15) (.int (0 : Int32)) := by rw [hPS]; exact V118
  have hsn := own_tot hFS p2
  have hs6 : own_sz (own_D p2 c1 (c1 + c3) (c1 + c3 + c5) (c1 + c3 + c5 + c7)) (c1 + c3 + c5 + c7 + c9) ≤ 6 := by rw [hsn]; omega
  refine own_go (B := T118.setTop (mkF m 452 (LS_IIIIIIIIIIIIIIIRRuuuu p0 p1 p2 p3 (own_N nn) (own_N c1) (own_N c3) (own_N c5) (own_N c7) (own_N c9) (own_N c1) (own_N (c1 + c3)) (own_N (c1 + c3 + c5)) (own_N (c1 + c3 + c5 + c7)) (own_N (c1 + c3 + c5 + c7 + c9)) b11 b87) [(.int (10 : Int32))])) (fun t k => ?_) ?_
  · refine XS.bipush Y118.here hx rfl (hb hby at_450) ?_
    exact k
  obtain ⟨T119, h119, k119, X119, e119, E119, A119, Ex119, st119⟩ := newPE Y118 hx hZ (hw _ (List.mem_of_getElem? (i := 15) rfl)) e118 (g := (mkF m 452 (LS_IIIIIIIIIIIIIIIRRuuuu p0 p1 p2 p3 (own_N nn) (own_N c1) (own_N c3) (own_N c5) (own_N c7) (own_N c9) (own_N c1) (own_N (c1 + c3)) (own_N (c1 + c3 + c5)) (own_N (c1 + c3 + c5 + c7)) (own_N (c1 + c3 + c5 + c7 + c9)) b11 b87) [(.int (10 : Int32))])) rfl (hb hby at_452) rfl (by decide) (cap := 10) (by decide) (by decide) (by decide) (by decide) (ad := "[B") rfl
  obtain ⟨b119, g119⟩ : ∃ z, z = h118.size := ⟨_, rfl⟩
  rw [← g119] at A119 Ex119 st119
  have Z0_v120 := Nat.le_trans Z0_v88 E87.1
  have Z0_v121 := Nat.le_trans Z0_v120 (Nat.le_of_eq W90.size.symm)
  have Z0_v122 := Nat.le_trans Z0_v121 (Nat.le_of_eq W92.size.symm)
  have Z0_v123 := Nat.le_trans Z0_v122 (Nat.le_of_eq W94.size.symm)
  have Z0_v124 := Nat.le_trans Z0_v123 (Nat.le_of_eq W96.size.symm)
  have Z0_v125 := Nat.le_trans Z0_v124 (Nat.le_of_eq W98.size.symm)
  have Z0_v126 := Nat.le_trans Z0_v125 (Nat.le_of_eq W100.size.symm)
  have Z0_v127 := Nat.le_trans Z0_v126 (Nat.le_of_eq W102.size.symm)
  have Z0_v128 := Nat.le_trans Z0_v127 (Nat.le_of_eq W104.size.symm)
  have Z0_v129 := Nat.le_trans Z0_v128 (Nat.le_of_eq W106.size.symm)
  have Z0_v130 := Nat.le_trans Z0_v129 (Nat.le_of_eq W108.size.symm)
  have Z0_v131 := Nat.le_trans Z0_v130 (Nat.le_of_eq W110.size.symm)
  have Z0_v132 := Nat.le_trans Z0_v131 (Nat.le_of_eq W112.size.symm)
  have Z0_v133 := Nat.le_trans Z0_v132 (Nat.le_of_eq W114.size.symm)
  have Z0_v134 := Nat.le_trans Z0_v133 (Nat.le_of_eq W116.size.symm)
  have Z0_v135 := Nat.le_trans Z0_v134 (Nat.le_of_eq W118.size.symm)
  have g_b119 : n0 ≤ b119 := Nat.le_trans Z0_v135 (Nat.le_of_eq g119.symm)
  have V119 : Arv Z h119 b119 k119 .byte (10 : Int32) [] (.int (0 : Int32)) := Arv.new A119 (by decide)
  refine own_go (B := T119.setTop (mkF m 454 (LS_IIIIIIIIIIIIIIIRRuuuu p0 p1 p2 p3 (own_N nn) (own_N c1) (own_N c3) (own_N c5) (own_N c7) (own_N c9) (own_N c1) (own_N (c1 + c3)) (own_N (c1 + c3 + c5)) (own_N (c1 + c3 + c5 + c7)) (own_N (c1 + c3 + c5 + c7 + c9)) b11 b87) [(.ref b119)])) (fun t k => st119 _ k) ?_
  obtain ⟨ct, hct, e_ct⟩ := own_ct p3 htot.2
  refine own_go (B := T119.setTop (mkF m 467 (LS_IIIIIIIIIIIIIIIRRRIuu p0 p1 p2 p3 (own_N nn) (own_N c1) (own_N c3) (own_N c5) (own_N c7) (own_N c9) (own_N c1) (own_N (c1 + c3)) (own_N (c1 + c3 + c5)) (own_N (c1 + c3 + c5 + c7)) (own_N (c1 + c3 + c5 + c7 + c9)) b11 b87 b119 (own_N ct)) [])) (fun t k => ?_) ?_
  · refine XS.astore X119.here hx rfl (hb hby at_454) rfl rfl (l' := (LS_IIIIIIIIIIIIIIIRRRuuu p0 p1 p2 p3 (own_N nn) (own_N c1) (own_N c3) (own_N c5) (own_N c7) (own_N c9) (own_N c1) (own_N (c1 + c3)) (own_N (c1 + c3 + c5)) (own_N (c1 + c3 + c5 + c7)) (own_N (c1 + c3 + c5 + c7 + c9)) b11 b87 b119)) rfl ?_
    refine XS.iloadN X119.here hx rfl (hb hby at_456) rfl ?_
    show Steps p.tables e below (T119.setTop (mkF m 457 (LS_IIIIIIIIIIIIIIIRRRuuu p0 p1 p2 p3 (own_N nn) (own_N c1) (own_N c3) (own_N c5) (own_N c7) (own_N c9) (own_N c1) (own_N (c1 + c3)) (own_N (c1 + c3 + c5)) (own_N (c1 + c3 + c5 + c7)) (own_N (c1 + c3 + c5 + c7 + c9)) b11 b87 b119) [(.int p3)])) _
    refine X119.ldcInt hx hown (mvT hZ (hw _ (List.mem_of_getElem? (i := 0) rfl))) (g := (mkF m 457 (LS_IIIIIIIIIIIIIIIRRRuuu p0 p1 p2 p3 (own_N nn) (own_N c1) (own_N c3) (own_N c5) (own_N c7) (own_N c9) (own_N c1) (own_N (c1 + c3)) (own_N (c1 + c3 + c5)) (own_N (c1 + c3 + c5 + c7)) (own_N (c1 + c3 + c5 + c7 + c9)) b11 b87 b119) [(.int p3)])) rfl (hb hby at_457) _ ?_
    refine XS.iand X119.here hx rfl (hb hby at_459) rfl ?_
    refine XS.iload X119.here hx rfl (hb hby at_460) rfl ?_
    show Steps p.tables e below (T119.setTop (mkF m 462 (LS_IIIIIIIIIIIIIIIRRRuuu p0 p1 p2 p3 (own_N nn) (own_N c1) (own_N c3) (own_N c5) (own_N c7) (own_N c9) (own_N c1) (own_N (c1 + c3)) (own_N (c1 + c3 + c5)) (own_N (c1 + c3 + c5 + c7)) (own_N (c1 + c3 + c5 + c7 + c9)) b11 b87 b119) [(.int (own_N (c1 + c3 + c5 + c7 + c9))), (.int (p3 &&& (2147483647 : Int32)))])) _
    refine XS.iconst X119.here hx rfl (hb hby at_462) ?_
    refine XS.iadd X119.here hx rfl (hb hby at_463) rfl ?_
    change Steps p.tables e below (T119.setTop (mkF m 464 (LS_IIIIIIIIIIIIIIIRRRuuu p0 p1 p2 p3 (own_N nn) (own_N c1) (own_N c3) (own_N c5) (own_N c7) (own_N c9) (own_N c1) (own_N (c1 + c3)) (own_N (c1 + c3 + c5)) (own_N (c1 + c3 + c5 + c7)) (own_N (c1 + c3 + c5 + c7 + c9)) b11 b87 b119) [(.int ((own_N (c1 + c3 + c5 + c7 + c9)) + (1 : Int32))), (.int (p3 &&& (2147483647 : Int32)))])) _
    rw [show ((own_N (c1 + c3 + c5 + c7 + c9)) + (1 : Int32)) = (own_N (c1 + c3 + c5 + c7 + c9 + 1)) from own_N1 (by omega)]
    refine Jvm.RoadKit.iremM X119 hx rfl (hb hby at_464) rfl (own_nz (by omega)) ?_
    show Steps p.tables e below (T119.setTop (mkF m 465 (LS_IIIIIIIIIIIIIIIRRRuuu p0 p1 p2 p3 (own_N nn) (own_N c1) (own_N c3) (own_N c5) (own_N c7) (own_N c9) (own_N c1) (own_N (c1 + c3)) (own_N (c1 + c3 + c5)) (own_N (c1 + c3 + c5 + c7)) (own_N (c1 + c3 + c5 + c7 + c9)) b11 b87 b119) [(.int ((p3 &&& (2147483647 : Int32)) % (own_N (c1 + c3 + c5 + c7 + c9 + 1))))])) _
    refine XS.istore X119.here hx rfl (hb hby at_465) rfl (l' := (LS_IIIIIIIIIIIIIIIRRRIuu p0 p1 p2 p3 (own_N nn) (own_N c1) (own_N c3) (own_N c5) (own_N c7) (own_N c9) (own_N c1) (own_N (c1 + c3)) (own_N (c1 + c3 + c5)) (own_N (c1 + c3 + c5 + c7)) (own_N (c1 + c3 + c5 + c7 + c9)) b11 b87 b119 ((p3 &&& (2147483647 : Int32)) % (own_N (c1 + c3 + c5 + c7 + c9 + 1))))) rfl ?_
    change Steps p.tables e below (T119.setTop (mkF m 467 (LS_IIIIIIIIIIIIIIIRRRIuu p0 p1 p2 p3 (own_N nn) (own_N c1) (own_N c3) (own_N c5) (own_N c7) (own_N c9) (own_N c1) (own_N (c1 + c3)) (own_N (c1 + c3 + c5)) (own_N (c1 + c3 + c5 + c7)) (own_N (c1 + c3 + c5 + c7 + c9)) b11 b87 b119 ((p3 &&& (2147483647 : Int32)) % (own_N (c1 + c3 + c5 + c7 + c9 + 1)))) [])) _
    rw [show ((p3 &&& (2147483647 : Int32)) % (own_N (c1 + c3 + c5 + c7 + c9 + 1))) = (own_N ct) from e_ct]
    exact k
  obtain ⟨T136, h136, X136, e136, E136, A136, D136, U136, st136⟩ := newO X119 hx hZ hown (hw _ (List.mem_of_getElem? (i := 16) rfl)) (hw _ (List.mem_of_getElem? (i := 17) rfl)) (hw _ (List.mem_of_getElem? (i := 18) rfl)) e119 (g := (mkF m 467 (LS_IIIIIIIIIIIIIIIRRRIuu p0 p1 p2 p3 (own_N nn) (own_N c1) (own_N c3) (own_N c5) (own_N c7) (own_N c9) (own_N c1) (own_N (c1 + c3)) (own_N (c1 + c3 + c5)) (own_N (c1 + c3 + c5 + c7)) (own_N (c1 + c3 + c5 + c7 + c9)) b11 b87 b119 (own_N ct)) [])) rfl (hb hby at_467) (by decide) (by decide)
  obtain ⟨b136, g136⟩ : ∃ z, z = h119.size := ⟨_, rfl⟩
  rw [← g136] at A136 D136 U136 st136
  have Z0_v137 := Nat.le_trans Z0_v135 E119.1
  have g_b136 : n0 ≤ b136 := Nat.le_trans Z0_v137 (Nat.le_of_eq g136.symm)
  have F136_entries : Fld Z h136 b136 "com/example/terms_to_scores/termstoscores/index/Postings" "entries" "[I" .null := D136 (Or.inl (hw _ (List.mem_of_getElem? (i := 26) rfl))) (ty := (.array .int)) (by decide)
  have F136_lastDoc : Fld Z h136 b136 "com/example/terms_to_scores/termstoscores/index/Postings" "lastDoc" "I" (.int (0 : Int32)) := D136 (Or.inl (hw _ (List.mem_of_getElem? (i := 28) rfl))) (ty := .int) (by decide)
  have F136_shortestLength : Fld Z h136 b136 "com/example/terms_to_scores/termstoscores/index/Postings" "shortestLength" "I" (.int (0 : Int32)) := D136 (Or.inl (hw _ (List.mem_of_getElem? (i := 30) rfl))) (ty := .int) (by decide)
  have F136_pages : Fld Z h136 b136 "com/example/terms_to_scores/termstoscores/index/Postings" "pages" "[[I" .null := D136 (Or.inl (hw _ (List.mem_of_getElem? (i := 34) rfl))) (ty := (.array (.array .int))) (by decide)
  have F136_page : Fld Z h136 b136 "com/example/terms_to_scores/termstoscores/index/Postings" "page" "[I" .null := D136 (Or.inl (hw _ (List.mem_of_getElem? (i := 36) rfl))) (ty := (.array .int)) (by decide)
  have F136_positionCount : Fld Z h136 b136 "com/example/terms_to_scores/termstoscores/index/Postings" "positionCount" "I" (.int (0 : Int32)) := D136 (Or.inl (hw _ (List.mem_of_getElem? (i := 45) rfl))) (ty := .int) (by decide)
  have F136_size : Fld Z h136 b136 "com/example/terms_to_scores/termstoscores/index/Postings" "size" "I" (.int (0 : Int32)) := D136 (Or.inl (hw _ (List.mem_of_getElem? (i := 47) rfl))) (ty := .int) (by decide)
  have F136_lastFreq : Fld Z h136 b136 "com/example/terms_to_scores/termstoscores/index/Postings" "lastFreq" "I" (.int (0 : Int32)) := D136 (Or.inl (hw _ (List.mem_of_getElem? (i := 49) rfl))) (ty := .int) (by decide)
  have F136_maxFreq : Fld Z h136 b136 "com/example/terms_to_scores/termstoscores/index/Postings" "maxFreq" "I" (.int (0 : Int32)) := D136 (Or.inl (hw _ (List.mem_of_getElem? (i := 55) rfl))) (ty := .int) (by decide)
  refine own_go (B := T136.setTop (mkF m 470 (LS_IIIIIIIIIIIIIIIRRRIuu p0 p1 p2 p3 (own_N nn) (own_N c1) (own_N c3) (own_N c5) (own_N c7) (own_N c9) (own_N c1) (own_N (c1 + c3)) (own_N (c1 + c3 + c5)) (own_N (c1 + c3 + c5 + c7)) (own_N (c1 + c3 + c5 + c7 + c9)) b11 b87 b119 (own_N ct)) [(.ref b136)])) (fun t k => st136 _ k) ?_
  refine own_go (B := T136.setTop (mkF m 471 (LS_IIIIIIIIIIIIIIIRRRIuu p0 p1 p2 p3 (own_N nn) (own_N c1) (own_N c3) (own_N c5) (own_N c7) (own_N c9) (own_N c1) (own_N (c1 + c3)) (own_N (c1 + c3 + c5)) (own_N (c1 + c3 + c5 + c7)) (own_N (c1 + c3 + c5 + c7 + c9)) b11 b87 b119 (own_N ct)) [(.ref b136), (.ref b136)])) (fun t k => ?_) ?_
  · refine XS.dup X136.here hx rfl (hb hby at_470) rfl rfl ?_
    exact k
  have Z0_v138 := Nat.le_trans Z0_v137 E136.1
  obtain ⟨_, _, ⟨T139, L139, k139, n139⟩, -, X139, ⟨Lc139, hQ139, l139, y139, z139⟩, st139⟩ := X136.specialBack hx (y := (⟨"com/example/terms_to_scores/termstoscores/index/Postings", "<init>", "()V"⟩ : MethodName)) rfl hown (mvT hZ (hw _ (List.mem_of_getElem? (i := 19) rfl))) (mvT hZ (hw _ (List.mem_of_getElem? (i := 20) rfl))) (mvT hZ (hw _ (List.mem_of_getElem? (i := 21) rfl))) (by decide) (backOf (W := 1) (rmini l Z a0 hw [] b136 h136 n0 Z0_v138 A136 F136_entries F136_size F136_lastDoc F136_lastFreq F136_maxFreq F136_shortestLength F136_positionCount F136_pages F136_page g_b136) hZ (hw _ (List.mem_of_getElem? (i := 21) rfl)) (hw _ (List.mem_of_getElem? (i := 18) rfl)) (by decide) (by decide)) (g := (mkF m 471 (LS_IIIIIIIIIIIIIIIRRRIuu p0 p1 p2 p3 (own_N nn) (own_N c1) (own_N c3) (own_N c5) (own_N c7) (own_N c9) (own_N c1) (own_N (c1 + c3)) (own_N (c1 + c3 + c5)) (own_N (c1 + c3 + c5 + c7)) (own_N (c1 + c3 + c5 + c7 + c9)) b11 b87 b119 (own_N ct)) [(.ref b136), (.ref b136)])) rfl (by rw [hml]; rfl) (Steps.refl _) (a := b136) (argsL := []) (rest := [(.ref b136)]) (lenOf pd___V rfl) rfl (by show 2 * 0 + _ ≤ _; exact Nat.le_of_eq rfl) (hb hby at_471) (fun _ _ => ⟨rfl, e136, (by decide : 4 + 3 ≤ _), (by decide : 49 + 13 ≤ _)⟩)
  dsimp only [Pt.U, Pt.locs, Pt.cells, Pt.slots] at X139 l139 y139 z139 st139 hQ139
  subst l139 y139 z139
  obtain ⟨e139, q139, pg139, ke139, kq139, kg139, rfl, N139q, K139, he139, hq139, hp139, Fentries_139, Fsize_139, FlastDoc_139, FlastFreq_139, FmaxFreq_139, FshortestLength_139, FpositionCount_139, Fpages_139, Fpage_139, Ve139, Vq139, Eq139, Vg139, Og139, neq139⟩ := hQ139
  have N139 := Fr.app M118 N139q
  have g_e139 : n0 ≤ e139 := Nat.le_trans Z0_v138 he139
  have g_q139 : n0 ≤ q139 := Nat.le_trans Z0_v138 hq139
  have g_pg139 : n0 ≤ pg139 := Nat.le_trans Z0_v138 hp139
  refine own_go (B := T139.setTop (mkF m 474 (LS_IIIIIIIIIIIIIIIRRRIuu p0 p1 p2 p3 (own_N nn) (own_N c1) (own_N c3) (own_N c5) (own_N c7) (own_N c9) (own_N c1) (own_N (c1 + c3)) (own_N (c1 + c3 + c5)) (own_N (c1 + c3 + c5 + c7)) (own_N (c1 + c3 + c5 + c7 + c9)) b11 b87 b119 (own_N ct)) [(.ref b136)])) (fun t k => st139.trans k) ?_
  refine own_hide X139 N139 fun lc140 Y140 M140 => ?_
  refine own_go (B := T139.setTop (mkF m 487 (LS_IIIIIIIIIIIIIIIRRRIRu p0 p1 p2 p3 (own_N nn) (own_N c1) (own_N c3) (own_N c5) (own_N c7) (own_N c9) (own_N c1) (own_N (c1 + c3)) (own_N (c1 + c3 + c5)) (own_N (c1 + c3 + c5 + c7)) (own_N (c1 + c3 + c5 + c7 + c9)) b11 b87 b119 (own_N ct) b136) [(.ref b119), (.int (own_N ct)), (.int (0 : Int32)), (.ref b87), (.ref b11), (.ref b136)])) (fun t k => ?_) ?_
  · refine XS.astore Y140.here hx rfl (hb hby at_474) rfl rfl (l' := (LS_IIIIIIIIIIIIIIIRRRIRu p0 p1 p2 p3 (own_N nn) (own_N c1) (own_N c3) (own_N c5) (own_N c7) (own_N c9) (own_N c1) (own_N (c1 + c3)) (own_N (c1 + c3 + c5)) (own_N (c1 + c3 + c5 + c7)) (own_N (c1 + c3 + c5 + c7 + c9)) b11 b87 b119 (own_N ct) b136)) rfl ?_
    refine XS.aload Y140.here hx rfl (hb hby at_476) rfl rfl ?_
    show Steps p.tables e below (T139.setTop (mkF m 478 (LS_IIIIIIIIIIIIIIIRRRIRu p0 p1 p2 p3 (own_N nn) (own_N c1) (own_N c3) (own_N c5) (own_N c7) (own_N c9) (own_N c1) (own_N (c1 + c3)) (own_N (c1 + c3 + c5)) (own_N (c1 + c3 + c5 + c7)) (own_N (c1 + c3 + c5 + c7 + c9)) b11 b87 b119 (own_N ct) b136) [(.ref b136)])) _
    refine XS.aload Y140.here hx rfl (hb hby at_478) rfl rfl ?_
    refine XS.aload Y140.here hx rfl (hb hby at_480) rfl rfl ?_
    refine XS.iconst Y140.here hx rfl (hb hby at_482) ?_
    show Steps p.tables e below (T139.setTop (mkF m 483 (LS_IIIIIIIIIIIIIIIRRRIRu p0 p1 p2 p3 (own_N nn) (own_N c1) (own_N c3) (own_N c5) (own_N c7) (own_N c9) (own_N c1) (own_N (c1 + c3)) (own_N (c1 + c3 + c5)) (own_N (c1 + c3 + c5 + c7)) (own_N (c1 + c3 + c5 + c7 + c9)) b11 b87 b119 (own_N ct) b136) [(.int (0 : Int32)), (.ref b87), (.ref b11), (.ref b136)])) _
    refine XS.iload Y140.here hx rfl (hb hby at_483) rfl ?_
    refine XS.aload Y140.here hx rfl (hb hby at_485) rfl rfl ?_
    exact k
  have Z0_v141 := Nat.le_trans Z0_v138 K139.1
  have A136_v142 := A136.keep K139
  have Vdoc_v143 := Vdoc.ext E87
  have ne145 : b11 ≠ b87 := Nat.ne_of_lt (Nat.lt_of_lt_of_le Vdoc.lt (Nat.le_of_eq g87.symm))
  have Vdoc_v144 := Vdoc_v143.other W90 ne145
  have Vdoc_v146 := Vdoc_v144.other W92 ne145
  have Vdoc_v147 := Vdoc_v146.other W94 ne145
  have Vdoc_v148 := Vdoc_v147.other W96 ne145
  have Vdoc_v149 := Vdoc_v148.other W98 ne145
  have Vdoc_v150 := Vdoc_v149.other W100 ne145
  have Vdoc_v151 := Vdoc_v150.other W102 ne145
  have Vdoc_v152 := Vdoc_v151.other W104 ne145
  have Vdoc_v153 := Vdoc_v152.other W106 ne145
  have Vdoc_v154 := Vdoc_v153.other W108 ne145
  have Vdoc_v155 := Vdoc_v154.other W110 ne145
  have Vdoc_v156 := Vdoc_v155.other W112 ne145
  have Vdoc_v157 := Vdoc_v156.other W114 ne145
  have Vdoc_v158 := Vdoc_v157.other W116 ne145
  have Vdoc_v159 := Vdoc_v158.other W118 ne145
  have Vdoc_v160 := Vdoc_v159.ext E119
  have Vdoc_v161 := Vdoc_v160.ext E136
  have Ex11_v164 := Ex11.wr W16
  have Ex11_v165 := Ex11_v164.wr W21
  have Ex11_v166 := Ex11_v165.wr W26
  have Ex11_v167 := Ex11_v166.wr W31
  have Ex11_v168 := Ex11_v167.wr W36
  have Ex11_v169 := Ex11_v168.wr W41
  have Ex11_v170 := Ex11_v169.wr W46
  have Ex11_v171 := Ex11_v170.wr W51
  have Ex11_v172 := Ex11_v171.wr W56
  have Ex11_v173 := Ex11_v172.wr W61
  have Ex11_v174 := Ex11_v173.wr W66
  have Ex11_v175 := Ex11_v174.wr W71
  have Ex11_v176 := Ex11_v175.wr W76
  have Ex11_v177 := Ex11_v176.wr W81
  have Ex11_v178 := Ex11_v177.wr W86
  have Ex11_v179 := Ex11_v178.ext E87
  have Ex11_v180 := Ex11_v179.wr W90
  have Ex11_v181 := Ex11_v180.wr W92
  have Ex11_v182 := Ex11_v181.wr W94
  have Ex11_v183 := Ex11_v182.wr W96
  have Ex11_v184 := Ex11_v183.wr W98
  have Ex11_v185 := Ex11_v184.wr W100
  have Ex11_v186 := Ex11_v185.wr W102
  have Ex11_v187 := Ex11_v186.wr W104
  have Ex11_v188 := Ex11_v187.wr W106
  have Ex11_v189 := Ex11_v188.wr W108
  have Ex11_v190 := Ex11_v189.wr W110
  have Ex11_v191 := Ex11_v190.wr W112
  have Ex11_v192 := Ex11_v191.wr W114
  have Ex11_v193 := Ex11_v192.wr W116
  have Ex11_v194 := Ex11_v193.wr W118
  have Ex11_v195 := Ex11_v194.ext E119
  have Ex11_v196 := Ex11_v195.ext E136
  have ne163 : b11 ≠ b136 := Exa.ne Ex11_v196 A136 (by decide)
  have Vdoc_v162 := Vdoc_v161.keep K139 (ninS ne163 nin0)
  have Vpos_v197 := Vpos.ext E119
  have Vpos_v198 := Vpos_v197.ext E136
  have Ex87_v201 := Ex87.wr W90
  have Ex87_v202 := Ex87_v201.wr W92
  have Ex87_v203 := Ex87_v202.wr W94
  have Ex87_v204 := Ex87_v203.wr W96
  have Ex87_v205 := Ex87_v204.wr W98
  have Ex87_v206 := Ex87_v205.wr W100
  have Ex87_v207 := Ex87_v206.wr W102
  have Ex87_v208 := Ex87_v207.wr W104
  have Ex87_v209 := Ex87_v208.wr W106
  have Ex87_v210 := Ex87_v209.wr W108
  have Ex87_v211 := Ex87_v210.wr W110
  have Ex87_v212 := Ex87_v211.wr W112
  have Ex87_v213 := Ex87_v212.wr W114
  have Ex87_v214 := Ex87_v213.wr W116
  have Ex87_v215 := Ex87_v214.wr W118
  have Ex87_v216 := Ex87_v215.ext E119
  have Ex87_v217 := Ex87_v216.ext E136
  have ne200 : b87 ≠ b136 := Exa.ne Ex87_v217 A136 (by decide)
  have Vpos_v199 := Vpos_v198.keep K139 (ninS ne200 nin0)
  have V119_v218 := V119.ext E136
  have ne220 : b136 ≠ b119 := Exa.neArv A136 V119_v218 (hw _ (List.mem_of_getElem? (i := 17) rfl))
  have V119_v219 := V119_v218.keep K139 (ninS (Ne.symm ne220) nin0)
  have Vdoc_v224 := Vdoc_v143.other W90 ne145
  have Vdoc_v225 := Vdoc_v224.other W92 ne145
  have Vdoc_v226 := Vdoc_v225.other W94 ne145
  have Vdoc_v227 := Vdoc_v226.other W96 ne145
  have Vdoc_v228 := Vdoc_v227.other W98 ne145
  have Vdoc_v229 := Vdoc_v228.other W100 ne145
  have Vdoc_v230 := Vdoc_v229.other W102 ne145
  have Vdoc_v231 := Vdoc_v230.other W104 ne145
  have Vdoc_v232 := Vdoc_v231.other W106 ne145
  have Vdoc_v233 := Vdoc_v232.other W108 ne145
  have Vdoc_v234 := Vdoc_v233.other W110 ne145
  have Vdoc_v235 := Vdoc_v234.other W112 ne145
  have Vdoc_v236 := Vdoc_v235.other W114 ne145
  have Vdoc_v237 := Vdoc_v236.other W116 ne145
  have Vdoc_v238 := Vdoc_v237.other W118 ne145
  have Vdoc_v239 := Vdoc_v238.ext E119
  have Vdoc_v240 := Vdoc_v239.ext E136
  have ne223 : b11 ≠ e139 := Nat.ne_of_lt (Nat.lt_of_lt_of_le Vdoc_v240.lt he139)
  have ne243 : b87 ≠ e139 := Nat.ne_of_lt (Nat.lt_of_lt_of_le Vpos_v198.lt he139)
  have ne244 : b11 ≠ q139 := Nat.ne_of_lt (Nat.lt_of_lt_of_le Vdoc_v240.lt hq139)
  have ne245 : b87 ≠ q139 := Nat.ne_of_lt (Nat.lt_of_lt_of_le Vpos_v198.lt hq139)
  obtain ⟨cq246, kq246, q246a, q246b, q246c⟩ := isOf hZ rfl A136_v142
  obtain ⟨_, _, ⟨T246, L246, k246, n246⟩, -, X246, ⟨Lc246, hQ246, l246, y246, z246⟩, st246⟩ := Y140.virtualBack hx (y := (⟨"com/example/terms_to_scores/termstoscores/index/Postings", "add", "([I[III[B)V"⟩ : MethodName)) (z := (⟨"com/example/terms_to_scores/termstoscores/index/Postings", "add", "([I[III[B)V"⟩ : MethodName)) hown (mvT hZ (hw _ (List.mem_of_getElem? (i := 38) rfl))) (mvT hZ (hw _ (List.mem_of_getElem? (i := 39) rfl))) (notFace_of_selects (args := #[]) (mvT hZ (hw _ (List.mem_of_getElem? (i := 41) rfl)))) (mvT hZ (hw _ (List.mem_of_getElem? (i := 41) rfl))) (mvT hZ (hw _ (List.mem_of_getElem? (i := 40) rfl))) (by decide) (backOf (W := 0) (rmadd l Z a0 hw [] b136 b11 b87 b119 (own_D p2 c1 (c1 + c3) (c1 + c3 + c5) (c1 + c3 + c5 + c7)) PS 15 15 k11 k87 k119 (10 : Int32) 0 ct e139 q139 pg139 ke139 kq139 kg139 (fun _ => 0) (fun _ => 0) 8 4 (0 : Int32) (0 : Int32) (255 : Int32) T139.heap n0 Z0_v141 A136_v142 Fentries_139 Fsize_139 FlastDoc_139 FlastFreq_139 FmaxFreq_139 FshortestLength_139 FpositionCount_139 Fpages_139 Fpage_139 Ve139 Vq139 Eq139 Vg139 Og139 Vdoc_v162 Vpos_v199 V119_v219 g_b136 g_e139 g_q139 g_pg139 neq139 (Ne.symm ne223) (Ne.symm ne243) (Ne.symm ne244) (Ne.symm ne245) (Or.inl rfl) (show 2 * 0 ≤ 8 by decide) (fun t ht => absurd ht (Nat.not_lt_zero _)) ⟨by decide, by decide, by decide⟩ (fun t ht => absurd ht (Nat.not_lt_zero _)) (Nat.zero_le _) (by omega) ⟨by omega, by decide⟩ ⟨by omega, by decide⟩ (Nat.le_trans (own_sz_le _ hct) hs6) (own_Db _ _ _ _ _ _)) hZ (hw _ (List.mem_of_getElem? (i := 42) rfl)) (hw _ (List.mem_of_getElem? (i := 18) rfl)) (by decide) (by decide)) q246a q246c (g := (mkF m 487 (LS_IIIIIIIIIIIIIIIRRRIRu p0 p1 p2 p3 (own_N nn) (own_N c1) (own_N c3) (own_N c5) (own_N c7) (own_N c9) (own_N c1) (own_N (c1 + c3)) (own_N (c1 + c3 + c5)) (own_N (c1 + c3 + c5 + c7)) (own_N (c1 + c3 + c5 + c7 + c9)) b11 b87 b119 (own_N ct) b136) [(.ref b119), (.int (own_N ct)), (.int (0 : Int32)), (.ref b87), (.ref b11), (.ref b136)])) rfl (by rw [hml]; rfl) (Steps.refl _) (argsL := [(.ref b11), (.ref b87), (.int (0 : Int32)), (.int (own_N ct)), (.ref b119)]) (rest := []) (lenOf pd___I_III_B_V rfl) rfl (by show 2 * 0 + _ ≤ _; exact Nat.le_of_eq rfl) (hb hby at_487) (fun _ _ => ⟨rfl, rfl, (by decide : 7 + 2 ≤ _), (by decide : 62 + 64 ≤ _)⟩)
  dsimp only [Pt.U, Pt.locs, Pt.cells, Pt.slots] at X246 l246 y246 z246 st246 hQ246
  subst l246 y246 z246
  obtain ⟨ea246, qa246, ke246, kq246, en246, pf246, ze246, zp246, lf246, mf246, sl246, rfl, N246q, K246, Fentries_246, Fsize_246, FlastDoc_246, FlastFreq_246, FmaxFreq_246, FshortestLength_246, FpositionCount_246, Fpages_246, Fpage_246, Ve246, Vq246, Eq246, Vg246, die246, diq246, ge246, gq246, neq246, nda246, ndb246, ndc246, ndd246, hze246, hsz246, hH246, hzp246, hpf246⟩ := hQ246
  have N246 := Fr.app M140 N246q
  refine own_go (B := T246.setTop (mkF m 490 (LS_IIIIIIIIIIIIIIIRRRIRu p0 p1 p2 p3 (own_N nn) (own_N c1) (own_N c3) (own_N c5) (own_N c7) (own_N c9) (own_N c1) (own_N (c1 + c3)) (own_N (c1 + c3 + c5)) (own_N (c1 + c3 + c5 + c7)) (own_N (c1 + c3 + c5 + c7 + c9)) b11 b87 b119 (own_N ct) b136) [])) (fun t k => st246.trans k) ?_
  have g_ea246 := ge246
  have g_qa246 := gq246
  refine own_hide X246 N246 fun lc247 Y247 M247 => ?_
  refine own_go (B := T246.setTop (mkF m 502 (LS_IIIIIIIIIIIIIIIRRRIRu p0 p1 p2 p3 (own_N nn) (own_N c1) (own_N c3) (own_N c5) (own_N c7) (own_N c9) (own_N c1) (own_N (c1 + c3)) (own_N (c1 + c3 + c5)) (own_N (c1 + c3 + c5 + c7)) (own_N (c1 + c3 + c5 + c7 + c9)) b11 b87 b119 (own_N ct) b136) [(.ref b119), (.int (own_N (c1 + c3 + c5 + c7 + c9))), (.int (own_N ct)), (.ref b87), (.ref b11), (.ref b136)])) (fun t k => ?_) ?_
  · refine XS.aload Y247.here hx rfl (hb hby at_490) rfl rfl ?_
    refine XS.aload Y247.here hx rfl (hb hby at_492) rfl rfl ?_
    show Steps p.tables e below (T246.setTop (mkF m 494 (LS_IIIIIIIIIIIIIIIRRRIRu p0 p1 p2 p3 (own_N nn) (own_N c1) (own_N c3) (own_N c5) (own_N c7) (own_N c9) (own_N c1) (own_N (c1 + c3)) (own_N (c1 + c3 + c5)) (own_N (c1 + c3 + c5 + c7)) (own_N (c1 + c3 + c5 + c7 + c9)) b11 b87 b119 (own_N ct) b136) [(.ref b11), (.ref b136)])) _
    refine XS.aload Y247.here hx rfl (hb hby at_494) rfl rfl ?_
    refine XS.iload Y247.here hx rfl (hb hby at_496) rfl ?_
    refine XS.iload Y247.here hx rfl (hb hby at_498) rfl ?_
    show Steps p.tables e below (T246.setTop (mkF m 500 (LS_IIIIIIIIIIIIIIIRRRIRu p0 p1 p2 p3 (own_N nn) (own_N c1) (own_N c3) (own_N c5) (own_N c7) (own_N c9) (own_N c1) (own_N (c1 + c3)) (own_N (c1 + c3 + c5)) (own_N (c1 + c3 + c5 + c7)) (own_N (c1 + c3 + c5 + c7 + c9)) b11 b87 b119 (own_N ct) b136) [(.int (own_N (c1 + c3 + c5 + c7 + c9))), (.int (own_N ct)), (.ref b87), (.ref b11), (.ref b136)])) _
    refine XS.aload Y247.here hx rfl (hb hby at_500) rfl rfl ?_
    exact k
  have Z0_v248 := Nat.le_trans Z0_v141 K246.1
  have A136_v249 := A136_v142.keep K246
  have Vdoc_v250 := Vdoc_v240.keep K139 (ninS ne163 nin0)
  have ne252 : b11 ≠ pg139 := own_neT Vdoc_v250 Vg139 (by decide)
  have Vdoc_v251 := Vdoc_v250.keep K246 (ninS ne163 (ninS ne223 (ninS ne244 (ninS ne252 nin0))))
  have ne254 : b87 ≠ pg139 := own_neT Vpos_v199 Vg139 (by decide)
  have Vpos_v253 := Vpos_v199.keep K246 (ninS ne200 (ninS ne243 (ninS ne245 (ninS ne254 nin0))))
  have V119_v255 := V119_v218.keep K139 (ninS (Ne.symm ne220) nin0)
  have ne257 : b119 ≠ pg139 := own_neT V119_v255 Vg139 (by decide)
  have ne258 : b119 ≠ q139 := own_neT V119_v255 Vq139 (by decide)
  have ne259 : b119 ≠ e139 := own_neT V119_v255 Ve139 (by decide)
  have V119_v256 := V119_v255.keep K246 (ninS (Ne.symm ne220) (ninS ne259 (ninS ne258 (ninS ne257 nin0))))
  obtain ⟨cq260, kq260, q260a, q260b, q260c⟩ := isOf hZ rfl A136_v249
  obtain ⟨_, _, ⟨T260, L260, k260, n260⟩, -, X260, ⟨Lc260, hQ260, l260, y260, z260⟩, st260⟩ := Y247.virtualBack hx (y := (⟨"com/example/terms_to_scores/termstoscores/index/Postings", "add", "([I[III[B)V"⟩ : MethodName)) (z := (⟨"com/example/terms_to_scores/termstoscores/index/Postings", "add", "([I[III[B)V"⟩ : MethodName)) hown (mvT hZ (hw _ (List.mem_of_getElem? (i := 38) rfl))) (mvT hZ (hw _ (List.mem_of_getElem? (i := 39) rfl))) (notFace_of_selects (args := #[]) (mvT hZ (hw _ (List.mem_of_getElem? (i := 41) rfl)))) (mvT hZ (hw _ (List.mem_of_getElem? (i := 41) rfl))) (mvT hZ (hw _ (List.mem_of_getElem? (i := 40) rfl))) (by decide) (backOf (W := 0) (rmadd l Z a0 hw [] b136 b11 b87 b119 (own_D p2 c1 (c1 + c3) (c1 + c3 + c5) (c1 + c3 + c5 + c7)) PS 15 15 k11 k87 k119 (10 : Int32) ct (c1 + c3 + c5 + c7 + c9) ea246 qa246 pg139 ke246 kq246 kg139 en246 pf246 ze246 zp246 lf246 mf246 sl246 T246.heap n0 Z0_v248 A136_v249 Fentries_246 Fsize_246 FlastDoc_246 FlastFreq_246 FmaxFreq_246 FshortestLength_246 FpositionCount_246 Fpages_246 Fpage_246 Ve246 Vq246 Eq246 Vg246 Og139 Vdoc_v251 Vpos_v253 V119_v256 g_b136 g_ea246 g_qa246 g_pg139 neq246 nda246 ndb246 ndc246 ndd246 hze246 hsz246 hH246 hzp246 hpf246 hct htot.2 ⟨htot.2, by decide⟩ ⟨htot.2, by decide⟩ hs6 (own_Db _ _ _ _ _ _)) hZ (hw _ (List.mem_of_getElem? (i := 42) rfl)) (hw _ (List.mem_of_getElem? (i := 18) rfl)) (by decide) (by decide)) q260a q260c (g := (mkF m 502 (LS_IIIIIIIIIIIIIIIRRRIRu p0 p1 p2 p3 (own_N nn) (own_N c1) (own_N c3) (own_N c5) (own_N c7) (own_N c9) (own_N c1) (own_N (c1 + c3)) (own_N (c1 + c3 + c5)) (own_N (c1 + c3 + c5 + c7)) (own_N (c1 + c3 + c5 + c7 + c9)) b11 b87 b119 (own_N ct) b136) [(.ref b119), (.int (own_N (c1 + c3 + c5 + c7 + c9))), (.int (own_N ct)), (.ref b87), (.ref b11), (.ref b136)])) rfl (by rw [hml]; rfl) (Steps.refl _) (argsL := [(.ref b11), (.ref b87), (.int (own_N ct)), (.int (own_N (c1 + c3 + c5 + c7 + c9))), (.ref b119)]) (rest := []) (lenOf pd___I_III_B_V rfl) rfl (by show 2 * 0 + _ ≤ _; exact Nat.le_of_eq rfl) (hb hby at_502) (fun _ _ => ⟨rfl, rfl, (by decide : 9 + 2 ≤ _), (by decide : 126 + 64 ≤ _)⟩)
  dsimp only [Pt.U, Pt.locs, Pt.cells, Pt.slots] at X260 l260 y260 z260 st260 hQ260
  subst l260 y260 z260
  obtain ⟨ea260, qa260, ke260, kq260, en260, pf260, ze260, zp260, lf260, mf260, sl260, rfl, N260q, K260, Fentries_260, Fsize_260, FlastDoc_260, FlastFreq_260, FmaxFreq_260, FshortestLength_260, FpositionCount_260, Fpages_260, Fpage_260, Ve260, Vq260, Eq260, Vg260, die260, diq260, ge260, gq260, neq260, nda260, ndb260, ndc260, ndd260, hze260, hsz260, hH260, hzp260, hpf260⟩ := hQ260
  have N260 := Fr.app M247 N260q
  refine own_go (B := T260.setTop (mkF m 505 (LS_IIIIIIIIIIIIIIIRRRIRu p0 p1 p2 p3 (own_N nn) (own_N c1) (own_N c3) (own_N c5) (own_N c7) (own_N c9) (own_N c1) (own_N (c1 + c3)) (own_N (c1 + c3 + c5)) (own_N (c1 + c3 + c5 + c7)) (own_N (c1 + c3 + c5 + c7 + c9)) b11 b87 b119 (own_N ct) b136) [])) (fun t k => st260.trans k) ?_
  have g_ea260 := ge260
  have g_qa260 := gq260
  refine own_hide X260 N260 fun lc261 Y261 M261 => ?_
  have Fsn : Fld Z T260.heap b136 "com/example/terms_to_scores/termstoscores/index/Postings" "size" "I" (.int (own_N nn)) := by have q := Fsize_260; rw [hsn] at q; exact q
  have hszn : 2 * nn ≤ ze260 := by have q := hsz260; rw [hsn] at q; exact q
  have hents := own_ents hFS p2 hH260
  have hbig : ze260 ≤ 16 := by rcases hze260 with q | q <;> omega
  refine own_go (B := T260.setTop (mkF m 507 (LS_IIIIIIIIIIIIIIIRRRIRu p0 p1 p2 p3 (own_N nn) (own_N c1) (own_N c3) (own_N c5) (own_N c7) (own_N c9) (own_N c1) (own_N (c1 + c3)) (own_N (c1 + c3 + c5)) (own_N (c1 + c3 + c5 + c7)) (own_N (c1 + c3 + c5 + c7 + c9)) b11 b87 b119 (own_N ct) b136) [(.ref b136)])) (fun t k => ?_) ?_
  · refine XS.aload Y261.here hx rfl (hb hby at_505) rfl rfl ?_
    exact k
  have Z0_v262 := Nat.le_trans Z0_v248 K260.1
  have A136_v264 := A136_v249.keep K260
  obtain ⟨cq263, kq263, q263a, q263b, q263c⟩ := isOf hZ rfl A136_v264
  obtain ⟨_, _, ⟨T263, L263, k263, n263⟩, -, X263, ⟨Lc263, hQ263, l263, y263, z263⟩, st263⟩ := Y261.virtualBack hx (y := (⟨"com/example/terms_to_scores/termstoscores/index/Postings", "size", "()I"⟩ : MethodName)) (z := (⟨"com/example/terms_to_scores/termstoscores/index/Postings", "size", "()I"⟩ : MethodName)) hown (mvT hZ (hw _ (List.mem_of_getElem? (i := 63) rfl))) (mvT hZ (hw _ (List.mem_of_getElem? (i := 64) rfl))) (notFace_of_selects (args := #[]) (mvT hZ (hw _ (List.mem_of_getElem? (i := 66) rfl)))) (mvT hZ (hw _ (List.mem_of_getElem? (i := 66) rfl))) (mvT hZ (hw _ (List.mem_of_getElem? (i := 65) rfl))) (by decide) (backOf (W := 0) (rmsiz l Z a0 hw [] b136 (own_N nn) T260.heap n0 Z0_v262 Fsn) hZ (hw _ (List.mem_of_getElem? (i := 67) rfl)) (hw _ (List.mem_of_getElem? (i := 18) rfl)) (by decide) (by decide)) q263a q263c (g := (mkF m 507 (LS_IIIIIIIIIIIIIIIRRRIRu p0 p1 p2 p3 (own_N nn) (own_N c1) (own_N c3) (own_N c5) (own_N c7) (own_N c9) (own_N c1) (own_N (c1 + c3)) (own_N (c1 + c3 + c5)) (own_N (c1 + c3 + c5 + c7)) (own_N (c1 + c3 + c5 + c7 + c9)) b11 b87 b119 (own_N ct) b136) [(.ref b136)])) rfl (by rw [hml]; rfl) (Steps.refl _) (argsL := []) (rest := []) (lenOf pd___I rfl) rfl (by show 2 * 0 + _ ≤ _; exact Nat.le_of_eq rfl) (hb hby at_507) (fun _ _ => ⟨rfl, rfl, (by decide : 11 + 0 ≤ _), (by decide : 190 + 0 ≤ _)⟩)
  dsimp only [Pt.U, Pt.locs, Pt.cells, Pt.slots] at X263 l263 y263 z263 st263 hQ263
  subst l263 y263 z263
  obtain ⟨rfl, N263q, e263⟩ := hQ263
  have N263 := Fr.app M261 N263q
  refine own_go (B := T263.setTop (mkF m 510 (LS_IIIIIIIIIIIIIIIRRRIRu p0 p1 p2 p3 (own_N nn) (own_N c1) (own_N c3) (own_N c5) (own_N c7) (own_N c9) (own_N c1) (own_N (c1 + c3)) (own_N (c1 + c3 + c5)) (own_N (c1 + c3 + c5 + c7)) (own_N (c1 + c3 + c5 + c7 + c9)) b11 b87 b119 (own_N ct) b136) [(.int (own_N nn))])) (fun t k => st263.trans k) ?_
  refine own_hide X263 N263 fun lc265 Y265 M265 => ?_
  refine own_go (B := T263.setTop (mkF m 520 (LS_IIIIIIIIIIIIIIIRRRIRu p0 p1 p2 p3 (own_N nn) (own_N c1) (own_N c3) (own_N c5) (own_N c7) (own_N c9) (own_N c1) (own_N (c1 + c3)) (own_N (c1 + c3 + c5)) (own_N (c1 + c3 + c5 + c7)) (own_N (c1 + c3 + c5 + c7 + c9)) b11 b87 b119 (own_N ct) b136) [(.int (0 : Int32)), (.ref b136)])) (fun t k => ?_) ?_
  · refine XS.iload Y265.here hx rfl (hb hby at_510) rfl ?_
    refine XS.icmpYes Y265.here hx rfl (pc0 := 512) (pc' := 517) rfl (hb hby at_512) rfl (teq (rfl : (own_N nn) = (own_N nn))).1 (by decide) (by decide) ?_
    show Steps p.tables e below (T263.setTop (mkF m 517 (LS_IIIIIIIIIIIIIIIRRRIRu p0 p1 p2 p3 (own_N nn) (own_N c1) (own_N c3) (own_N c5) (own_N c7) (own_N c9) (own_N c1) (own_N (c1 + c3)) (own_N (c1 + c3 + c5)) (own_N (c1 + c3 + c5 + c7)) (own_N (c1 + c3 + c5 + c7 + c9)) b11 b87 b119 (own_N ct) b136) [])) _
    refine XS.aload Y265.here hx rfl (hb hby at_517) rfl rfl ?_
    refine XS.iconst Y265.here hx rfl (hb hby at_519) ?_
    exact k
  obtain ⟨cq266, kq266, q266a, q266b, q266c⟩ := isOf hZ e263 A136_v264
  obtain ⟨_, _, ⟨T266, L266, k266, n266⟩, -, X266, ⟨Lc266, hQ266, l266, y266, z266⟩, st266⟩ := Y265.virtualBack hx (y := (⟨"com/example/terms_to_scores/termstoscores/index/Postings", "getFreq", "(I)I"⟩ : MethodName)) (z := (⟨"com/example/terms_to_scores/termstoscores/index/Postings", "getFreq", "(I)I"⟩ : MethodName)) hown (mvT hZ (hw _ (List.mem_of_getElem? (i := 68) rfl))) (mvT hZ (hw _ (List.mem_of_getElem? (i := 69) rfl))) (notFace_of_selects (args := #[]) (mvT hZ (hw _ (List.mem_of_getElem? (i := 71) rfl)))) (mvT hZ (hw _ (List.mem_of_getElem? (i := 71) rfl))) (mvT hZ (hw _ (List.mem_of_getElem? (i := 70) rfl))) (by decide) (backOf (W := 0) (rmgfr l Z a0 hw [] b136 ea260 ke260 en260 ze260 nn ((c1 + c3 + c5 + c7 + c9)) 0 (0) (c1) T260.heap n0 Z0_v262 Fentries_260 Fsn FpositionCount_260 Ve260 hszn (by omega) hn1 hents.1 (fun q => hents.2.1 q) (fun q => own_cum0 hFS q) (by omega) (by omega)) hZ (hw _ (List.mem_of_getElem? (i := 72) rfl)) (hw _ (List.mem_of_getElem? (i := 18) rfl)) (by decide) (by decide)) q266a q266c (g := (mkF m 520 (LS_IIIIIIIIIIIIIIIRRRIRu p0 p1 p2 p3 (own_N nn) (own_N c1) (own_N c3) (own_N c5) (own_N c7) (own_N c9) (own_N c1) (own_N (c1 + c3)) (own_N (c1 + c3 + c5)) (own_N (c1 + c3 + c5 + c7)) (own_N (c1 + c3 + c5 + c7 + c9)) b11 b87 b119 (own_N ct) b136) [(.int (0 : Int32)), (.ref b136)])) rfl (by rw [hml]; rfl) (Steps.refl _) (argsL := [(.int (0 : Int32))]) (rest := []) (lenOf pd__I_I rfl) rfl (by show 2 * 0 + _ ≤ _; exact Nat.le_of_eq rfl) (hb hby at_520) (fun _ _ => ⟨rfl, e263, (by decide : 11 + 0 ≤ _), (by decide : 190 + 0 ≤ _)⟩)
  dsimp only [Pt.U, Pt.locs, Pt.cells, Pt.slots] at X266 l266 y266 z266 st266 hQ266
  subst l266 y266 z266
  obtain ⟨rfl, N266q, e266⟩ := hQ266
  have N266 := Fr.app M265 N266q
  refine own_go (B := T266.setTop (mkF m 523 (LS_IIIIIIIIIIIIIIIRRRIRu p0 p1 p2 p3 (own_N nn) (own_N c1) (own_N c3) (own_N c5) (own_N c7) (own_N c9) (own_N c1) (own_N (c1 + c3)) (own_N (c1 + c3 + c5)) (own_N (c1 + c3 + c5 + c7)) (own_N (c1 + c3 + c5 + c7 + c9)) b11 b87 b119 (own_N ct) b136) [(.int (own_N ((c1) - (0))))])) (fun t k => st266.trans k) ?_
  refine own_hide X266 N266 fun lc267 Y267 M267 => ?_
  refine own_go (B := T266.setTop (mkF m 538 (LS_IIIIIIIIIIIIIIIRRRIRI p0 p1 p2 p3 (own_N nn) (own_N c1) (own_N c3) (own_N c5) (own_N c7) (own_N c9) (own_N c1) (own_N (c1 + c3)) (own_N (c1 + c3 + c5)) (own_N (c1 + c3 + c5 + c7)) (own_N (c1 + c3 + c5 + c7 + c9)) b11 b87 b119 (own_N ct) b136 (1 : Int32)) [(.int (1 : Int32)), (.int (own_N nn))])) (fun t k => ?_) ?_
  · refine XS.iload Y267.here hx rfl (hb hby at_523) rfl ?_
    refine XS.icmpNo Y267.here hx rfl (hb hby at_525) rfl (teq (congrArg own_N (by omega))).2 ?_
    show Steps p.tables e below (T266.setTop (mkF m 528 (LS_IIIIIIIIIIIIIIIRRRIRu p0 p1 p2 p3 (own_N nn) (own_N c1) (own_N c3) (own_N c5) (own_N c7) (own_N c9) (own_N c1) (own_N (c1 + c3)) (own_N (c1 + c3 + c5)) (own_N (c1 + c3 + c5 + c7)) (own_N (c1 + c3 + c5 + c7 + c9)) b11 b87 b119 (own_N ct) b136) [])) _
    refine XS.iconst Y267.here hx rfl (hb hby at_528) ?_
    refine XS.goto Y267.here hx rfl (pc0 := 529) (pc' := 533) rfl (hb hby at_529) (by decide) (by decide) ?_
    refine XS.istore Y267.here hx rfl (hb hby at_533) rfl (l' := (LS_IIIIIIIIIIIIIIIRRRIRI p0 p1 p2 p3 (own_N nn) (own_N c1) (own_N c3) (own_N c5) (own_N c7) (own_N c9) (own_N c1) (own_N (c1 + c3)) (own_N (c1 + c3 + c5)) (own_N (c1 + c3 + c5 + c7)) (own_N (c1 + c3 + c5 + c7 + c9)) b11 b87 b119 (own_N ct) b136 (1 : Int32))) rfl ?_
    show Steps p.tables e below (T266.setTop (mkF m 535 (LS_IIIIIIIIIIIIIIIRRRIRI p0 p1 p2 p3 (own_N nn) (own_N c1) (own_N c3) (own_N c5) (own_N c7) (own_N c9) (own_N c1) (own_N (c1 + c3)) (own_N (c1 + c3 + c5)) (own_N (c1 + c3 + c5 + c7)) (own_N (c1 + c3 + c5 + c7 + c9)) b11 b87 b119 (own_N ct) b136 (1 : Int32)) [])) _
    refine XS.iload Y267.here hx rfl (hb hby at_535) rfl ?_
    refine XS.iconst Y267.here hx rfl (hb hby at_537) ?_
    exact k
  by_cases hc538_268 : (1 : Int32) < (own_N nn)
  · refine own_go (B := T266.setTop (mkF m 549 (LS_IIIIIIIIIIIIIIIRRRIRI p0 p1 p2 p3 (own_N nn) (own_N c1) (own_N c3) (own_N c5) (own_N c7) (own_N c9) (own_N c1) (own_N (c1 + c3)) (own_N (c1 + c3 + c5)) (own_N (c1 + c3 + c5 + c7)) (own_N (c1 + c3 + c5 + c7 + c9)) b11 b87 b119 (own_N ct) b136 (1 : Int32)) [(.int (1 : Int32)), (.ref b136)])) (fun t k => ?_) ?_
    · refine XS.icmpNo Y267.here hx rfl (hb hby at_538) rfl (tlt hc538_268).2.2.2 ?_
      refine XS.iload Y267.here hx rfl (hb hby at_541) rfl ?_
      show Steps p.tables e below (T266.setTop (mkF m 543 (LS_IIIIIIIIIIIIIIIRRRIRI p0 p1 p2 p3 (own_N nn) (own_N c1) (own_N c3) (own_N c5) (own_N c7) (own_N c9) (own_N c1) (own_N (c1 + c3)) (own_N (c1 + c3 + c5)) (own_N (c1 + c3 + c5 + c7)) (own_N (c1 + c3 + c5 + c7 + c9)) b11 b87 b119 (own_N ct) b136 (1 : Int32)) [(.int (1 : Int32))])) _
      refine XS.ifNo Y267.here hx rfl (hb hby at_543) rfl ((if0 _ _).trans (feq (by decide : ¬ ((1 : Int32) = (0 : Int32)))).1) ?_
      refine XS.aload Y267.here hx rfl (hb hby at_546) rfl rfl ?_
      refine XS.iconst Y267.here hx rfl (hb hby at_548) ?_
      exact k
    obtain ⟨cq269, kq269, q269a, q269b, q269c⟩ := isOf hZ e266 A136_v264
    obtain ⟨_, _, ⟨T269, L269, k269, n269⟩, -, X269, ⟨Lc269, hQ269, l269, y269, z269⟩, st269⟩ := Y267.virtualBack hx (y := (⟨"com/example/terms_to_scores/termstoscores/index/Postings", "getFreq", "(I)I"⟩ : MethodName)) (z := (⟨"com/example/terms_to_scores/termstoscores/index/Postings", "getFreq", "(I)I"⟩ : MethodName)) hown (mvT hZ (hw _ (List.mem_of_getElem? (i := 68) rfl))) (mvT hZ (hw _ (List.mem_of_getElem? (i := 69) rfl))) (notFace_of_selects (args := #[]) (mvT hZ (hw _ (List.mem_of_getElem? (i := 71) rfl)))) (mvT hZ (hw _ (List.mem_of_getElem? (i := 71) rfl))) (mvT hZ (hw _ (List.mem_of_getElem? (i := 70) rfl))) (by decide) (backOf (W := 0) (rmgfr l Z a0 hw [] b136 ea260 ke260 en260 ze260 nn ((c1 + c3 + c5 + c7 + c9)) 1 (c1) (c1 + c3) T260.heap n0 Z0_v262 Fentries_260 Fsn FpositionCount_260 Ve260 hszn (by omega) (own_lt (x := 1) (n := nn) (by decide) (by omega) hc538_268) (hents.2.1 (own_lt (x := 1) (n := nn) (by decide) (by omega) hc538_268)) (fun q => hents.2.2.1 q) (fun q => own_cum1 hFS q) (by omega) (by omega)) hZ (hw _ (List.mem_of_getElem? (i := 72) rfl)) (hw _ (List.mem_of_getElem? (i := 18) rfl)) (by decide) (by decide)) q269a q269c (g := (mkF m 549 (LS_IIIIIIIIIIIIIIIRRRIRI p0 p1 p2 p3 (own_N nn) (own_N c1) (own_N c3) (own_N c5) (own_N c7) (own_N c9) (own_N c1) (own_N (c1 + c3)) (own_N (c1 + c3 + c5)) (own_N (c1 + c3 + c5 + c7)) (own_N (c1 + c3 + c5 + c7 + c9)) b11 b87 b119 (own_N ct) b136 (1 : Int32)) [(.int (1 : Int32)), (.ref b136)])) rfl (by rw [hml]; rfl) (Steps.refl _) (argsL := [(.int (1 : Int32))]) (rest := []) (lenOf pd__I_I rfl) rfl (by show 2 * 0 + _ ≤ _; exact Nat.le_of_eq rfl) (hb hby at_549) (fun _ _ => ⟨rfl, e266, (by decide : 11 + 0 ≤ _), (by decide : 190 + 0 ≤ _)⟩)
    dsimp only [Pt.U, Pt.locs, Pt.cells, Pt.slots] at X269 l269 y269 z269 st269 hQ269
    subst l269 y269 z269
    obtain ⟨rfl, N269q, e269⟩ := hQ269
    have N269 := Fr.app M267 N269q
    refine own_go (B := T269.setTop (mkF m 552 (LS_IIIIIIIIIIIIIIIRRRIRI p0 p1 p2 p3 (own_N nn) (own_N c1) (own_N c3) (own_N c5) (own_N c7) (own_N c9) (own_N c1) (own_N (c1 + c3)) (own_N (c1 + c3 + c5)) (own_N (c1 + c3 + c5 + c7)) (own_N (c1 + c3 + c5 + c7 + c9)) b11 b87 b119 (own_N ct) b136 (1 : Int32)) [(.int (own_N ((c1 + c3) - (c1))))])) (fun t k => st269.trans k) ?_
    refine own_hide X269 N269 fun lc270 Y270 M270 => ?_
    refine own_go (B := T269.setTop (mkF m 567 (LS_IIIIIIIIIIIIIIIRRRIRI p0 p1 p2 p3 (own_N nn) (own_N c1) (own_N c3) (own_N c5) (own_N c7) (own_N c9) (own_N c1) (own_N (c1 + c3)) (own_N (c1 + c3 + c5)) (own_N (c1 + c3 + c5 + c7)) (own_N (c1 + c3 + c5 + c7 + c9)) b11 b87 b119 (own_N ct) b136 (1 : Int32)) [(.int (2 : Int32)), (.int (own_N nn))])) (fun t k => ?_) ?_
    · refine XS.iload Y270.here hx rfl (hb hby at_552) rfl ?_
      refine XS.icmpNo Y270.here hx rfl (hb hby at_554) rfl (teq (congrArg own_N (by omega))).2 ?_
      show Steps p.tables e below (T269.setTop (mkF m 557 (LS_IIIIIIIIIIIIIIIRRRIRI p0 p1 p2 p3 (own_N nn) (own_N c1) (own_N c3) (own_N c5) (own_N c7) (own_N c9) (own_N c1) (own_N (c1 + c3)) (own_N (c1 + c3 + c5)) (own_N (c1 + c3 + c5 + c7)) (own_N (c1 + c3 + c5 + c7 + c9)) b11 b87 b119 (own_N ct) b136 (1 : Int32)) [])) _
      refine XS.iconst Y270.here hx rfl (hb hby at_557) ?_
      refine XS.goto Y270.here hx rfl (pc0 := 558) (pc' := 562) rfl (hb hby at_558) (by decide) (by decide) ?_
      refine XS.istore Y270.here hx rfl (hb hby at_562) rfl (l' := (LS_IIIIIIIIIIIIIIIRRRIRI p0 p1 p2 p3 (own_N nn) (own_N c1) (own_N c3) (own_N c5) (own_N c7) (own_N c9) (own_N c1) (own_N (c1 + c3)) (own_N (c1 + c3 + c5)) (own_N (c1 + c3 + c5 + c7)) (own_N (c1 + c3 + c5 + c7 + c9)) b11 b87 b119 (own_N ct) b136 (1 : Int32))) rfl ?_
      show Steps p.tables e below (T269.setTop (mkF m 564 (LS_IIIIIIIIIIIIIIIRRRIRI p0 p1 p2 p3 (own_N nn) (own_N c1) (own_N c3) (own_N c5) (own_N c7) (own_N c9) (own_N c1) (own_N (c1 + c3)) (own_N (c1 + c3 + c5)) (own_N (c1 + c3 + c5 + c7)) (own_N (c1 + c3 + c5 + c7 + c9)) b11 b87 b119 (own_N ct) b136 (1 : Int32)) [])) _
      refine XS.iload Y270.here hx rfl (hb hby at_564) rfl ?_
      refine XS.iconst Y270.here hx rfl (hb hby at_566) ?_
      exact k
    by_cases hc567_271 : (2 : Int32) < (own_N nn)
    · refine own_go (B := T269.setTop (mkF m 578 (LS_IIIIIIIIIIIIIIIRRRIRI p0 p1 p2 p3 (own_N nn) (own_N c1) (own_N c3) (own_N c5) (own_N c7) (own_N c9) (own_N c1) (own_N (c1 + c3)) (own_N (c1 + c3 + c5)) (own_N (c1 + c3 + c5 + c7)) (own_N (c1 + c3 + c5 + c7 + c9)) b11 b87 b119 (own_N ct) b136 (1 : Int32)) [(.int (2 : Int32)), (.ref b136)])) (fun t k => ?_) ?_
      · refine XS.icmpNo Y270.here hx rfl (hb hby at_567) rfl (tlt hc567_271).2.2.2 ?_
        refine XS.iload Y270.here hx rfl (hb hby at_570) rfl ?_
        show Steps p.tables e below (T269.setTop (mkF m 572 (LS_IIIIIIIIIIIIIIIRRRIRI p0 p1 p2 p3 (own_N nn) (own_N c1) (own_N c3) (own_N c5) (own_N c7) (own_N c9) (own_N c1) (own_N (c1 + c3)) (own_N (c1 + c3 + c5)) (own_N (c1 + c3 + c5 + c7)) (own_N (c1 + c3 + c5 + c7 + c9)) b11 b87 b119 (own_N ct) b136 (1 : Int32)) [(.int (1 : Int32))])) _
        refine XS.ifNo Y270.here hx rfl (hb hby at_572) rfl ((if0 _ _).trans (feq (by decide : ¬ ((1 : Int32) = (0 : Int32)))).1) ?_
        refine XS.aload Y270.here hx rfl (hb hby at_575) rfl rfl ?_
        refine XS.iconst Y270.here hx rfl (hb hby at_577) ?_
        exact k
      obtain ⟨cq272, kq272, q272a, q272b, q272c⟩ := isOf hZ e269 A136_v264
      obtain ⟨_, _, ⟨T272, L272, k272, n272⟩, -, X272, ⟨Lc272, hQ272, l272, y272, z272⟩, st272⟩ := Y270.virtualBack hx (y := (⟨"com/example/terms_to_scores/termstoscores/index/Postings", "getFreq", "(I)I"⟩ : MethodName)) (z := (⟨"com/example/terms_to_scores/termstoscores/index/Postings", "getFreq", "(I)I"⟩ : MethodName)) hown (mvT hZ (hw _ (List.mem_of_getElem? (i := 68) rfl))) (mvT hZ (hw _ (List.mem_of_getElem? (i := 69) rfl))) (notFace_of_selects (args := #[]) (mvT hZ (hw _ (List.mem_of_getElem? (i := 71) rfl)))) (mvT hZ (hw _ (List.mem_of_getElem? (i := 71) rfl))) (mvT hZ (hw _ (List.mem_of_getElem? (i := 70) rfl))) (by decide) (backOf (W := 0) (rmgfr l Z a0 hw [] b136 ea260 ke260 en260 ze260 nn ((c1 + c3 + c5 + c7 + c9)) 2 (c1 + c3) (c1 + c3 + c5) T260.heap n0 Z0_v262 Fentries_260 Fsn FpositionCount_260 Ve260 hszn (by omega) (own_lt (x := 2) (n := nn) (by decide) (by omega) hc567_271) (hents.2.2.1 (own_lt (x := 2) (n := nn) (by decide) (by omega) hc567_271)) (fun q => hents.2.2.2.1 q) (fun q => own_cum2 hFS q) (by omega) (by omega)) hZ (hw _ (List.mem_of_getElem? (i := 72) rfl)) (hw _ (List.mem_of_getElem? (i := 18) rfl)) (by decide) (by decide)) q272a q272c (g := (mkF m 578 (LS_IIIIIIIIIIIIIIIRRRIRI p0 p1 p2 p3 (own_N nn) (own_N c1) (own_N c3) (own_N c5) (own_N c7) (own_N c9) (own_N c1) (own_N (c1 + c3)) (own_N (c1 + c3 + c5)) (own_N (c1 + c3 + c5 + c7)) (own_N (c1 + c3 + c5 + c7 + c9)) b11 b87 b119 (own_N ct) b136 (1 : Int32)) [(.int (2 : Int32)), (.ref b136)])) rfl (by rw [hml]; rfl) (Steps.refl _) (argsL := [(.int (2 : Int32))]) (rest := []) (lenOf pd__I_I rfl) rfl (by show 2 * 0 + _ ≤ _; exact Nat.le_of_eq rfl) (hb hby at_578) (fun _ _ => ⟨rfl, e269, (by decide : 11 + 0 ≤ _), (by decide : 190 + 0 ≤ _)⟩)
      dsimp only [Pt.U, Pt.locs, Pt.cells, Pt.slots] at X272 l272 y272 z272 st272 hQ272
      subst l272 y272 z272
      obtain ⟨rfl, N272q, e272⟩ := hQ272
      have N272 := Fr.app M270 N272q
      refine own_go (B := T272.setTop (mkF m 581 (LS_IIIIIIIIIIIIIIIRRRIRI p0 p1 p2 p3 (own_N nn) (own_N c1) (own_N c3) (own_N c5) (own_N c7) (own_N c9) (own_N c1) (own_N (c1 + c3)) (own_N (c1 + c3 + c5)) (own_N (c1 + c3 + c5 + c7)) (own_N (c1 + c3 + c5 + c7 + c9)) b11 b87 b119 (own_N ct) b136 (1 : Int32)) [(.int (own_N ((c1 + c3 + c5) - (c1 + c3))))])) (fun t k => st272.trans k) ?_
      refine own_hide X272 N272 fun lc273 Y273 M273 => ?_
      refine own_go (B := T272.setTop (mkF m 596 (LS_IIIIIIIIIIIIIIIRRRIRI p0 p1 p2 p3 (own_N nn) (own_N c1) (own_N c3) (own_N c5) (own_N c7) (own_N c9) (own_N c1) (own_N (c1 + c3)) (own_N (c1 + c3 + c5)) (own_N (c1 + c3 + c5 + c7)) (own_N (c1 + c3 + c5 + c7 + c9)) b11 b87 b119 (own_N ct) b136 (1 : Int32)) [(.int (3 : Int32)), (.int (own_N nn))])) (fun t k => ?_) ?_
      · refine XS.iload Y273.here hx rfl (hb hby at_581) rfl ?_
        refine XS.icmpNo Y273.here hx rfl (hb hby at_583) rfl (teq (congrArg own_N (by omega))).2 ?_
        show Steps p.tables e below (T272.setTop (mkF m 586 (LS_IIIIIIIIIIIIIIIRRRIRI p0 p1 p2 p3 (own_N nn) (own_N c1) (own_N c3) (own_N c5) (own_N c7) (own_N c9) (own_N c1) (own_N (c1 + c3)) (own_N (c1 + c3 + c5)) (own_N (c1 + c3 + c5 + c7)) (own_N (c1 + c3 + c5 + c7 + c9)) b11 b87 b119 (own_N ct) b136 (1 : Int32)) [])) _
        refine XS.iconst Y273.here hx rfl (hb hby at_586) ?_
        refine XS.goto Y273.here hx rfl (pc0 := 587) (pc' := 591) rfl (hb hby at_587) (by decide) (by decide) ?_
        refine XS.istore Y273.here hx rfl (hb hby at_591) rfl (l' := (LS_IIIIIIIIIIIIIIIRRRIRI p0 p1 p2 p3 (own_N nn) (own_N c1) (own_N c3) (own_N c5) (own_N c7) (own_N c9) (own_N c1) (own_N (c1 + c3)) (own_N (c1 + c3 + c5)) (own_N (c1 + c3 + c5 + c7)) (own_N (c1 + c3 + c5 + c7 + c9)) b11 b87 b119 (own_N ct) b136 (1 : Int32))) rfl ?_
        show Steps p.tables e below (T272.setTop (mkF m 593 (LS_IIIIIIIIIIIIIIIRRRIRI p0 p1 p2 p3 (own_N nn) (own_N c1) (own_N c3) (own_N c5) (own_N c7) (own_N c9) (own_N c1) (own_N (c1 + c3)) (own_N (c1 + c3 + c5)) (own_N (c1 + c3 + c5 + c7)) (own_N (c1 + c3 + c5 + c7 + c9)) b11 b87 b119 (own_N ct) b136 (1 : Int32)) [])) _
        refine XS.iload Y273.here hx rfl (hb hby at_593) rfl ?_
        refine XS.iconst Y273.here hx rfl (hb hby at_595) ?_
        exact k
      by_cases hc596_274 : (3 : Int32) < (own_N nn)
      · refine own_go (B := T272.setTop (mkF m 607 (LS_IIIIIIIIIIIIIIIRRRIRI p0 p1 p2 p3 (own_N nn) (own_N c1) (own_N c3) (own_N c5) (own_N c7) (own_N c9) (own_N c1) (own_N (c1 + c3)) (own_N (c1 + c3 + c5)) (own_N (c1 + c3 + c5 + c7)) (own_N (c1 + c3 + c5 + c7 + c9)) b11 b87 b119 (own_N ct) b136 (1 : Int32)) [(.int (3 : Int32)), (.ref b136)])) (fun t k => ?_) ?_
        · refine XS.icmpNo Y273.here hx rfl (hb hby at_596) rfl (tlt hc596_274).2.2.2 ?_
          refine XS.iload Y273.here hx rfl (hb hby at_599) rfl ?_
          show Steps p.tables e below (T272.setTop (mkF m 601 (LS_IIIIIIIIIIIIIIIRRRIRI p0 p1 p2 p3 (own_N nn) (own_N c1) (own_N c3) (own_N c5) (own_N c7) (own_N c9) (own_N c1) (own_N (c1 + c3)) (own_N (c1 + c3 + c5)) (own_N (c1 + c3 + c5 + c7)) (own_N (c1 + c3 + c5 + c7 + c9)) b11 b87 b119 (own_N ct) b136 (1 : Int32)) [(.int (1 : Int32))])) _
          refine XS.ifNo Y273.here hx rfl (hb hby at_601) rfl ((if0 _ _).trans (feq (by decide : ¬ ((1 : Int32) = (0 : Int32)))).1) ?_
          refine XS.aload Y273.here hx rfl (hb hby at_604) rfl rfl ?_
          refine XS.iconst Y273.here hx rfl (hb hby at_606) ?_
          exact k
        obtain ⟨cq275, kq275, q275a, q275b, q275c⟩ := isOf hZ e272 A136_v264
        obtain ⟨_, _, ⟨T275, L275, k275, n275⟩, -, X275, ⟨Lc275, hQ275, l275, y275, z275⟩, st275⟩ := Y273.virtualBack hx (y := (⟨"com/example/terms_to_scores/termstoscores/index/Postings", "getFreq", "(I)I"⟩ : MethodName)) (z := (⟨"com/example/terms_to_scores/termstoscores/index/Postings", "getFreq", "(I)I"⟩ : MethodName)) hown (mvT hZ (hw _ (List.mem_of_getElem? (i := 68) rfl))) (mvT hZ (hw _ (List.mem_of_getElem? (i := 69) rfl))) (notFace_of_selects (args := #[]) (mvT hZ (hw _ (List.mem_of_getElem? (i := 71) rfl)))) (mvT hZ (hw _ (List.mem_of_getElem? (i := 71) rfl))) (mvT hZ (hw _ (List.mem_of_getElem? (i := 70) rfl))) (by decide) (backOf (W := 0) (rmgfr l Z a0 hw [] b136 ea260 ke260 en260 ze260 nn ((c1 + c3 + c5 + c7 + c9)) 3 (c1 + c3 + c5) (c1 + c3 + c5 + c7) T260.heap n0 Z0_v262 Fentries_260 Fsn FpositionCount_260 Ve260 hszn (by omega) (own_lt (x := 3) (n := nn) (by decide) (by omega) hc596_274) (hents.2.2.2.1 (own_lt (x := 3) (n := nn) (by decide) (by omega) hc596_274)) (fun q => hents.2.2.2.2 q) (fun q => own_cum3 hFS q) (by omega) (by omega)) hZ (hw _ (List.mem_of_getElem? (i := 72) rfl)) (hw _ (List.mem_of_getElem? (i := 18) rfl)) (by decide) (by decide)) q275a q275c (g := (mkF m 607 (LS_IIIIIIIIIIIIIIIRRRIRI p0 p1 p2 p3 (own_N nn) (own_N c1) (own_N c3) (own_N c5) (own_N c7) (own_N c9) (own_N c1) (own_N (c1 + c3)) (own_N (c1 + c3 + c5)) (own_N (c1 + c3 + c5 + c7)) (own_N (c1 + c3 + c5 + c7 + c9)) b11 b87 b119 (own_N ct) b136 (1 : Int32)) [(.int (3 : Int32)), (.ref b136)])) rfl (by rw [hml]; rfl) (Steps.refl _) (argsL := [(.int (3 : Int32))]) (rest := []) (lenOf pd__I_I rfl) rfl (by show 2 * 0 + _ ≤ _; exact Nat.le_of_eq rfl) (hb hby at_607) (fun _ _ => ⟨rfl, e272, (by decide : 11 + 0 ≤ _), (by decide : 190 + 0 ≤ _)⟩)
        dsimp only [Pt.U, Pt.locs, Pt.cells, Pt.slots] at X275 l275 y275 z275 st275 hQ275
        subst l275 y275 z275
        obtain ⟨rfl, N275q, e275⟩ := hQ275
        have N275 := Fr.app M273 N275q
        refine own_go (B := T275.setTop (mkF m 610 (LS_IIIIIIIIIIIIIIIRRRIRI p0 p1 p2 p3 (own_N nn) (own_N c1) (own_N c3) (own_N c5) (own_N c7) (own_N c9) (own_N c1) (own_N (c1 + c3)) (own_N (c1 + c3 + c5)) (own_N (c1 + c3 + c5 + c7)) (own_N (c1 + c3 + c5 + c7 + c9)) b11 b87 b119 (own_N ct) b136 (1 : Int32)) [(.int (own_N ((c1 + c3 + c5 + c7) - (c1 + c3 + c5))))])) (fun t k => st275.trans k) ?_
        refine own_hide X275 N275 fun lc276 Y276 M276 => ?_
        refine own_go (B := T275.setTop (mkF m 625 (LS_IIIIIIIIIIIIIIIRRRIRI p0 p1 p2 p3 (own_N nn) (own_N c1) (own_N c3) (own_N c5) (own_N c7) (own_N c9) (own_N c1) (own_N (c1 + c3)) (own_N (c1 + c3 + c5)) (own_N (c1 + c3 + c5 + c7)) (own_N (c1 + c3 + c5 + c7 + c9)) b11 b87 b119 (own_N ct) b136 (1 : Int32)) [(.int (4 : Int32)), (.int (own_N nn))])) (fun t k => ?_) ?_
        · refine XS.iload Y276.here hx rfl (hb hby at_610) rfl ?_
          refine XS.icmpNo Y276.here hx rfl (hb hby at_612) rfl (teq (congrArg own_N (by omega))).2 ?_
          show Steps p.tables e below (T275.setTop (mkF m 615 (LS_IIIIIIIIIIIIIIIRRRIRI p0 p1 p2 p3 (own_N nn) (own_N c1) (own_N c3) (own_N c5) (own_N c7) (own_N c9) (own_N c1) (own_N (c1 + c3)) (own_N (c1 + c3 + c5)) (own_N (c1 + c3 + c5 + c7)) (own_N (c1 + c3 + c5 + c7 + c9)) b11 b87 b119 (own_N ct) b136 (1 : Int32)) [])) _
          refine XS.iconst Y276.here hx rfl (hb hby at_615) ?_
          refine XS.goto Y276.here hx rfl (pc0 := 616) (pc' := 620) rfl (hb hby at_616) (by decide) (by decide) ?_
          refine XS.istore Y276.here hx rfl (hb hby at_620) rfl (l' := (LS_IIIIIIIIIIIIIIIRRRIRI p0 p1 p2 p3 (own_N nn) (own_N c1) (own_N c3) (own_N c5) (own_N c7) (own_N c9) (own_N c1) (own_N (c1 + c3)) (own_N (c1 + c3 + c5)) (own_N (c1 + c3 + c5 + c7)) (own_N (c1 + c3 + c5 + c7 + c9)) b11 b87 b119 (own_N ct) b136 (1 : Int32))) rfl ?_
          show Steps p.tables e below (T275.setTop (mkF m 622 (LS_IIIIIIIIIIIIIIIRRRIRI p0 p1 p2 p3 (own_N nn) (own_N c1) (own_N c3) (own_N c5) (own_N c7) (own_N c9) (own_N c1) (own_N (c1 + c3)) (own_N (c1 + c3 + c5)) (own_N (c1 + c3 + c5 + c7)) (own_N (c1 + c3 + c5 + c7 + c9)) b11 b87 b119 (own_N ct) b136 (1 : Int32)) [])) _
          refine XS.iload Y276.here hx rfl (hb hby at_622) rfl ?_
          refine XS.iconst Y276.here hx rfl (hb hby at_624) ?_
          exact k
        by_cases hc625_277 : (4 : Int32) < (own_N nn)
        · refine own_go (B := T275.setTop (mkF m 636 (LS_IIIIIIIIIIIIIIIRRRIRI p0 p1 p2 p3 (own_N nn) (own_N c1) (own_N c3) (own_N c5) (own_N c7) (own_N c9) (own_N c1) (own_N (c1 + c3)) (own_N (c1 + c3 + c5)) (own_N (c1 + c3 + c5 + c7)) (own_N (c1 + c3 + c5 + c7 + c9)) b11 b87 b119 (own_N ct) b136 (1 : Int32)) [(.int (4 : Int32)), (.ref b136)])) (fun t k => ?_) ?_
          · refine XS.icmpNo Y276.here hx rfl (hb hby at_625) rfl (tlt hc625_277).2.2.2 ?_
            refine XS.iload Y276.here hx rfl (hb hby at_628) rfl ?_
            show Steps p.tables e below (T275.setTop (mkF m 630 (LS_IIIIIIIIIIIIIIIRRRIRI p0 p1 p2 p3 (own_N nn) (own_N c1) (own_N c3) (own_N c5) (own_N c7) (own_N c9) (own_N c1) (own_N (c1 + c3)) (own_N (c1 + c3 + c5)) (own_N (c1 + c3 + c5 + c7)) (own_N (c1 + c3 + c5 + c7 + c9)) b11 b87 b119 (own_N ct) b136 (1 : Int32)) [(.int (1 : Int32))])) _
            refine XS.ifNo Y276.here hx rfl (hb hby at_630) rfl ((if0 _ _).trans (feq (by decide : ¬ ((1 : Int32) = (0 : Int32)))).1) ?_
            refine XS.aload Y276.here hx rfl (hb hby at_633) rfl rfl ?_
            refine XS.iconst Y276.here hx rfl (hb hby at_635) ?_
            exact k
          obtain ⟨cq278, kq278, q278a, q278b, q278c⟩ := isOf hZ e275 A136_v264
          obtain ⟨_, _, ⟨T278, L278, k278, n278⟩, -, X278, ⟨Lc278, hQ278, l278, y278, z278⟩, st278⟩ := Y276.virtualBack hx (y := (⟨"com/example/terms_to_scores/termstoscores/index/Postings", "getFreq", "(I)I"⟩ : MethodName)) (z := (⟨"com/example/terms_to_scores/termstoscores/index/Postings", "getFreq", "(I)I"⟩ : MethodName)) hown (mvT hZ (hw _ (List.mem_of_getElem? (i := 68) rfl))) (mvT hZ (hw _ (List.mem_of_getElem? (i := 69) rfl))) (notFace_of_selects (args := #[]) (mvT hZ (hw _ (List.mem_of_getElem? (i := 71) rfl)))) (mvT hZ (hw _ (List.mem_of_getElem? (i := 71) rfl))) (mvT hZ (hw _ (List.mem_of_getElem? (i := 70) rfl))) (by decide) (backOf (W := 0) (rmgfr l Z a0 hw [] b136 ea260 ke260 en260 ze260 nn ((c1 + c3 + c5 + c7 + c9)) 4 (c1 + c3 + c5 + c7) (c1 + c3 + c5 + c7 + c9) T260.heap n0 Z0_v262 Fentries_260 Fsn FpositionCount_260 Ve260 hszn (by omega) (own_lt (x := 4) (n := nn) (by decide) (by omega) hc625_277) (hents.2.2.2.2 (own_lt (x := 4) (n := nn) (by decide) (by omega) hc625_277)) (fun q => absurd q (by omega)) (fun q => own_cum4 hFS q) (by omega) (by omega)) hZ (hw _ (List.mem_of_getElem? (i := 72) rfl)) (hw _ (List.mem_of_getElem? (i := 18) rfl)) (by decide) (by decide)) q278a q278c (g := (mkF m 636 (LS_IIIIIIIIIIIIIIIRRRIRI p0 p1 p2 p3 (own_N nn) (own_N c1) (own_N c3) (own_N c5) (own_N c7) (own_N c9) (own_N c1) (own_N (c1 + c3)) (own_N (c1 + c3 + c5)) (own_N (c1 + c3 + c5 + c7)) (own_N (c1 + c3 + c5 + c7 + c9)) b11 b87 b119 (own_N ct) b136 (1 : Int32)) [(.int (4 : Int32)), (.ref b136)])) rfl (by rw [hml]; rfl) (Steps.refl _) (argsL := [(.int (4 : Int32))]) (rest := []) (lenOf pd__I_I rfl) rfl (by show 2 * 0 + _ ≤ _; exact Nat.le_of_eq rfl) (hb hby at_636) (fun _ _ => ⟨rfl, e275, (by decide : 11 + 0 ≤ _), (by decide : 190 + 0 ≤ _)⟩)
          dsimp only [Pt.U, Pt.locs, Pt.cells, Pt.slots] at X278 l278 y278 z278 st278 hQ278
          subst l278 y278 z278
          obtain ⟨rfl, N278q, e278⟩ := hQ278
          have N278 := Fr.app M276 N278q
          refine own_go (B := T278.setTop (mkF m 639 (LS_IIIIIIIIIIIIIIIRRRIRI p0 p1 p2 p3 (own_N nn) (own_N c1) (own_N c3) (own_N c5) (own_N c7) (own_N c9) (own_N c1) (own_N (c1 + c3)) (own_N (c1 + c3 + c5)) (own_N (c1 + c3 + c5 + c7)) (own_N (c1 + c3 + c5 + c7 + c9)) b11 b87 b119 (own_N ct) b136 (1 : Int32)) [(.int (own_N ((c1 + c3 + c5 + c7 + c9) - (c1 + c3 + c5 + c7))))])) (fun t k => st278.trans k) ?_
          refine own_hide X278 N278 fun lc279 Y279 M279 => ?_
          refine own_go (B := T278.setTop (mkF m 653 (LS_IIIIIIIIIIIIIIIRRRIRI p0 p1 p2 p3 (own_N nn) (own_N c1) (own_N c3) (own_N c5) (own_N c7) (own_N c9) (own_N c1) (own_N (c1 + c3)) (own_N (c1 + c3 + c5)) (own_N (c1 + c3 + c5 + c7)) (own_N (c1 + c3 + c5 + c7 + c9)) b11 b87 b119 (own_N ct) b136 (1 : Int32)) [(.int (1 : Int32))])) (fun t k => ?_) ?_
          · refine XS.iload Y279.here hx rfl (hb hby at_639) rfl ?_
            refine XS.icmpNo Y279.here hx rfl (hb hby at_641) rfl (teq (congrArg own_N (by omega))).2 ?_
            show Steps p.tables e below (T278.setTop (mkF m 644 (LS_IIIIIIIIIIIIIIIRRRIRI p0 p1 p2 p3 (own_N nn) (own_N c1) (own_N c3) (own_N c5) (own_N c7) (own_N c9) (own_N c1) (own_N (c1 + c3)) (own_N (c1 + c3 + c5)) (own_N (c1 + c3 + c5 + c7)) (own_N (c1 + c3 + c5 + c7 + c9)) b11 b87 b119 (own_N ct) b136 (1 : Int32)) [])) _
            refine XS.iconst Y279.here hx rfl (hb hby at_644) ?_
            refine XS.goto Y279.here hx rfl (pc0 := 645) (pc' := 649) rfl (hb hby at_645) (by decide) (by decide) ?_
            refine XS.istore Y279.here hx rfl (hb hby at_649) rfl (l' := (LS_IIIIIIIIIIIIIIIRRRIRI p0 p1 p2 p3 (own_N nn) (own_N c1) (own_N c3) (own_N c5) (own_N c7) (own_N c9) (own_N c1) (own_N (c1 + c3)) (own_N (c1 + c3 + c5)) (own_N (c1 + c3 + c5 + c7)) (own_N (c1 + c3 + c5 + c7 + c9)) b11 b87 b119 (own_N ct) b136 (1 : Int32))) rfl ?_
            show Steps p.tables e below (T278.setTop (mkF m 651 (LS_IIIIIIIIIIIIIIIRRRIRI p0 p1 p2 p3 (own_N nn) (own_N c1) (own_N c3) (own_N c5) (own_N c7) (own_N c9) (own_N c1) (own_N (c1 + c3)) (own_N (c1 + c3 + c5)) (own_N (c1 + c3 + c5 + c7)) (own_N (c1 + c3 + c5 + c7 + c9)) b11 b87 b119 (own_N ct) b136 (1 : Int32)) [])) _
            refine XS.iload Y279.here hx rfl (hb hby at_651) rfl ?_
            exact k
          obtain ⟨fs, hr, hrun, hended, hW, hsame⟩ := Y279.leave (v := some (.int (1 : Int32))) (fun h => by rw [Bd.returns] at h; cases h) (BodyLoose.notSynchronized Bd)
          refine ⟨_, _, ?_, hrun, hended, _, _, rfl, ?_, ⟨_, rfl⟩, hW, hsame.mono (by decide) (by decide)⟩
          · show Steps p.tables e below (T278.setTop (mkF m 653 (LS_IIIIIIIIIIIIIIIRRRIRI p0 p1 p2 p3 (own_N nn) (own_N c1) (own_N c3) (own_N c5) (own_N c7) (own_N c9) (own_N c1) (own_N (c1 + c3)) (own_N (c1 + c3 + c5)) (own_N (c1 + c3 + c5 + c7)) (own_N (c1 + c3 + c5 + c7 + c9)) b11 b87 b119 (own_N ct) b136 (1 : Int32)) [(.int (1 : Int32))])) _
            exact retN Y279 hx (t := .boolean) Bd.returns (by simp) (hb hby at_653) hr
          · show Q0 Z p0 p1 p2 p3 h0 n0 _ T278.heap _
            rw [e278]
            exact ⟨rfl, M279⟩
        · refine own_go (B := T275.setTop (mkF m 653 (LS_IIIIIIIIIIIIIIIRRRIRI p0 p1 p2 p3 (own_N nn) (own_N c1) (own_N c3) (own_N c5) (own_N c7) (own_N c9) (own_N c1) (own_N (c1 + c3)) (own_N (c1 + c3 + c5)) (own_N (c1 + c3 + c5 + c7)) (own_N (c1 + c3 + c5 + c7 + c9)) b11 b87 b119 (own_N ct) b136 (1 : Int32)) [(.int (1 : Int32))])) (fun t k => ?_) ?_
          · refine XS.icmpYes Y276.here hx rfl (pc0 := 625) (pc' := 651) rfl (hb hby at_625) rfl (flt hc625_277).2.2.2 (by decide) (by decide) ?_
            refine XS.iload Y276.here hx rfl (hb hby at_651) rfl ?_
            exact k
          obtain ⟨fs, hr, hrun, hended, hW, hsame⟩ := Y276.leave (v := some (.int (1 : Int32))) (fun h => by rw [Bd.returns] at h; cases h) (BodyLoose.notSynchronized Bd)
          refine ⟨_, _, ?_, hrun, hended, _, _, rfl, ?_, ⟨_, rfl⟩, hW, hsame.mono (by decide) (by decide)⟩
          · show Steps p.tables e below (T275.setTop (mkF m 653 (LS_IIIIIIIIIIIIIIIRRRIRI p0 p1 p2 p3 (own_N nn) (own_N c1) (own_N c3) (own_N c5) (own_N c7) (own_N c9) (own_N c1) (own_N (c1 + c3)) (own_N (c1 + c3 + c5)) (own_N (c1 + c3 + c5 + c7)) (own_N (c1 + c3 + c5 + c7 + c9)) b11 b87 b119 (own_N ct) b136 (1 : Int32)) [(.int (1 : Int32))])) _
            exact retN Y276 hx (t := .boolean) Bd.returns (by simp) (hb hby at_653) hr
          · show Q0 Z p0 p1 p2 p3 h0 n0 _ T275.heap _
            rw [e275]
            exact ⟨rfl, M276⟩
      · refine own_go (B := T272.setTop (mkF m 653 (LS_IIIIIIIIIIIIIIIRRRIRI p0 p1 p2 p3 (own_N nn) (own_N c1) (own_N c3) (own_N c5) (own_N c7) (own_N c9) (own_N c1) (own_N (c1 + c3)) (own_N (c1 + c3 + c5)) (own_N (c1 + c3 + c5 + c7)) (own_N (c1 + c3 + c5 + c7 + c9)) b11 b87 b119 (own_N ct) b136 (1 : Int32)) [(.int (1 : Int32))])) (fun t k => ?_) ?_
        · refine XS.icmpYes Y273.here hx rfl (pc0 := 596) (pc' := 622) rfl (hb hby at_596) rfl (flt hc596_274).2.2.2 (by decide) (by decide) ?_
          refine XS.iload Y273.here hx rfl (hb hby at_622) rfl ?_
          show Steps p.tables e below (T272.setTop (mkF m 624 (LS_IIIIIIIIIIIIIIIRRRIRI p0 p1 p2 p3 (own_N nn) (own_N c1) (own_N c3) (own_N c5) (own_N c7) (own_N c9) (own_N c1) (own_N (c1 + c3)) (own_N (c1 + c3 + c5)) (own_N (c1 + c3 + c5 + c7)) (own_N (c1 + c3 + c5 + c7 + c9)) b11 b87 b119 (own_N ct) b136 (1 : Int32)) [(.int (own_N nn))])) _
          refine XS.iconst Y273.here hx rfl (hb hby at_624) ?_
          refine XS.icmpYes Y273.here hx rfl (pc0 := 625) (pc' := 651) rfl (hb hby at_625) rfl (flt (fun q => absurd (own_lt (x := 4) (n := nn) (by decide) (by omega) q) (by have := own_nlt (x := 3) (n := nn) (by decide) (by omega) hc596_274; omega))).2.2.2 (by decide) (by decide) ?_
          refine XS.iload Y273.here hx rfl (hb hby at_651) rfl ?_
          exact k
        obtain ⟨fs, hr, hrun, hended, hW, hsame⟩ := Y273.leave (v := some (.int (1 : Int32))) (fun h => by rw [Bd.returns] at h; cases h) (BodyLoose.notSynchronized Bd)
        refine ⟨_, _, ?_, hrun, hended, _, _, rfl, ?_, ⟨_, rfl⟩, hW, hsame.mono (by decide) (by decide)⟩
        · show Steps p.tables e below (T272.setTop (mkF m 653 (LS_IIIIIIIIIIIIIIIRRRIRI p0 p1 p2 p3 (own_N nn) (own_N c1) (own_N c3) (own_N c5) (own_N c7) (own_N c9) (own_N c1) (own_N (c1 + c3)) (own_N (c1 + c3 + c5)) (own_N (c1 + c3 + c5 + c7)) (own_N (c1 + c3 + c5 + c7 + c9)) b11 b87 b119 (own_N ct) b136 (1 : Int32)) [(.int (1 : Int32))])) _
          exact retN Y273 hx (t := .boolean) Bd.returns (by simp) (hb hby at_653) hr
        · show Q0 Z p0 p1 p2 p3 h0 n0 _ T272.heap _
          rw [e272]
          exact ⟨rfl, M273⟩
    · refine own_go (B := T269.setTop (mkF m 653 (LS_IIIIIIIIIIIIIIIRRRIRI p0 p1 p2 p3 (own_N nn) (own_N c1) (own_N c3) (own_N c5) (own_N c7) (own_N c9) (own_N c1) (own_N (c1 + c3)) (own_N (c1 + c3 + c5)) (own_N (c1 + c3 + c5 + c7)) (own_N (c1 + c3 + c5 + c7 + c9)) b11 b87 b119 (own_N ct) b136 (1 : Int32)) [(.int (1 : Int32))])) (fun t k => ?_) ?_
      · refine XS.icmpYes Y270.here hx rfl (pc0 := 567) (pc' := 593) rfl (hb hby at_567) rfl (flt hc567_271).2.2.2 (by decide) (by decide) ?_
        refine XS.iload Y270.here hx rfl (hb hby at_593) rfl ?_
        show Steps p.tables e below (T269.setTop (mkF m 595 (LS_IIIIIIIIIIIIIIIRRRIRI p0 p1 p2 p3 (own_N nn) (own_N c1) (own_N c3) (own_N c5) (own_N c7) (own_N c9) (own_N c1) (own_N (c1 + c3)) (own_N (c1 + c3 + c5)) (own_N (c1 + c3 + c5 + c7)) (own_N (c1 + c3 + c5 + c7 + c9)) b11 b87 b119 (own_N ct) b136 (1 : Int32)) [(.int (own_N nn))])) _
        refine XS.iconst Y270.here hx rfl (hb hby at_595) ?_
        refine XS.icmpYes Y270.here hx rfl (pc0 := 596) (pc' := 622) rfl (hb hby at_596) rfl (flt (fun q => absurd (own_lt (x := 3) (n := nn) (by decide) (by omega) q) (by have := own_nlt (x := 2) (n := nn) (by decide) (by omega) hc567_271; omega))).2.2.2 (by decide) (by decide) ?_
        refine XS.iload Y270.here hx rfl (hb hby at_622) rfl ?_
        show Steps p.tables e below (T269.setTop (mkF m 624 (LS_IIIIIIIIIIIIIIIRRRIRI p0 p1 p2 p3 (own_N nn) (own_N c1) (own_N c3) (own_N c5) (own_N c7) (own_N c9) (own_N c1) (own_N (c1 + c3)) (own_N (c1 + c3 + c5)) (own_N (c1 + c3 + c5 + c7)) (own_N (c1 + c3 + c5 + c7 + c9)) b11 b87 b119 (own_N ct) b136 (1 : Int32)) [(.int (own_N nn))])) _
        refine XS.iconst Y270.here hx rfl (hb hby at_624) ?_
        refine XS.icmpYes Y270.here hx rfl (pc0 := 625) (pc' := 651) rfl (hb hby at_625) rfl (flt (fun q => absurd (own_lt (x := 4) (n := nn) (by decide) (by omega) q) (by have := own_nlt (x := 2) (n := nn) (by decide) (by omega) hc567_271; omega))).2.2.2 (by decide) (by decide) ?_
        refine XS.iload Y270.here hx rfl (hb hby at_651) rfl ?_
        exact k
      obtain ⟨fs, hr, hrun, hended, hW, hsame⟩ := Y270.leave (v := some (.int (1 : Int32))) (fun h => by rw [Bd.returns] at h; cases h) (BodyLoose.notSynchronized Bd)
      refine ⟨_, _, ?_, hrun, hended, _, _, rfl, ?_, ⟨_, rfl⟩, hW, hsame.mono (by decide) (by decide)⟩
      · show Steps p.tables e below (T269.setTop (mkF m 653 (LS_IIIIIIIIIIIIIIIRRRIRI p0 p1 p2 p3 (own_N nn) (own_N c1) (own_N c3) (own_N c5) (own_N c7) (own_N c9) (own_N c1) (own_N (c1 + c3)) (own_N (c1 + c3 + c5)) (own_N (c1 + c3 + c5 + c7)) (own_N (c1 + c3 + c5 + c7 + c9)) b11 b87 b119 (own_N ct) b136 (1 : Int32)) [(.int (1 : Int32))])) _
        exact retN Y270 hx (t := .boolean) Bd.returns (by simp) (hb hby at_653) hr
      · show Q0 Z p0 p1 p2 p3 h0 n0 _ T269.heap _
        rw [e269]
        exact ⟨rfl, M270⟩
  · refine own_go (B := T266.setTop (mkF m 653 (LS_IIIIIIIIIIIIIIIRRRIRI p0 p1 p2 p3 (own_N nn) (own_N c1) (own_N c3) (own_N c5) (own_N c7) (own_N c9) (own_N c1) (own_N (c1 + c3)) (own_N (c1 + c3 + c5)) (own_N (c1 + c3 + c5 + c7)) (own_N (c1 + c3 + c5 + c7 + c9)) b11 b87 b119 (own_N ct) b136 (1 : Int32)) [(.int (1 : Int32))])) (fun t k => ?_) ?_
    · refine XS.icmpYes Y267.here hx rfl (pc0 := 538) (pc' := 564) rfl (hb hby at_538) rfl (flt hc538_268).2.2.2 (by decide) (by decide) ?_
      refine XS.iload Y267.here hx rfl (hb hby at_564) rfl ?_
      show Steps p.tables e below (T266.setTop (mkF m 566 (LS_IIIIIIIIIIIIIIIRRRIRI p0 p1 p2 p3 (own_N nn) (own_N c1) (own_N c3) (own_N c5) (own_N c7) (own_N c9) (own_N c1) (own_N (c1 + c3)) (own_N (c1 + c3 + c5)) (own_N (c1 + c3 + c5 + c7)) (own_N (c1 + c3 + c5 + c7 + c9)) b11 b87 b119 (own_N ct) b136 (1 : Int32)) [(.int (own_N nn))])) _
      refine XS.iconst Y267.here hx rfl (hb hby at_566) ?_
      refine XS.icmpYes Y267.here hx rfl (pc0 := 567) (pc' := 593) rfl (hb hby at_567) rfl (flt (fun q => absurd (own_lt (x := 2) (n := nn) (by decide) (by omega) q) (by have := own_nlt (x := 1) (n := nn) (by decide) (by omega) hc538_268; omega))).2.2.2 (by decide) (by decide) ?_
      refine XS.iload Y267.here hx rfl (hb hby at_593) rfl ?_
      show Steps p.tables e below (T266.setTop (mkF m 595 (LS_IIIIIIIIIIIIIIIRRRIRI p0 p1 p2 p3 (own_N nn) (own_N c1) (own_N c3) (own_N c5) (own_N c7) (own_N c9) (own_N c1) (own_N (c1 + c3)) (own_N (c1 + c3 + c5)) (own_N (c1 + c3 + c5 + c7)) (own_N (c1 + c3 + c5 + c7 + c9)) b11 b87 b119 (own_N ct) b136 (1 : Int32)) [(.int (own_N nn))])) _
      refine XS.iconst Y267.here hx rfl (hb hby at_595) ?_
      refine XS.icmpYes Y267.here hx rfl (pc0 := 596) (pc' := 622) rfl (hb hby at_596) rfl (flt (fun q => absurd (own_lt (x := 3) (n := nn) (by decide) (by omega) q) (by have := own_nlt (x := 1) (n := nn) (by decide) (by omega) hc538_268; omega))).2.2.2 (by decide) (by decide) ?_
      refine XS.iload Y267.here hx rfl (hb hby at_622) rfl ?_
      show Steps p.tables e below (T266.setTop (mkF m 624 (LS_IIIIIIIIIIIIIIIRRRIRI p0 p1 p2 p3 (own_N nn) (own_N c1) (own_N c3) (own_N c5) (own_N c7) (own_N c9) (own_N c1) (own_N (c1 + c3)) (own_N (c1 + c3 + c5)) (own_N (c1 + c3 + c5 + c7)) (own_N (c1 + c3 + c5 + c7 + c9)) b11 b87 b119 (own_N ct) b136 (1 : Int32)) [(.int (own_N nn))])) _
      refine XS.iconst Y267.here hx rfl (hb hby at_624) ?_
      refine XS.icmpYes Y267.here hx rfl (pc0 := 625) (pc' := 651) rfl (hb hby at_625) rfl (flt (fun q => absurd (own_lt (x := 4) (n := nn) (by decide) (by omega) q) (by have := own_nlt (x := 1) (n := nn) (by decide) (by omega) hc538_268; omega))).2.2.2 (by decide) (by decide) ?_
      refine XS.iload Y267.here hx rfl (hb hby at_651) rfl ?_
      exact k
    obtain ⟨fs, hr, hrun, hended, hW, hsame⟩ := Y267.leave (v := some (.int (1 : Int32))) (fun h => by rw [Bd.returns] at h; cases h) (BodyLoose.notSynchronized Bd)
    refine ⟨_, _, ?_, hrun, hended, _, _, rfl, ?_, ⟨_, rfl⟩, hW, hsame.mono (by decide) (by decide)⟩
    · show Steps p.tables e below (T266.setTop (mkF m 653 (LS_IIIIIIIIIIIIIIIRRRIRI p0 p1 p2 p3 (own_N nn) (own_N c1) (own_N c3) (own_N c5) (own_N c7) (own_N c9) (own_N c1) (own_N (c1 + c3)) (own_N (c1 + c3 + c5)) (own_N (c1 + c3 + c5 + c7)) (own_N (c1 + c3 + c5 + c7 + c9)) b11 b87 b119 (own_N ct) b136 (1 : Int32)) [(.int (1 : Int32))])) _
      exact retN Y267 hx (t := .boolean) Bd.returns (by simp) (hb hby at_653) hr
    · show Q0 Z p0 p1 p2 p3 h0 n0 _ T266.heap _
      rw [e266]
      exact ⟨rfl, M267⟩
set_option maxRecDepth 65536 in
set_option maxHeartbeats 40000000 in
theorem comes_1 {Post : Tables → Env → Array Value → State → Outcome → State → Prop} (hpost : ∀ tb e args s v u, (limb_1_1.after args s (.returned v) u = true ∧ limb_1_2.after args s (.returned v) u = true ∧ True) → FrameEnd s (.returned v) u (Jvm.fieldLocs frame_1_writes args s ++ Jvm.arrayLocs frame_1_arrays args s ++ Jvm.staticLocs frame_1_statics s) 32 320 → Post tb e args s (.returned v) u) :
    ArmFor flags0 classFile x code maxLocals ret World_1 tables_1 room_1 Calls_1 rest_1 Pre_1 Post := by
  intro l hfl _ _ p e ha hc hk s m args below hf hA hF happ hP
  obtain ⟨hcalls, hrest, hpre⟩ := hP
  obtain ⟨-, -, -, hnamed, -, -, -, hat⟩ := (Spec.applies_iff hf).mp happ
  obtain ⟨hg, hn⟩ := and_e (Cond.before_iff.mp (show (Jvm.Cond.and given_1 narrow_1).before args s = true from hpre))
  obtain ⟨g1, g2⟩ := and_e hg
  obtain ⟨g3, g4⟩ := and_e g2
  obtain ⟨g5, g6⟩ := and_e g4
  obtain ⟨g7, g8⟩ := and_e g6
  obtain ⟨w0, w1, w2, w3, rfl⟩ : ∃ w0 w1 w2 w3 : Value, args = #[w0, w1, w2, w3] := by
    have hs : args.size = 4 := by simpa [Cond.value, given_1] using g1
    obtain ⟨L⟩ := args
    match L, hs with
    | [w0, w1, w2, w3], _ => exact ⟨w0, w1, w2, w3, rfl⟩
  have hw := fun d (hd : d ∈ tables_1) => atoms_spec (ws := Jvm.Cond.code x code maxLocals ret :: tables_1) hat d (List.mem_cons_of_mem _ hd)
  have hfit : Fit s := fun {y c} hc i hi => by
    obtain ⟨ha, rfl⟩ := Array.getElem?_eq_some_iff.mp hc
    have q := List.all_eq_true.mp ((Array.all_eq_true_iff_forall_mem.mp hF) _ (Array.getElem_mem ha)) i (List.mem_range.mpr hi)
    simpa [Array.getElem?_eq_getElem hi] using q
  obtain ⟨i0, ei0⟩ := is_v g3
  obtain rfl : w0 = (.int i0) := Option.some.inj ei0
  obtain ⟨i1, ei1⟩ := is_v g5
  obtain rfl : w1 = (.int i1) := Option.some.inj ei1
  obtain ⟨i2, ei2⟩ := is_v g7
  obtain rfl : w2 = (.int i2) := Option.some.inj ei2
  obtain ⟨i3, ei3⟩ := is_v g8
  obtain rfl : w3 = (.int i3) := Option.some.inj ei3
  obtain ⟨n, o, h1, h2, h3, _, L, rfl, ⟨rfl, N⟩, hq⟩ := rm0 l s _ hw tables_1 i0 i1 i2 i3  s.heap s.heap.size (Nat.le_refl _)  p e ha hc hk s m _ below hf ((Spec.applies_iff_loose hf).mp happ).1 ⟨rfl, State.Warmed39.refl s, rfl⟩ trivial
  refine ⟨n, _, h1, h2, h3, hpost _ _ _ _ _ _ ⟨Cond.after_iff.mpr rfl, Cond.after_iff.mpr (eq_i res_at (Term.int_eval (1)) rfl), trivial⟩ ⟨hq.1, hq.2.1, (hq.2.2.sift fun y hy => Or.inr (N y hy)).mono (by decide) (by decide)⟩⟩
theorem main_1_1 : Claimed_1_1 := comes_1 fun _ _ _ _ _ _ h hF => ⟨h.1, hF⟩
theorem main_1_2 : Claimed_1_2 := comes_1 fun _ _ _ _ _ _ h hF => ⟨h.2.1, hF⟩
end Jvm.Pilot.@@N@@
namespace Jvm.Pilot.@@N@@
open Jvm Jvm.ClassFile Sem Op Lib Jvm.Free Jvm.Stand Jvm.Pilot.@@N@@.Jvm.D
/-! MADE BY PROGRAM (witnessworld.py) out of the Statement's table words and the real class files: 13 classes; the members and pool entries that the words name. The judged class is class 1, her method 5. -/
namespace start1
open Jvm.ClassFile
def u (s : String) : CpInfo := .utf8 (stringToUtf16 s)
/-- a pool by its gaps: so many unusable entries, then the entry; so many at the end -/
def gap : Nat → List CpInfo → List CpInfo
  | 0, r => r
  | n + 1, r => .unusable :: gap n r
def poolList (es : List (Nat × CpInfo)) (last : Nat) : List CpInfo := es.foldr (fun e r => gap e.1 (e.2 :: r)) (gap last [])
def pool (es : List (Nat × CpInfo)) (last : Nat) : Array CpInfo := ⟨poolList es last⟩
def fileOf (pool : Array CpInfo) (this : Nat) (attrs : Array Attribute := #[]) (ms : Array MethodInfo := #[]) (fl : Nat := 33) (sup : Nat := 0) (ifs : Array Nat := #[]) (fds : Array FieldInfo := #[]) : ClassFile where
  minorVersion := 0
  majorVersion := 65
  constantPool := pool
  accessFlags := fl
  thisClass := this
  superClass := sup
  interfaces := ifs
  fields := fds
  methods := ms
  attributes := attrs
def plain (name : String) (sup : Option ClassId) : Class where
  name := name
  kind := .ordinary
  loader := none
  accessFlags := 33
  super := sup
  interfaces := #[]
  cf := none
  fields := #[]
  methods := #[]
  instanceTypes := #[]
  staticTypes := #[]
  resolved := #[]
  callSites := []
  init := .initialized
  statics := none
  mirror := none

def pool0 : Array CpInfo := pool [(5, u "<init>"), (0, u "()V"), (1, .class_ 10), (1, u "java/lang/Object")] 113

def k0c0 : Code := { maxStack := 0, maxLocals := 1, code := object_method_1_code, exceptionTable := #[], attributes := #[] }
def k0m0 : Method := { name := "<init>", desc := "()V", sig := { parameters := [], returnType := none }, accessFlags := 1, code := some k0c0 }
/-- java/lang/Object -/
def k0 : Class := { plain "java/lang/Object" none with
  accessFlags := 33
  interfaces := #[]
  cf := some (fileOf pool0 8 #[] #[{ accessFlags := 1, nameIndex := 5, descriptorIndex := 6, attributes := #[] }] 33 0 #[] #[])
  fields := #[]
  methods := #[k0m0]
  instanceTypes := #[]
  staticTypes := #[]
  resolved := Array.replicate 124 none
  statics := none }

def pool1 : Array CpInfo := pool [(2, .class_ 4), (0, .nameAndType 5 6), (0, u "java/lang/Object"), (0, u "<init>"), (0, u "()V"), (0, .methodref 8 9), (0, .class_ 10), (0, .nameAndType 11 12), (0, u "com/example/terms_to_scores/termstoscores/index/PostingsGetFreqPinLaw"), (0, u "which"), (0, u "(IIIII)I"), (0, .methodref 8 14), (0, .nameAndType 15 16), (0, u "docNo"), (0, u "(II)I"), (0, .integer 2147483647), (0, .methodref 8 19), (0, .nameAndType 20 21), (0, u "freq"), (0, u "(III)I"), (0, .methodref 8 23), (0, .nameAndType 24 25), (0, u "docAt"), (0, u "(IIIIII)I"), (0, .class_ 27), (0, u "com/example/terms_to_scores/termstoscores/index/Postings"), (0, .methodref 26 3), (0, .methodref 26 30), (0, .nameAndType 31 32), (0, u "add"), (0, u "([I[III[B)V"), (0, .methodref 26 34), (0, .nameAndType 35 36), (0, u "size"), (0, u "()I"), (0, .methodref 26 38), (0, .nameAndType 39 40), (0, u "getFreq"), (0, u "(I)I"), (3, u "law"), (0, u "(IIII)Z")] 6

def k1m0 : Method := { name := "<init>", desc := "()V", sig := { parameters := [], returnType := none }, accessFlags := 1, code := none }
def k1c1 : Code := { maxStack := 3, maxLocals := 3, code := method_2_code, exceptionTable := #[], attributes := #[] }
def k1m1 : Method := { name := "freq", desc := "(III)I", sig := { parameters := [.int, .int, .int], returnType := some .int }, accessFlags := 10, code := some k1c1 }
def k1c2 : Code := { maxStack := 2, maxLocals := 5, code := method_3_code, exceptionTable := #[], attributes := #[] }
def k1m2 : Method := { name := "which", desc := "(IIIII)I", sig := { parameters := [.int, .int, .int, .int, .int], returnType := some .int }, accessFlags := 10, code := some k1c2 }
def k1c3 : Code := { maxStack := 3, maxLocals := 2, code := method_4_code, exceptionTable := #[], attributes := #[] }
def k1m3 : Method := { name := "docNo", desc := "(II)I", sig := { parameters := [.int, .int], returnType := some .int }, accessFlags := 10, code := some k1c3 }
def k1c4 : Code := { maxStack := 5, maxLocals := 6, code := method_5_code, exceptionTable := #[], attributes := #[] }
def k1m4 : Method := { name := "docAt", desc := "(IIIIII)I", sig := { parameters := [.int, .int, .int, .int, .int, .int], returnType := some .int }, accessFlags := 10, code := some k1c4 }
def k1c5 : Code := { maxStack := 8, maxLocals := 21, code := code, exceptionTable := #[], attributes := #[] }
def k1m5 : Method := { name := "law", desc := "(IIII)Z", sig := { parameters := [.int, .int, .int, .int], returnType := some .boolean }, accessFlags := 9, code := some k1c5 }
/-- com/example/terms_to_scores/termstoscores/index/PostingsGetFreqPinLaw -/
def k1 : Class := { plain "com/example/terms_to_scores/termstoscores/index/PostingsGetFreqPinLaw" (some 0) with
  accessFlags := 49
  interfaces := #[]
  cf := some (fileOf pool1 8 #[] #[{ accessFlags := 1, nameIndex := 5, descriptorIndex := 6, attributes := #[] }, { accessFlags := 10, nameIndex := 20, descriptorIndex := 21, attributes := #[] }, { accessFlags := 10, nameIndex := 11, descriptorIndex := 12, attributes := #[] }, { accessFlags := 10, nameIndex := 15, descriptorIndex := 16, attributes := #[] }, { accessFlags := 10, nameIndex := 24, descriptorIndex := 25, attributes := #[] }, { accessFlags := 9, nameIndex := 44, descriptorIndex := 45, attributes := #[] }] 49 2 #[] #[])
  fields := #[]
  methods := #[k1m0, k1m1, k1m2, k1m3, k1m4, k1m5]
  instanceTypes := #[]
  staticTypes := #[]
  resolved := Array.replicate 52 none
  statics := none }

def pool2 : Array CpInfo := pool [(1, .class_ 2), (0, u "com/example/terms_to_scores/termstoscores/index/Postings"), (0, .methodref 4 5), (0, .class_ 6), (0, .nameAndType 7 8), (0, u "java/lang/Object"), (0, u "<init>"), (0, u "()V"), (0, .fieldref 1 10), (0, .nameAndType 11 12), (0, u "entries"), (0, u "[I"), (0, .fieldref 1 14), (0, .nameAndType 15 16), (0, u "lastDoc"), (0, u "I"), (0, .fieldref 1 18), (0, .nameAndType 19 16), (0, u "shortestLength"), (0, .class_ 12), (0, .fieldref 1 22), (0, .nameAndType 23 24), (0, u "pages"), (0, u "[[I"), (0, .fieldref 1 26), (0, .nameAndType 27 12), (0, u "page"), (2, .integer 2147483647), (0, .fieldref 1 32), (0, .nameAndType 33 16), (0, u "positionCount"), (7, .fieldref 1 42), (0, .nameAndType 43 16), (0, u "size"), (0, .methodref 45 46), (0, .class_ 47), (0, .nameAndType 48 49), (0, u "java/util/Arrays"), (0, u "copyOf"), (0, u "([II)[I"), (0, .fieldref 1 51), (0, .nameAndType 52 16), (0, u "lastFreq"), (0, .methodref 54 55), (0, .class_ 56), (0, .nameAndType 57 58), (0, u "java/lang/Math"), (0, u "min"), (0, u "(II)I"), (0, .fieldref 1 60), (0, .nameAndType 61 16), (0, u "maxFreq"), (0, .methodref 54 63), (0, .nameAndType 64 58), (0, u "max"), (4, .methodref 70 71), (0, .class_ 72), (0, .nameAndType 73 74), (0, u "java/lang/System"), (0, u "arraycopy"), (0, u "(Ljava/lang/Object;ILjava/lang/Object;II)V"), (6, u "(I)I"), (2, u "getFreq"), (0, u "PAGE_BITS"), (2, u "PAGE_SIZE"), (3, u "add"), (0, u "([I[III[B)V"), (1, u "()I")] 7

def k2c0 : Code := { maxStack := 3, maxLocals := 1, code := prog_33_method_1_code, exceptionTable := #[], attributes := #[] }
def k2m0 : Method := { name := "<init>", desc := "()V", sig := { parameters := [], returnType := none }, accessFlags := 0, code := some k2c0 }
def k2c1 : Code := { maxStack := 5, maxLocals := 9, code := prog_33_method_2_code, exceptionTable := #[], attributes := #[] }
def k2m1 : Method := { name := "add", desc := "([I[III[B)V", sig := { parameters := [(.array .int), (.array .int), .int, .int, (.array .byte)], returnType := none }, accessFlags := 0, code := some k2c1 }
def k2c2 : Code := { maxStack := 1, maxLocals := 1, code := prog_33_method_3_code, exceptionTable := #[], attributes := #[] }
def k2m2 : Method := { name := "size", desc := "()I", sig := { parameters := [], returnType := some .int }, accessFlags := 1, code := some k2c2 }
def k2c3 : Code := { maxStack := 4, maxLocals := 2, code := prog_33_method_5_code, exceptionTable := #[], attributes := #[] }
def k2m3 : Method := { name := "getFreq", desc := "(I)I", sig := { parameters := [.int], returnType := some .int }, accessFlags := 1, code := some k2c3 }
/-- com/example/terms_to_scores/termstoscores/index/Postings -/
def k2 : Class := { plain "com/example/terms_to_scores/termstoscores/index/Postings" (some 0) with
  accessFlags := 49
  interfaces := #[]
  cf := some (fileOf pool2 1 #[] #[{ accessFlags := 0, nameIndex := 7, descriptorIndex := 8, attributes := #[] }, { accessFlags := 0, nameIndex := 92, descriptorIndex := 93, attributes := #[] }, { accessFlags := 1, nameIndex := 43, descriptorIndex := 95, attributes := #[] }, { accessFlags := 1, nameIndex := 84, descriptorIndex := 81, attributes := #[] }] 49 4 #[] #[{ accessFlags := 26, nameIndex := 85, descriptorIndex := 16, attributes := #[] }, { accessFlags := 26, nameIndex := 88, descriptorIndex := 16, attributes := #[] }, { accessFlags := 2, nameIndex := 11, descriptorIndex := 12, attributes := #[] }, { accessFlags := 2, nameIndex := 43, descriptorIndex := 16, attributes := #[] }, { accessFlags := 2, nameIndex := 15, descriptorIndex := 16, attributes := #[] }, { accessFlags := 2, nameIndex := 52, descriptorIndex := 16, attributes := #[] }, { accessFlags := 2, nameIndex := 61, descriptorIndex := 16, attributes := #[] }, { accessFlags := 2, nameIndex := 19, descriptorIndex := 16, attributes := #[] }, { accessFlags := 2, nameIndex := 33, descriptorIndex := 16, attributes := #[] }, { accessFlags := 2, nameIndex := 23, descriptorIndex := 24, attributes := #[] }, { accessFlags := 2, nameIndex := 27, descriptorIndex := 12, attributes := #[] }])
  fields := #[{ name := "PAGE_BITS", type := .int, accessFlags := 26, slot := 0, constantValue := 0 }, { name := "PAGE_SIZE", type := .int, accessFlags := 26, slot := 1, constantValue := 0 }, { name := "entries", type := (.array .int), accessFlags := 2, slot := 0, constantValue := 0 }, { name := "size", type := .int, accessFlags := 2, slot := 1, constantValue := 0 }, { name := "lastDoc", type := .int, accessFlags := 2, slot := 2, constantValue := 0 }, { name := "lastFreq", type := .int, accessFlags := 2, slot := 3, constantValue := 0 }, { name := "maxFreq", type := .int, accessFlags := 2, slot := 4, constantValue := 0 }, { name := "shortestLength", type := .int, accessFlags := 2, slot := 5, constantValue := 0 }, { name := "positionCount", type := .int, accessFlags := 2, slot := 6, constantValue := 0 }, { name := "pages", type := (.array (.array .int)), accessFlags := 2, slot := 7, constantValue := 0 }, { name := "page", type := (.array .int), accessFlags := 2, slot := 8, constantValue := 0 }]
  methods := #[k2m0, k2m1, k2m2, k2m3]
  instanceTypes := #[(.array .int), .int, .int, .int, .int, .int, .int, (.array (.array .int)), (.array .int)]
  staticTypes := #[.int, .int]
  resolved := Array.replicate 103 none
  statics := none }

def pool3 : Array CpInfo := pool [(1, .class_ 2), (0, u "java/lang/Math"), (1, .class_ 6), (1, u "java/lang/Object"), (0, u "<init>"), (0, u "()V"), (89, .class_ 100), (1, u "java/lang/Math$RandomNumberGeneratorHolder"), (71, u "negativeZeroFloatBits"), (0, u "J"), (2, u "negativeZeroDoubleBits"), (21, u "max"), (2, u "min"), (43, u "$assertionsDisabled"), (0, u "Z"), (88, u "(II)I"), (2, u "twoToTheDoubleScaleDown"), (0, u "D"), (4, u "twoToTheDoubleScaleUp"), (9, u "E"), (3, u "PI"), (2, u "TAU"), (2, u "DEGREES_TO_RADIANS"), (0, u "RADIANS_TO_DEGREES")] 94

def k3m0 : Method := { name := "<init>", desc := "()V", sig := { parameters := [], returnType := none }, accessFlags := 2, code := none }
def k3c1 : Code := { maxStack := 2, maxLocals := 2, code := jdk_29_method_65_code, exceptionTable := #[], attributes := #[] }
def k3m1 : Method := { name := "max", desc := "(II)I", sig := { parameters := [.int, .int], returnType := some .int }, accessFlags := 9, code := some k3c1 }
def k3c2 : Code := { maxStack := 2, maxLocals := 2, code := jdk_29_method_69_code, exceptionTable := #[], attributes := #[] }
def k3m2 : Method := { name := "min", desc := "(II)I", sig := { parameters := [.int, .int], returnType := some .int }, accessFlags := 9, code := some k3c2 }
/-- java/lang/Math -/
def k3 : Class := { plain "java/lang/Math" (some 0) with
  accessFlags := 49
  interfaces := #[]
  cf := some (fileOf pool3 1 #[.nestMembers #[98]] #[{ accessFlags := 2, nameIndex := 7, descriptorIndex := 8, attributes := #[] }, { accessFlags := 9, nameIndex := 198, descriptorIndex := 335, attributes := #[] }, { accessFlags := 9, nameIndex := 201, descriptorIndex := 335, attributes := #[] }] 49 4 #[] #[{ accessFlags := 25, nameIndex := 354, descriptorIndex := 339, attributes := #[] }, { accessFlags := 25, nameIndex := 358, descriptorIndex := 339, attributes := #[] }, { accessFlags := 25, nameIndex := 361, descriptorIndex := 339, attributes := #[] }, { accessFlags := 26, nameIndex := 364, descriptorIndex := 339, attributes := #[] }, { accessFlags := 26, nameIndex := 365, descriptorIndex := 339, attributes := #[] }, { accessFlags := 26, nameIndex := 172, descriptorIndex := 173, attributes := #[] }, { accessFlags := 26, nameIndex := 176, descriptorIndex := 173, attributes := #[] }, { accessFlags := 8, nameIndex := 344, descriptorIndex := 339, attributes := #[] }, { accessFlags := 8, nameIndex := 338, descriptorIndex := 339, attributes := #[] }, { accessFlags := 4120, nameIndex := 245, descriptorIndex := 246, attributes := #[] }])
  fields := #[{ name := "E", type := .double, accessFlags := 25, slot := 0, constantValue := 0 }, { name := "PI", type := .double, accessFlags := 25, slot := 1, constantValue := 0 }, { name := "TAU", type := .double, accessFlags := 25, slot := 2, constantValue := 0 }, { name := "DEGREES_TO_RADIANS", type := .double, accessFlags := 26, slot := 3, constantValue := 0 }, { name := "RADIANS_TO_DEGREES", type := .double, accessFlags := 26, slot := 4, constantValue := 0 }, { name := "negativeZeroFloatBits", type := .long, accessFlags := 26, slot := 5, constantValue := 0 }, { name := "negativeZeroDoubleBits", type := .long, accessFlags := 26, slot := 6, constantValue := 0 }, { name := "twoToTheDoubleScaleUp", type := .double, accessFlags := 8, slot := 7, constantValue := 0 }, { name := "twoToTheDoubleScaleDown", type := .double, accessFlags := 8, slot := 8, constantValue := 0 }, { name := "$assertionsDisabled", type := .boolean, accessFlags := 4120, slot := 9, constantValue := 0 }]
  methods := #[k3m0, k3m1, k3m2]
  instanceTypes := #[]
  staticTypes := #[.double, .double, .double, .double, .double, .long, .long, .double, .double, .boolean]
  resolved := Array.replicate 460 none
  statics := none }

def pool4 : Array CpInfo := pool [(2, .class_ 4), (1, u "java/lang/Object"), (0, u "<init>"), (0, u "()V"), (1, .class_ 10), (1, u "java/lang/System"), (0, u "allowSecurityManager"), (0, u "I"), (16, u "cons"), (0, u "Ljava/io/Console;"), (77, .class_ 110), (1, u "java/lang/System$CallersHolder"), (43, u "initialErrStream"), (0, u "Ljava/io/PrintStream;"), (19, u "security"), (0, u "Ljava/lang/SecurityManager;"), (31, .class_ 209), (0, u "java/lang/System$1"), (7, u "props"), (0, u "Ljava/util/Properties;"), (2, u "lineSeparator"), (0, u "Ljava/lang/String;"), (96, .class_ 321), (1, u "java/lang/System$LoggerFinder"), (5, .class_ 328), (0, u "java/lang/System$Logger"), (67, u "err"), (2, u "out"), (91, u "notSupportedJnuEncoding"), (15, u "in"), (17, u "initialIn"), (0, u "Ljava/io/InputStream;"), (35, u "bootLayer"), (0, u "Ljava/lang/ModuleLayer;"), (99, .class_ 664), (0, u "java/lang/System$2"), (9, u "NEVER"), (2, u "MAYBE"), (49, u "arraycopy"), (0, u "(Ljava/lang/Object;ILjava/lang/Object;II)V"), (72, .class_ 802), (0, u "java/lang/System$Logger$Level")] 31

def k4m0 : Method := { name := "<init>", desc := "()V", sig := { parameters := [], returnType := none }, accessFlags := 2, code := none }
def k4m1 : Method := { name := "arraycopy", desc := "(Ljava/lang/Object;ILjava/lang/Object;II)V", sig := { parameters := [(.object "java/lang/Object"), .int, (.object "java/lang/Object"), .int, .int], returnType := none }, accessFlags := 265, code := none }
/-- java/lang/System -/
def k4 : Class := { plain "java/lang/System" (some 0) with
  accessFlags := 49
  interfaces := #[]
  cf := some (fileOf pool4 8 #[.nestMembers #[319, 327, 801, 108, 663, 208]] #[{ accessFlags := 2, nameIndex := 5, descriptorIndex := 6, attributes := #[] }, { accessFlags := 265, nameIndex := 727, descriptorIndex := 728, attributes := #[] }] 49 2 #[] #[{ accessFlags := 25, nameIndex := 507, descriptorIndex := 526, attributes := #[] }, { accessFlags := 25, nameIndex := 399, descriptorIndex := 155, attributes := #[] }, { accessFlags := 25, nameIndex := 396, descriptorIndex := 155, attributes := #[] }, { accessFlags := 10, nameIndex := 525, descriptorIndex := 526, attributes := #[] }, { accessFlags := 26, nameIndex := 674, descriptorIndex := 12, attributes := #[] }, { accessFlags := 26, nameIndex := 677, descriptorIndex := 12, attributes := #[] }, { accessFlags := 10, nameIndex := 11, descriptorIndex := 12, attributes := #[] }, { accessFlags := 74, nameIndex := 175, descriptorIndex := 176, attributes := #[] }, { accessFlags := 10, nameIndex := 491, descriptorIndex := 222, attributes := #[] }, { accessFlags := 74, nameIndex := 29, descriptorIndex := 30, attributes := #[] }, { accessFlags := 74, nameIndex := 154, descriptorIndex := 155, attributes := #[] }, { accessFlags := 10, nameIndex := 217, descriptorIndex := 218, attributes := #[] }, { accessFlags := 10, nameIndex := 221, descriptorIndex := 222, attributes := #[] }, { accessFlags := 8, nameIndex := 562, descriptorIndex := 563, attributes := #[] }])
  fields := #[{ name := "in", type := (.object "java/io/InputStream"), accessFlags := 25, slot := 0, constantValue := 0 }, { name := "out", type := (.object "java/io/PrintStream"), accessFlags := 25, slot := 1, constantValue := 0 }, { name := "err", type := (.object "java/io/PrintStream"), accessFlags := 25, slot := 2, constantValue := 0 }, { name := "initialIn", type := (.object "java/io/InputStream"), accessFlags := 10, slot := 3, constantValue := 0 }, { name := "NEVER", type := .int, accessFlags := 26, slot := 4, constantValue := 0 }, { name := "MAYBE", type := .int, accessFlags := 26, slot := 5, constantValue := 0 }, { name := "allowSecurityManager", type := .int, accessFlags := 10, slot := 6, constantValue := 0 }, { name := "security", type := (.object "java/lang/SecurityManager"), accessFlags := 74, slot := 7, constantValue := 0 }, { name := "notSupportedJnuEncoding", type := (.object "java/lang/String"), accessFlags := 10, slot := 8, constantValue := 0 }, { name := "cons", type := (.object "java/io/Console"), accessFlags := 74, slot := 9, constantValue := 0 }, { name := "initialErrStream", type := (.object "java/io/PrintStream"), accessFlags := 74, slot := 10, constantValue := 0 }, { name := "props", type := (.object "java/util/Properties"), accessFlags := 10, slot := 11, constantValue := 0 }, { name := "lineSeparator", type := (.object "java/lang/String"), accessFlags := 10, slot := 12, constantValue := 0 }, { name := "bootLayer", type := (.object "java/lang/ModuleLayer"), accessFlags := 8, slot := 13, constantValue := 0 }]
  methods := #[k4m0, k4m1]
  instanceTypes := #[]
  staticTypes := #[(.object "java/io/InputStream"), (.object "java/io/PrintStream"), (.object "java/io/PrintStream"), (.object "java/io/InputStream"), .int, .int, .int, (.object "java/lang/SecurityManager"), (.object "java/lang/String"), (.object "java/io/Console"), (.object "java/io/PrintStream"), (.object "java/util/Properties"), (.object "java/lang/String"), (.object "java/lang/ModuleLayer")]
  resolved := Array.replicate 834 none
  statics := none }

def pool5 : Array CpInfo := pool [(2, .class_ 4), (1, u "java/lang/Object"), (0, u "<init>"), (0, u "()V"), (7, .class_ 16), (1, u "java/util/Arrays"), (57, .class_ 76), (1, u "java/util/Arrays$NaturalOrder"), (36, .class_ 115), (1, u "java/util/Arrays$LegacyMergeSort"), (1, u "Z"), (32, .methodref 151 152), (0, .class_ 153), (0, .nameAndType 154 155), (0, u "java/lang/System"), (0, u "arraycopy"), (0, u "(Ljava/lang/Object;ILjava/lang/Object;II)V"), (146, u "copyOf"), (1, .methodref 305 306), (0, .class_ 307), (0, .nameAndType 308 309), (0, u "java/lang/Math"), (0, u "min"), (0, u "(II)I"), (65, .class_ 376), (0, u "java/util/Arrays$ArrayList"), (68, u "$assertionsDisabled"), (269, u "MIN_ARRAY_SORT_GRAN"), (0, u "I"), (2, u "INSERTIONSORT_THRESHOLD"), (151, u "([II)[I"), (103, .class_ 976), (0, u "java/util/Arrays$ArrayItr")] 52

def k5m0 : Method := { name := "<init>", desc := "()V", sig := { parameters := [], returnType := none }, accessFlags := 2, code := none }
def k5c1 : Code := { maxStack := 6, maxLocals := 3, code := jdk_65_method_123_code, exceptionTable := #[], attributes := #[] }
def k5m1 : Method := { name := "copyOf", desc := "([II)[I", sig := { parameters := [(.array .int), .int], returnType := some (.array .int) }, accessFlags := 9, code := some k5c1 }
/-- java/util/Arrays -/
def k5 : Class := { plain "java/util/Arrays" (some 0) with
  accessFlags := 49
  interfaces := #[]
  cf := some (fileOf pool5 14 #[.nestMembers #[975, 375, 113, 74]] #[{ accessFlags := 2, nameIndex := 5, descriptorIndex := 6, attributes := #[] }, { accessFlags := 9, nameIndex := 302, descriptorIndex := 871, attributes := #[] }] 49 2 #[] #[{ accessFlags := 26, nameIndex := 715, descriptorIndex := 716, attributes := #[] }, { accessFlags := 26, nameIndex := 719, descriptorIndex := 716, attributes := #[] }, { accessFlags := 4120, nameIndex := 445, descriptorIndex := 117, attributes := #[] }])
  fields := #[{ name := "MIN_ARRAY_SORT_GRAN", type := .int, accessFlags := 26, slot := 0, constantValue := 0 }, { name := "INSERTIONSORT_THRESHOLD", type := .int, accessFlags := 26, slot := 1, constantValue := 0 }, { name := "$assertionsDisabled", type := .boolean, accessFlags := 4120, slot := 2, constantValue := 0 }]
  methods := #[k5m0, k5m1]
  instanceTypes := #[]
  staticTypes := #[.int, .int, .boolean]
  resolved := Array.replicate 1029 none
  statics := none }

def pool6 : Array CpInfo := pool [(1, u "java/lang/Cloneable"), (0, .class_ 1), (0, u "java/lang/Object"), (0, .class_ 3)] 3

/-- java/lang/Cloneable -/
def k6 : Class := { plain "java/lang/Cloneable" (some 0) with
  accessFlags := 1537
  interfaces := #[]
  cf := some (fileOf pool6 2 #[] #[] 1537 4 #[] #[])
  fields := #[]
  methods := #[]
  instanceTypes := #[]
  staticTypes := #[]
  resolved := Array.replicate 8 none
  statics := none }

def pool7 : Array CpInfo := pool [(1, u "java/io/Serializable"), (0, .class_ 1), (0, u "java/lang/Object"), (0, .class_ 3)] 3

/-- java/io/Serializable -/
def k7 : Class := { plain "java/io/Serializable" (some 0) with
  accessFlags := 1537
  interfaces := #[]
  cf := some (fileOf pool7 2 #[] #[] 1537 4 #[] #[])
  fields := #[]
  methods := #[]
  instanceTypes := #[]
  staticTypes := #[]
  resolved := Array.replicate 8 none
  statics := none }

/-- the primitive byte -/
def k8 : Class := { plain "byte" none with kind := .primitive 'B', accessFlags := 0x411 }
/-- [B -/
def k9 : Class := { plain "[B" (some 0) with kind := .array 8 .byte, interfaces := #[6, 7], accessFlags := 1041 }

/-- the primitive int -/
def k10 : Class := { plain "int" none with kind := .primitive 'I', accessFlags := 0x411 }
/-- [I -/
def k11 : Class := { plain "[I" (some 0) with kind := .array 10 .int, interfaces := #[6, 7], accessFlags := 1041 }

/-- [[I -/
def k12 : Class := { plain "[[I" (some 0) with kind := .array 11 (.array .int), interfaces := #[6, 7], accessFlags := 1041 }

def heap : Heap := #[{ cls := 12, slots := #[.null], vm := .none }]
def classes : Array Class := #[k0, k1, k2, k3, k4, k5, k6, k7, k8, k9, k10, k11, k12]
def interned : List (Array UInt16 × Addr) := []
def slotsUsed : Nat := 1
def theMethod : MethodId := ⟨1, 5⟩
def args0 : Array Value := #[.int 5, .int 6, .int 7, .int 8]
def aboutOver (below : List Frame) : State where
  vm := { classes := classes, interned := interned.toArray }
  heap := heap
  slotsUsed := slotsUsed
  threads := #[{ frames := .invoking theMethod args0 :: below }]
def below0 : List Frame := [.native { method := ⟨0, 0⟩, args := #[] }]
def about1 : State := aboutOver below0
def p0 : Program := .bare "" "" ""
def e0 : Env := launch0.env 0 0 0
theorem w_frames : about1.frames = Frame.invoking theMethod args0 :: below0 := rfl
set_option maxRecDepth 65536 in
theorem w_args : argsFit about1.vm theMethod args0 = true := by decide +kernel
set_option maxRecDepth 65536 in
theorem w_heap : heapFits about1 = true := by decide +kernel
set_option maxRecDepth 65536 in
theorem w_runnable : about1.curStatus? = some .runnable := by decide +kernel
set_option maxRecDepth 65536 in
theorem w_alone : about1.alone = true := by decide +kernel
set_option maxRecDepth 65536 in
theorem w_named : about1.methodNamed? x = some theMethod := by decide +kernel
set_option maxRecDepth 65536 in
theorem w_hears : about1.hears theMethod below0 = true := by decide +kernel
set_option maxRecDepth 65536 in
theorem w_ripe : about1.ripe theMethod args0 below0 = true := by decide +kernel
theorem w_running : about1.status = .running := rfl
set_option maxRecDepth 65536 in
theorem w_room : about1.hasRoom e0.platform room_1 = true :=
  launch0.hasRoom_least _ room_1 (by decide +kernel) (by decide +kernel) (by decide +kernel) (by decide +kernel) (by decide +kernel) (by decide +kernel)
theorem allAtoms_all (ts : List Jvm.Cond) (a : Array Jvm.Value) (st : Jvm.State) : (allAtoms ts).before a st = ts.all (fun c => c.before a st) := by
  induction ts with
  | nil => rfl
  | cons c t ih =>
    show (Jvm.Cond.and c (allAtoms t)).before a st = _
    rw [Jvm.Cond.before_and, ih, List.all_cons]
def words1 : List Jvm.Cond := Jvm.Cond.code x code maxLocals ret :: tables_1
/-- a 'code' word, met by the world's own term for the bytes: nothing is compared byte by byte -/
theorem code_word {y : MethodName} {bytes : ByteArray} {mx : Nat} {rt : Option FieldType} {a : Array Value} {s : State} {m : MethodId} {meth : Method} {c : Code} (h1 : s.methodNamed? y = some m) (h2 : s.vm.method? m = some meth) (h3 : meth.code = some c) (h4 : c.code = bytes)
    (h5 : (c.maxLocals == mx && c.exceptionTable.isEmpty && decide (c.maxStack ≤ mostOperands) && decide (meth.sig.returnType = rt) && !meth.locks && decide (parseMethodDescriptor y.desc = some meth.sig)) = true) : (Jvm.Cond.code y bytes mx rt).before a s = true := by
  simp only [Bool.and_eq_true, beq_iff_eq, Bool.not_eq_true', decide_eq_true_eq] at h5
  obtain ⟨⟨⟨⟨⟨g1, g2⟩, g3⟩, g4⟩, g5⟩, g6⟩ := h5
  simp [Cond.before, Cond.holds, Cond.value, h1, h2, h3, h4, g1, g2, g3, g4, g5, g6]
def isCode : Jvm.Cond → Bool
  | .code _ _ _ _ => true
  | _ => false
theorem all_split {L : List Jvm.Cond} {P : Jvm.Cond → Bool} (h1 : L.all (fun c => isCode c || P c) = true) (h2 : ∀ c ∈ L.filter isCode, P c = true) : L.all P = true := by
  refine List.all_eq_true.mpr fun c hc => ?_
  have h := List.all_eq_true.mp h1 c hc
  rcases Bool.eq_false_or_eq_true (isCode c) with hi | hi
  · exact h2 c (List.mem_filter.mpr ⟨hc, hi⟩)
  · simpa [hi] using h
set_option maxRecDepth 65536 in
theorem w_c0 : (Jvm.Cond.code x code maxLocals ret).before args0 about1 = true := code_word (m := ⟨1, 5⟩) (meth := k1m5) (c := k1c5) (by decide +kernel) rfl rfl rfl (by decide +kernel)
set_option maxRecDepth 65536 in
theorem w_c1 : (Jvm.Cond.code ({ cls := "com/example/terms_to_scores/termstoscores/index/PostingsGetFreqPinLaw", name := "freq", desc := "(III)I" } : Jvm.MethodName) method_2_code (3 : Nat) (Option.some Jvm.ClassFile.FieldType.int)).before args0 about1 = true := code_word (m := ⟨1, 1⟩) (meth := k1m1) (c := k1c1) (by decide +kernel) rfl rfl rfl (by decide +kernel)
set_option maxRecDepth 65536 in
theorem w_c2 : (Jvm.Cond.code ({ cls := "com/example/terms_to_scores/termstoscores/index/PostingsGetFreqPinLaw", name := "docAt", desc := "(IIIIII)I" } : Jvm.MethodName) method_5_code (6 : Nat) (Option.some Jvm.ClassFile.FieldType.int)).before args0 about1 = true := code_word (m := ⟨1, 4⟩) (meth := k1m4) (c := k1c4) (by decide +kernel) rfl rfl rfl (by decide +kernel)
set_option maxRecDepth 65536 in
theorem w_c3 : (Jvm.Cond.code ({ cls := "com/example/terms_to_scores/termstoscores/index/PostingsGetFreqPinLaw", name := "which", desc := "(IIIII)I" } : Jvm.MethodName) method_3_code (5 : Nat) (Option.some Jvm.ClassFile.FieldType.int)).before args0 about1 = true := code_word (m := ⟨1, 2⟩) (meth := k1m2) (c := k1c2) (by decide +kernel) rfl rfl rfl (by decide +kernel)
set_option maxRecDepth 65536 in
theorem w_c4 : (Jvm.Cond.code ({ cls := "com/example/terms_to_scores/termstoscores/index/PostingsGetFreqPinLaw", name := "docNo", desc := "(II)I" } : Jvm.MethodName) method_4_code (2 : Nat) (Option.some Jvm.ClassFile.FieldType.int)).before args0 about1 = true := code_word (m := ⟨1, 3⟩) (meth := k1m3) (c := k1c3) (by decide +kernel) rfl rfl rfl (by decide +kernel)
set_option maxRecDepth 65536 in
theorem w_c5 : (Jvm.Cond.code ({ cls := "com/example/terms_to_scores/termstoscores/index/Postings", name := "<init>", desc := "()V" } : Jvm.MethodName) prog_33_method_1_code (1 : Nat) (Option.none : Option Jvm.ClassFile.FieldType)).before args0 about1 = true := code_word (m := ⟨2, 0⟩) (meth := k2m0) (c := k2c0) (by decide +kernel) rfl rfl rfl (by decide +kernel)
set_option maxRecDepth 65536 in
theorem w_c6 : (Jvm.Cond.code ({ cls := "java/lang/Object", name := "<init>", desc := "()V" } : Jvm.MethodName) object_method_1_code (1 : Nat) (Option.none : Option Jvm.ClassFile.FieldType)).before args0 about1 = true := code_word (m := ⟨0, 0⟩) (meth := k0m0) (c := k0c0) (by decide +kernel) rfl rfl rfl (by decide +kernel)
set_option maxRecDepth 65536 in
theorem w_c7 : (Jvm.Cond.code ({ cls := "com/example/terms_to_scores/termstoscores/index/Postings", name := "add", desc := "([I[III[B)V" } : Jvm.MethodName) prog_33_method_2_code (9 : Nat) (Option.none : Option Jvm.ClassFile.FieldType)).before args0 about1 = true := code_word (m := ⟨2, 1⟩) (meth := k2m1) (c := k2c1) (by decide +kernel) rfl rfl rfl (by decide +kernel)
set_option maxRecDepth 65536 in
theorem w_c8 : (Jvm.Cond.code ({ cls := "java/lang/Math", name := "min", desc := "(II)I" } : Jvm.MethodName) jdk_29_method_69_code (2 : Nat) (Option.some Jvm.ClassFile.FieldType.int)).before args0 about1 = true := code_word (m := ⟨3, 2⟩) (meth := k3m2) (c := k3c2) (by decide +kernel) rfl rfl rfl (by decide +kernel)
set_option maxRecDepth 65536 in
theorem w_c9 : (Jvm.Cond.code ({ cls := "java/lang/Math", name := "max", desc := "(II)I" } : Jvm.MethodName) jdk_29_method_65_code (2 : Nat) (Option.some Jvm.ClassFile.FieldType.int)).before args0 about1 = true := code_word (m := ⟨3, 1⟩) (meth := k3m1) (c := k3c1) (by decide +kernel) rfl rfl rfl (by decide +kernel)
set_option maxRecDepth 65536 in
theorem w_c10 : (Jvm.Cond.code ({ cls := "com/example/terms_to_scores/termstoscores/index/Postings", name := "size", desc := "()I" } : Jvm.MethodName) prog_33_method_3_code (1 : Nat) (Option.some Jvm.ClassFile.FieldType.int)).before args0 about1 = true := code_word (m := ⟨2, 2⟩) (meth := k2m2) (c := k2c2) (by decide +kernel) rfl rfl rfl (by decide +kernel)
set_option maxRecDepth 65536 in
theorem w_c11 : (Jvm.Cond.code ({ cls := "com/example/terms_to_scores/termstoscores/index/Postings", name := "getFreq", desc := "(I)I" } : Jvm.MethodName) prog_33_method_5_code (2 : Nat) (Option.some Jvm.ClassFile.FieldType.int)).before args0 about1 = true := code_word (m := ⟨2, 3⟩) (meth := k2m3) (c := k2c3) (by decide +kernel) rfl rfl rfl (by decide +kernel)
set_option maxRecDepth 65536 in
theorem w_c12 : (Jvm.Cond.code ({ cls := "java/util/Arrays", name := "copyOf", desc := "([II)[I" } : Jvm.MethodName) jdk_65_method_123_code (3 : Nat) (Option.some (Jvm.ClassFile.FieldType.array Jvm.ClassFile.FieldType.int))).before args0 about1 = true := code_word (m := ⟨5, 1⟩) (meth := k5m1) (c := k5c1) (by decide +kernel) rfl rfl rfl (by decide +kernel)
def codes1 : List Jvm.Cond := [Jvm.Cond.code x code maxLocals ret, Jvm.Cond.code ({ cls := "com/example/terms_to_scores/termstoscores/index/PostingsGetFreqPinLaw", name := "freq", desc := "(III)I" } : Jvm.MethodName) method_2_code (3 : Nat) (Option.some Jvm.ClassFile.FieldType.int), Jvm.Cond.code ({ cls := "com/example/terms_to_scores/termstoscores/index/PostingsGetFreqPinLaw", name := "docAt", desc := "(IIIIII)I" } : Jvm.MethodName) method_5_code (6 : Nat) (Option.some Jvm.ClassFile.FieldType.int), Jvm.Cond.code ({ cls := "com/example/terms_to_scores/termstoscores/index/PostingsGetFreqPinLaw", name := "which", desc := "(IIIII)I" } : Jvm.MethodName) method_3_code (5 : Nat) (Option.some Jvm.ClassFile.FieldType.int), Jvm.Cond.code ({ cls := "com/example/terms_to_scores/termstoscores/index/PostingsGetFreqPinLaw", name := "docNo", desc := "(II)I" } : Jvm.MethodName) method_4_code (2 : Nat) (Option.some Jvm.ClassFile.FieldType.int), Jvm.Cond.code ({ cls := "com/example/terms_to_scores/termstoscores/index/Postings", name := "<init>", desc := "()V" } : Jvm.MethodName) prog_33_method_1_code (1 : Nat) (Option.none : Option Jvm.ClassFile.FieldType), Jvm.Cond.code ({ cls := "java/lang/Object", name := "<init>", desc := "()V" } : Jvm.MethodName) object_method_1_code (1 : Nat) (Option.none : Option Jvm.ClassFile.FieldType), Jvm.Cond.code ({ cls := "com/example/terms_to_scores/termstoscores/index/Postings", name := "add", desc := "([I[III[B)V" } : Jvm.MethodName) prog_33_method_2_code (9 : Nat) (Option.none : Option Jvm.ClassFile.FieldType), Jvm.Cond.code ({ cls := "java/lang/Math", name := "min", desc := "(II)I" } : Jvm.MethodName) jdk_29_method_69_code (2 : Nat) (Option.some Jvm.ClassFile.FieldType.int), Jvm.Cond.code ({ cls := "java/lang/Math", name := "max", desc := "(II)I" } : Jvm.MethodName) jdk_29_method_65_code (2 : Nat) (Option.some Jvm.ClassFile.FieldType.int), Jvm.Cond.code ({ cls := "com/example/terms_to_scores/termstoscores/index/Postings", name := "size", desc := "()I" } : Jvm.MethodName) prog_33_method_3_code (1 : Nat) (Option.some Jvm.ClassFile.FieldType.int), Jvm.Cond.code ({ cls := "com/example/terms_to_scores/termstoscores/index/Postings", name := "getFreq", desc := "(I)I" } : Jvm.MethodName) prog_33_method_5_code (2 : Nat) (Option.some Jvm.ClassFile.FieldType.int), Jvm.Cond.code ({ cls := "java/util/Arrays", name := "copyOf", desc := "([II)[I" } : Jvm.MethodName) jdk_65_method_123_code (3 : Nat) (Option.some (Jvm.ClassFile.FieldType.array Jvm.ClassFile.FieldType.int))]
set_option maxRecDepth 65536 in
theorem codes_eq : words1.filter isCode = codes1 := rfl
theorem w_codes : ∀ c ∈ words1.filter isCode, c.before args0 about1 = true := by
  rw [codes_eq]
  intro c hc
  simp only [codes1, List.mem_cons, List.not_mem_nil, or_false] at hc
  rcases hc with rfl | rfl | rfl | rfl | rfl | rfl | rfl | rfl | rfl | rfl | rfl | rfl | rfl
  · exact w_c0
  · exact w_c1
  · exact w_c2
  · exact w_c3
  · exact w_c4
  · exact w_c5
  · exact w_c6
  · exact w_c7
  · exact w_c8
  · exact w_c9
  · exact w_c10
  · exact w_c11
  · exact w_c12
set_option maxRecDepth 65536 in
theorem w_t1 : (words1.take 24).all (fun c => isCode c || c.before args0 about1) = true := by decide +kernel
set_option maxRecDepth 65536 in
theorem w_t2 : ((words1.drop 24).take 24).all (fun c => isCode c || c.before args0 about1) = true := by decide +kernel
set_option maxRecDepth 65536 in
theorem w_t3 : (((words1.drop 24).drop 24).take 24).all (fun c => isCode c || c.before args0 about1) = true := by decide +kernel
set_option maxRecDepth 65536 in
theorem w_t4 : (((words1.drop 24).drop 24).drop 24).all (fun c => isCode c || c.before args0 about1) = true := by decide +kernel
theorem w_tables : (allAtoms (Jvm.Cond.code x code maxLocals ret :: tables_1)).before args0 about1 = true := by
  rw [allAtoms_all]
  show words1.all (fun c => c.before args0 about1) = true
  refine all_split ?_ w_codes
  rw [← List.take_append_drop 24 words1, List.all_append, w_t1, ← List.take_append_drop 24 (words1.drop 24), List.all_append, w_t2, ← List.take_append_drop 24 ((words1.drop 24).drop 24), List.all_append, w_t3, w_t4]
  rfl
set_option maxRecDepth 65536 in
theorem w_case : (Jvm.Cond.and given_1 narrow_1).before args0 about1 = true := by decide +kernel
theorem w_applies : (headSpec (Jvm.Cond.code x code maxLocals ret :: tables_1) room_1).applies x e0.platform about1 = true :=
  (Spec.applies_iff w_frames).mpr ⟨w_running, w_runnable, w_alone, w_named, w_hears, w_ripe, w_room, w_tables⟩
theorem atStart : AtStart classFile x code maxLocals ret World_1 tables_1 room_1 Calls_1 rest_1 Pre_1 launch0 p0 e0 about1 theMethod args0 below0 :=
  ⟨lists_1, trivial, launch0.admits_env _ _ _, launch0.least_env, fairChoices_fair.cas, fairChoices_fair.clock, w_frames, w_args, w_heap, w_applies, trivial, trivial, w_case⟩
end start1
theorem witness_1 : WitnessClaimed_1 := ⟨start1.p0, start1.e0, start1.about1, start1.theMethod, start1.args0, start1.below0, start1.atStart⟩
end Jvm.Pilot.@@N@@
