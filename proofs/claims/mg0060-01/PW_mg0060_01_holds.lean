import PyProof.Rows.All
import Wide.All
import OpenK.AllK
import Wide.FinOn
import PySem.Challenge.RW_mg0060_01
set_option Elab.async false
set_option maxRecDepth 100000
set_option maxHeartbeats 8000000
set_option linter.all false
section
namespace Mine
/-- the loop of _siftdown: fuel, place, list -/
def sdF {α : Type} (lt : α → α → Bool) (start : Nat) (x : α) : Nat → Nat → List α → List α
  | 0, pos, l => l.set pos x
  | f + 1, pos, l => if start < pos then (match l[(pos - 1) / 2]? with
      | some p => if lt x p then sdF lt start x f ((pos - 1) / 2) (l.set pos p) else l.set pos x
      | none => l.set pos x) else l.set pos x
def ltAt {α : Type} (lt : α → α → Bool) (l : List α) (i j : Nat) : Bool := match l[i]?, l[j]? with
  | some a, some b => lt a b
  | _, _ => false
/-- the child that goes up -/
def upC {α : Type} (lt : α → α → Bool) (l : List α) (pos : Nat) : Nat :=
  if decide (2 * pos + 2 < l.length) && !(ltAt lt l (2 * pos + 1) (2 * pos + 2)) then 2 * pos + 2 else 2 * pos + 1
/-- the loop of _siftup -/
def suF {α : Type} (lt : α → α → Bool) : Nat → Nat → List α → List α × Nat
  | 0, pos, l => (l, pos)
  | f + 1, pos, l => if 2 * pos + 1 < l.length then (match l[upC lt l pos]? with
      | some y => suF lt f (upC lt l pos) (l.set pos y)
      | none => (l, pos)) else (l, pos)
def siftdown {α : Type} (lt : α → α → Bool) (start pos : Nat) (l : List α) : List α := match l[pos]? with
  | some x => sdF lt start x pos pos l
  | none => l
def siftup {α : Type} (lt : α → α → Bool) (pos : Nat) (l : List α) : List α := match l[pos]? with
  | some x => siftdown lt pos (suF lt (l.length - pos) pos l).2 ((suF lt (l.length - pos) pos l).1.set (suF lt (l.length - pos) pos l).2 x)
  | none => l
end Mine
namespace Mine
def heapifyF {α : Type} (lt : α → α → Bool) : Nat → List α → List α
  | 0, l => l
  | k + 1, l => heapifyF lt k (siftup lt k l)
def hreplace {α : Type} (lt : α → α → Bool) (l : List α) (y : α) : List α := siftup lt 0 (l.set 0 y)
end Mine
end
section
namespace Mine
section
variable {α : Type}
theorem set_perm {l : List α} {i : Nat} {a : α} (h : i < l.length) : (l.set i a).Perm (a :: l.eraseIdx i) := by
  rw [List.set_eq_take_append_cons_drop, if_pos h, List.eraseIdx_eq_take_drop_succ]
  exact List.perm_middle
theorem get_perm {l : List α} {i : Nat} {a : α} (h : l[i]? = some a) : l.Perm (a :: l.eraseIdx i) := by
  have hi : i < l.length := by
    rcases Nat.lt_or_ge i l.length with q | q
    · exact q
    · rw [List.getElem?_eq_none q] at h; cases h
  have e : l.set i a = l := by
    apply List.ext_getElem?
    intro j
    by_cases q : i = j
    · subst q; rw [List.getElem?_set_self hi]; exact h.symm
    · rw [List.getElem?_set_ne q]
  have := set_perm (a := a) hi
  rw [e] at this
  exact this
/-- what lies at c goes to p, x to c -/
theorem move_perm {l : List α} {p c : Nat} {v x : α} (hp : p < l.length) (hc : l[c]? = some v) (hne : p ≠ c) : ((l.set p v).set c x).Perm (l.set p x) := by
  have hcl : c < l.length := by
    rcases Nat.lt_or_ge c l.length with q | q
    · exact q
    · rw [List.getElem?_eq_none q] at hc; cases hc
  have h1 : ((l.set p v).set c x).Perm (x :: (l.set p v).eraseIdx c) := set_perm (by rw [List.length_set]; exact hcl)
  have h2 : (l.set p v).Perm (v :: l.eraseIdx p) := set_perm hp
  have h3 : (l.set p v).Perm (v :: (l.set p v).eraseIdx c) := get_perm (by rw [List.getElem?_set_ne hne]; exact hc)
  have h4 : ((l.set p v).eraseIdx c).Perm (l.eraseIdx p) := (h3.symm.trans h2).cons_inv
  exact h1.trans ((h4.cons x).trans (set_perm hp).symm)

theorem getq_lt {l : List α} {i : Nat} {a : α} (h : l[i]? = some a) : i < l.length := by
  rcases Nat.lt_or_ge i l.length with q | q
  · exact q
  · rw [List.getElem?_eq_none q] at h; cases h

variable (k : α → Int)
/-- in heap order, where the parent is at a or later -/
def Ord (a : Nat) (l : List α) : Prop := ∀ i x y, 1 ≤ i → a ≤ (i - 1) / 2 → l[(i - 1) / 2]? = some x → l[i]? = some y → k x ≤ k y
/-- p lies below a (or is a) -/
inductive Desc (a : Nat) : Nat → Prop
  | root : Desc a a
  | step {p : Nat} : 1 ≤ p → Desc a ((p - 1) / 2) → Desc a p
theorem Desc.le {a p : Nat} (h : Desc a p) : a ≤ p := by
  induction h with
  | root => exact Nat.le_refl _
  | step h1 _ ih => omega
theorem Desc.up {a p : Nat} (h : Desc a p) (hne : a < p) : Desc a ((p - 1) / 2) := by
  cases h with
  | root => omega
  | step _ h => exact h

abbrev ltk : α → α → Bool := fun x y => decide (k x < k y)

structure HoleS (a p : Nat) (x : α) (l : List α) : Prop where
  k1 : ∀ i u v, 1 ≤ i → a ≤ (i - 1) / 2 → (i - 1) / 2 ≠ p → i ≠ p → l[(i - 1) / 2]? = some u → l[i]? = some v → k u ≤ k v
  k2 : ∀ i u v, 1 ≤ i → (i - 1) / 2 = p → a < p → l[(p - 1) / 2]? = some u → l[i]? = some v → k u ≤ k v
  k3 : ∀ i v, 1 ≤ i → (i - 1) / 2 = p → l[i]? = some v → k x ≤ k v

theorem sdF_ord {a : Nat} {x : α} : ∀ (f p : Nat) (l : List α), p ≤ f → p < l.length → Desc a p → HoleS k a p x l → Ord k a (sdF (ltk k) a x f p l) ∧ (sdF (ltk k) a x f p l).Perm (l.set p x) := by
  intro f
  have fin : ∀ (p : Nat) (l : List α), p < l.length → HoleS k a p x l → (a < p → ∀ u, l[(p - 1) / 2]? = some u → k u ≤ k x) → Ord k a (l.set p x) := by
    intro p l hp H hu i u v h1 h2 e1 e2
    by_cases q : i = p
    · subst q
      rw [List.getElem?_set_self hp] at e2
      cases e2
      rw [List.getElem?_set_ne (by omega)] at e1
      exact hu (by omega) u e1
    · rw [List.getElem?_set_ne (Ne.symm q)] at e2
      by_cases q2 : (i - 1) / 2 = p
      · rw [q2, List.getElem?_set_self hp] at e1
        cases e1
        exact H.k3 i v h1 q2 e2
      · rw [List.getElem?_set_ne (Ne.symm q2)] at e1
        exact H.k1 i u v h1 h2 q2 q e1 e2
  induction f with
  | zero =>
    intro p l hf hp D H
    have hp0 : p = 0 := by omega
    exact ⟨fin p l hp H (fun h => by omega), .refl _⟩
  | succ f ih =>
    intro p l hf hp D H
    unfold sdF
    by_cases hap : a < p
    · rw [if_pos hap]
      have hq : (p - 1) / 2 < l.length := by omega
      obtain ⟨y, hy⟩ : ∃ y, l[(p - 1) / 2]? = some y := ⟨_, List.getElem?_eq_getElem hq⟩
      simp only [hy]
      by_cases hlt : k x < k y
      · have hd : ltk k x y = true := by simpa using hlt
        rw [if_pos hd]
        have hne : p ≠ (p - 1) / 2 := by omega
        have D' := D.up hap
        have hD' := D'.le
        have step := ih ((p - 1) / 2) (l.set p y) (by omega) (by rw [List.length_set]; exact hq) D' ⟨?_, ?_, ?_⟩
        · exact ⟨step.1, step.2.trans (move_perm hp hy hne)⟩
        · intro i u v h1 h2 h3 h4 e1 e2
          have hip : i ≠ p := fun q => by subst q; exact h3 rfl
          rw [List.getElem?_set_ne (Ne.symm hip)] at e2
          by_cases q2 : (i - 1) / 2 = p
          · rw [q2, List.getElem?_set_self hp] at e1
            cases e1
            exact H.k2 i y v h1 q2 hap hy e2
          · rw [List.getElem?_set_ne (Ne.symm q2)] at e1
            exact H.k1 i u v h1 h2 q2 hip e1 e2
        · intro i u v h1 h2 h3 e1 e2
          rw [List.getElem?_set_ne (by omega)] at e1
          have up : a ≤ ((p - 1) / 2 - 1) / 2 := (D'.up h3).le
          have c1 : k u ≤ k y := H.k1 ((p - 1) / 2) u y (by omega) up (by omega) (by omega) e1 hy
          by_cases q : i = p
          · subst q
            rw [List.getElem?_set_self hp] at e2
            cases e2
            exact c1
          · rw [List.getElem?_set_ne (Ne.symm q)] at e2
            have c2 : k y ≤ k v := H.k1 i y v h1 (by omega) (by omega) q (by rw [h2]; exact hy) e2
            omega
        · intro i v h1 h2 e2
          by_cases q : i = p
          · subst q
            rw [List.getElem?_set_self hp] at e2
            cases e2
            omega
          · rw [List.getElem?_set_ne (Ne.symm q)] at e2
            have c2 : k y ≤ k v := H.k1 i y v h1 (by omega) (by omega) q (by rw [h2]; exact hy) e2
            omega
      · have hd : ltk k x y = false := by simpa using hlt
        rw [hd, if_neg Bool.false_ne_true]
        exact ⟨fin p l hp H (fun _ u e => by rw [hy] at e; cases e; omega), .refl _⟩
    · rw [if_neg hap]
      exact ⟨fin p l hp H (fun h => absurd h hap), .refl _⟩

structure HoleU (a p : Nat) (l : List α) : Prop where
  j1 : ∀ i u v, 1 ≤ i → a ≤ (i - 1) / 2 → (i - 1) / 2 ≠ p → l[(i - 1) / 2]? = some u → l[i]? = some v → k u ≤ k v
  j2 : ∀ i u v, 1 ≤ i → (i - 1) / 2 = p → a < p → l[(p - 1) / 2]? = some u → l[i]? = some v → k u ≤ k v

theorem suF_ord {a : Nat} {x : α} : ∀ (f p : Nat) (l : List α), l.length ≤ p + f → p < l.length → Desc a p → HoleU k a p l →
    (suF (ltk k) f p l).2 < l.length ∧ (suF (ltk k) f p l).1.length = l.length ∧ Desc a (suF (ltk k) f p l).2 ∧ HoleS k a (suF (ltk k) f p l).2 x (suF (ltk k) f p l).1 ∧ ((suF (ltk k) f p l).1.set (suF (ltk k) f p l).2 x).Perm (l.set p x) := by
  intro f
  have leaf : ∀ (p : Nat) (l : List α), p < l.length → HoleU k a p l → ¬ 2 * p + 1 < l.length → HoleS k a p x l := by
    intro p l hp H hl
    refine ⟨fun i u v h1 h2 h3 _ e1 e2 => H.j1 i u v h1 h2 h3 e1 e2, fun i u v h1 h2 h3 e1 e2 => ?_, fun i v h1 h2 e2 => ?_⟩
    · have := getq_lt e2; omega
    · have := getq_lt e2; omega
  induction f with
  | zero => intro p l hf hp D H; omega
  | succ f ih =>
    intro p l hf hp D H
    unfold suF
    by_cases hc : 2 * p + 1 < l.length
    · rw [if_pos hc]
      obtain ⟨z1, hz1⟩ : ∃ z, l[2 * p + 1]? = some z := ⟨_, List.getElem?_eq_getElem hc⟩
      -- the child that goes up is the smaller one
      have key : ∃ c v, upC (ltk k) l p = c ∧ l[c]? = some v ∧ 1 ≤ c ∧ (c - 1) / 2 = p ∧ ∀ i w, 1 ≤ i → (i - 1) / 2 = p → l[i]? = some w → k v ≤ k w := by
        unfold upC
        by_cases hr : 2 * p + 2 < l.length
        · obtain ⟨z2, hz2⟩ : ∃ z, l[2 * p + 2]? = some z := ⟨_, List.getElem?_eq_getElem hr⟩
          by_cases hlt : k z1 < k z2
          · refine ⟨2 * p + 1, z1, ?_, hz1, by omega, by omega, fun i w h1 h2 e => ?_⟩
            · rw [if_neg]; simp [ltAt, hz1, hz2, hlt]
            · rcases (by omega : i = 2 * p + 1 ∨ i = 2 * p + 2) with q | q
              · subst q; rw [hz1] at e; cases e; exact Int.le_refl _
              · subst q; rw [hz2] at e; cases e; omega
          · refine ⟨2 * p + 2, z2, ?_, hz2, by omega, by omega, fun i w h1 h2 e => ?_⟩
            · have hb : ltAt (ltk k) l (2 * p + 1) (2 * p + 2) = false := by simp only [ltAt, hz1, hz2]; exact decide_eq_false hlt
              rw [hb, if_pos]; simp [hr]
            · rcases (by omega : i = 2 * p + 1 ∨ i = 2 * p + 2) with q | q
              · subst q; rw [hz1] at e; cases e; omega
              · subst q; rw [hz2] at e; cases e; exact Int.le_refl _
        · refine ⟨2 * p + 1, z1, ?_, hz1, by omega, by omega, fun i w h1 h2 e => ?_⟩
          · rw [if_neg]; simp [hr]
          · have := getq_lt e
            have q : i = 2 * p + 1 := by omega
            subst q; rw [hz1] at e; cases e; exact Int.le_refl _
      obtain ⟨c, v, hupc, hcv, hc1, hcp, hmin⟩ := key
      rw [hupc]
      simp only [hcv]
      have hcl := getq_lt hcv
      have hD := D.le
      have step := ih c (l.set p v) (by rw [List.length_set]; omega) (by rw [List.length_set]; exact hcl) (.step hc1 (by rw [hcp]; exact D)) ⟨?_, ?_⟩
      · rw [List.length_set] at step
        exact ⟨step.1, step.2.1, step.2.2.1, step.2.2.2.1, step.2.2.2.2.trans (move_perm hp hcv (by omega))⟩
      · intro i u w h1 h2 h3 e1 e2
        by_cases q : i = p
        · subst q
          rw [List.getElem?_set_self hp] at e2
          cases e2
          rw [List.getElem?_set_ne (by omega)] at e1
          exact H.j2 c u v hc1 hcp (by omega) e1 hcv
        · rw [List.getElem?_set_ne (Ne.symm q)] at e2
          by_cases q2 : (i - 1) / 2 = p
          · rw [q2, List.getElem?_set_self hp] at e1
            cases e1
            exact hmin i w h1 q2 e2
          · rw [List.getElem?_set_ne (Ne.symm q2)] at e1
            exact H.j1 i u w h1 h2 q2 e1 e2
      · intro i u w h1 h2 h3 e1 e2
        rw [hcp, List.getElem?_set_self hp] at e1
        cases e1
        rw [List.getElem?_set_ne (by omega)] at e2
        exact H.j1 i v w h1 (by omega) (by omega) (by rw [h2]; exact hcv) e2
    · rw [if_neg hc]
      exact ⟨hp, rfl, D, leaf p l hp H hc, .refl _⟩

theorem siftup_ord {a : Nat} {l : List α} (ha : a < l.length) (H : Ord k (a + 1) l) : Ord k a (siftup (ltk k) a l) ∧ (siftup (ltk k) a l).Perm l := by
  obtain ⟨x, hx⟩ : ∃ x, l[a]? = some x := ⟨_, List.getElem?_eq_getElem ha⟩
  unfold siftup
  simp only [hx]
  obtain ⟨h1, h2, h3, h4, h5⟩ := suF_ord (a := a) (x := x) k (l.length - a) a l (by omega) ha .root
    ⟨fun i u v q1 q2 q3 e1 e2 => H i u v q1 (by omega) e1 e2, fun i u v q1 q2 q3 => absurd q3 (Nat.lt_irrefl _)⟩
  generalize suF (ltk k) (l.length - a) a l = r at *
  obtain ⟨m, p⟩ := r
  dsimp only at *
  have hp : p < m.length := by omega
  unfold siftdown
  rw [List.getElem?_set_self hp]
  dsimp only
  have H' : HoleS k a p x (m.set p x) := by
    refine ⟨fun i u v q1 q2 q3 q4 e1 e2 => ?_, fun i u v q1 q2 q3 e1 e2 => ?_, fun i v q1 q2 e2 => ?_⟩
    · rw [List.getElem?_set_ne (Ne.symm q3)] at e1
      rw [List.getElem?_set_ne (Ne.symm q4)] at e2
      exact h4.k1 i u v q1 q2 q3 q4 e1 e2
    · rw [List.getElem?_set_ne (by omega)] at e1
      rw [List.getElem?_set_ne (by omega)] at e2
      exact h4.k2 i u v q1 q2 q3 e1 e2
    · rw [List.getElem?_set_ne (by omega)] at e2
      exact h4.k3 i v q1 q2 e2
  have fin := sdF_ord k (a := a) (x := x) p p (m.set p x) (Nat.le_refl _) (by rw [List.length_set]; exact hp) h3 H'
  refine ⟨fin.1, fin.2.trans ?_⟩
  rw [List.set_set]
  refine h5.trans ?_
  have e : l.set a x = l := by
    apply List.ext_getElem?
    intro j
    by_cases q : a = j
    · subst q; rw [List.getElem?_set_self ha]; exact hx.symm
    · rw [List.getElem?_set_ne q]
  rw [e]

theorem heapify_ord : ∀ (n : Nat) (l : List α), n ≤ l.length → Ord k n l → Ord k 0 (heapifyF (ltk k) n l) ∧ (heapifyF (ltk k) n l).Perm l
  | 0, l, _, H => ⟨H, .refl _⟩
  | n + 1, l, hn, H => by
    have s := siftup_ord k (a := n) (l := l) (by omega) H
    have r := heapify_ord n (siftup (ltk k) n l) (by rw [s.2.length_eq]; omega) s.1
    exact ⟨r.1, r.2.trans s.2⟩
theorem heapify_all (l : List α) : Ord k 0 (heapifyF (ltk k) (l.length / 2) l) ∧ (heapifyF (ltk k) (l.length / 2) l).Perm l :=
  heapify_ord k _ l (by omega) fun i x y h1 h2 e1 e2 => by have := getq_lt e2; omega
theorem hreplace_ord {l : List α} {x y : α} {r : List α} (hl : l = x :: r) (H : Ord k 0 l) : Ord k 0 (hreplace (ltk k) l y) ∧ (hreplace (ltk k) l y).Perm (y :: r) := by
  subst hl
  unfold hreplace
  refine siftup_ord k (a := 0) (l := (x :: r).set 0 y) (by simp) fun i u v h1 h2 e1 e2 => ?_
  rw [List.getElem?_set_ne (by omega)] at e1 e2
  exact H i u v h1 (by omega) e1 e2
/-- the root is the least -/
theorem root_le {l : List α} {x : α} (H : Ord k 0 l) (h0 : l[0]? = some x) : ∀ (i : Nat) y, l[i]? = some y → k x ≤ k y := by
  intro i
  induction i using Nat.strongRecOn with
  | ind i ih =>
    intro y hy
    cases i with
    | zero => rw [h0] at hy; cases hy; exact Int.le_refl _
    | succ i =>
      have hi := getq_lt hy
      obtain ⟨z, hz⟩ : ∃ z, l[(i + 1 - 1) / 2]? = some z := ⟨_, List.getElem?_eq_getElem (by omega)⟩
      have a1 := ih _ (by omega) z hz
      have a2 := H (i + 1) z y (by omega) (by omega) hz hy
      omega
end

section
variable {α β : Type} (f : α → β) (lt : β → β → Bool)
theorem sdF_map (a : Nat) (x : α) : ∀ (n p : Nat) (l : List α), (sdF (fun x y => lt (f x) (f y)) a x n p l).map f = sdF lt a (f x) n p (l.map f)
  | 0, p, l => by simp [sdF, List.map_set]
  | n + 1, p, l => by
    unfold sdF
    by_cases h : a < p
    · rw [if_pos h, if_pos h, List.getElem?_map]
      cases q : l[(p - 1) / 2]? with
      | none => simp [List.map_set]
      | some y =>
        simp only [Option.map_some]
        by_cases hl : lt (f x) (f y) = true
        · rw [if_pos hl, if_pos hl, sdF_map a x n, List.map_set]
        · rw [if_neg hl, if_neg hl, List.map_set]
    · rw [if_neg h, if_neg h, List.map_set]
theorem ltAt_map (l : List α) (i j : Nat) : ltAt (fun x y => lt (f x) (f y)) l i j = ltAt lt (l.map f) i j := by
  unfold ltAt
  rw [List.getElem?_map, List.getElem?_map]
  cases l[i]? <;> cases l[j]? <;> rfl
theorem upC_map (l : List α) (p : Nat) : upC (fun x y => lt (f x) (f y)) l p = upC lt (l.map f) p := by
  unfold upC
  rw [List.length_map, ltAt_map]
theorem suF_map : ∀ (n p : Nat) (l : List α), (suF (fun x y => lt (f x) (f y)) n p l).1.map f = (suF lt n p (l.map f)).1 ∧ (suF (fun x y => lt (f x) (f y)) n p l).2 = (suF lt n p (l.map f)).2
  | 0, p, l => ⟨rfl, rfl⟩
  | n + 1, p, l => by
    unfold suF
    rw [List.length_map]
    by_cases h : 2 * p + 1 < l.length
    · rw [if_pos h, if_pos h, ← upC_map, List.getElem?_map]
      cases q : l[upC (fun x y => lt (f x) (f y)) l p]? with
      | none => exact ⟨rfl, rfl⟩
      | some y =>
        simp only [Option.map_some]
        rw [← List.map_set]
        exact suF_map n _ _
    · rw [if_neg h, if_neg h]
      exact ⟨rfl, rfl⟩
theorem siftdown_map (a p : Nat) (l : List α) : (siftdown (fun x y => lt (f x) (f y)) a p l).map f = siftdown lt a p (l.map f) := by
  unfold siftdown
  rw [List.getElem?_map]
  cases l[p]? with
  | none => rfl
  | some x => exact sdF_map f lt a x p p l
theorem siftup_map (p : Nat) (l : List α) : (siftup (fun x y => lt (f x) (f y)) p l).map f = siftup lt p (l.map f) := by
  unfold siftup
  rw [List.getElem?_map, List.length_map]
  cases l[p]? with
  | none => rfl
  | some x =>
    simp only [Option.map_some]
    rw [siftdown_map, List.map_set, (suF_map f lt _ _ _).1, (suF_map f lt _ _ _).2]
theorem heapify_map : ∀ (n : Nat) (l : List α), (heapifyF (fun x y => lt (f x) (f y)) n l).map f = heapifyF lt n (l.map f)
  | 0, l => rfl
  | n + 1, l => by
    unfold heapifyF
    rw [heapify_map n, siftup_map]
theorem hreplace_map (l : List α) (y : α) : (hreplace (fun x y => lt (f x) (f y)) l y).map f = hreplace lt (l.map f) (f y) := by
  unfold hreplace
  rw [siftup_map, List.map_set]
end
end Mine
end
section
namespace Mine
section
variable {α : Type} (k : α → Int)
/-- es: a heap of the greatest of what was seen -/
structure Best (es seen : List α) : Prop where
  ord : Ord k 0 es
  rest : ∃ dr : List α, (es ++ dr).Perm seen ∧ ∀ x ∈ es, ∀ y ∈ dr, k y ≤ k x
variable {k}
theorem Best.head {es seen r : List α} {x : α} (B : Best k es seen) (he : es = x :: r) : ∀ y ∈ es, k x ≤ k y := by
  intro y hy
  obtain ⟨i, hi, e⟩ := List.getElem_of_mem hy
  exact root_le k B.ord (x := x) (by rw [he]; rfl) i y (by rw [List.getElem?_eq_getElem hi, e])
theorem Best.start (es : List α) : Best k (heapifyF (ltk k) (es.length / 2) es) es :=
  ⟨(heapify_all k es).1, [], by rw [List.append_nil]; exact (heapify_all k es).2, fun _ _ _ h => nomatch h⟩
theorem Best.take {es seen r : List α} {x e : α} (B : Best k es seen) (he : es = x :: r) (hlt : k x < k e) : Best k (hreplace (ltk k) es e) (seen ++ [e]) := by
  have hd := B.head he
  obtain ⟨dr, hp, hk⟩ := B.rest
  have o := hreplace_ord k (y := e) he B.ord
  refine ⟨o.1, x :: dr, ?_, fun u hu y hy => ?_⟩
  · have h1 : (hreplace (ltk k) es e ++ x :: dr).Perm ((e :: r) ++ x :: dr) := o.2.append_right _
    have h2 : ((e :: r) ++ x :: dr).Perm (e :: (es ++ dr)) := by
      rw [he]
      exact (List.perm_middle (l₁ := r) (l₂ := dr) (a := x)).cons e
    exact h1.trans (h2.trans ((hp.cons e).trans (List.perm_append_comm (l₁ := [e]) (l₂ := seen))))
  · have hu' := o.2.mem_iff.mp hu
    have hxu : k x ≤ k u := by
      rcases List.mem_cons.mp hu' with q | q
      · rw [q]; omega
      · exact hd u (by rw [he]; exact .tail _ q)
    rcases List.mem_cons.mp hy with q | q
    · rw [q]; exact hxu
    · have := hk x (by rw [he]; exact .head _) y q
      omega
theorem Best.skip {es seen r : List α} {x e : α} (B : Best k es seen) (he : es = x :: r) (hlt : ¬ k x < k e) : Best k es (seen ++ [e]) := by
  have hd := B.head he
  obtain ⟨dr, hp, hk⟩ := B.rest
  refine ⟨B.ord, e :: dr, ?_, fun u hu y hy => ?_⟩
  · exact (List.perm_middle).trans ((hp.cons e).trans (List.perm_append_comm (l₁ := [e]) (l₂ := seen)))
  · have := hd u hu
    rcases List.mem_cons.mp hy with q | q
    · rw [q]; omega
    · exact hk u hu y q
theorem Best.len_take {es seen r : List α} {x e : α} (B : Best k es seen) (he : es = x :: r) : (hreplace (ltk k) es e).length = es.length := by
  rw [(hreplace_ord k (y := e) he B.ord).2.length_eq, he]
  rfl

/-- what is sorted and lies below the rest is the start of all that is sorted -/
theorem take_unique {key : α → Int} : ∀ {S dr R : List α}, R.Pairwise (fun a b => key a < key b) → S.Pairwise (fun a b => key a < key b) → (S ++ dr).Perm R → (∀ x ∈ S, ∀ y ∈ dr, key x ≤ key y) → S = R.take S.length
  | [], _, _, _, _, _, _ => by simp
  | s :: S, dr, [], _, _, hp, _ => by simpa using hp.length_eq
  | s :: S, dr, r :: R, hR, hS, hp, hd => by
    rw [List.pairwise_cons] at hR hS
    have hs : s = r := by
      have m1 : s ∈ r :: R := hp.mem_iff.mp (.head _)
      rcases List.mem_cons.mp m1 with q | q
      · exact q
      · have a1 := hR.1 s q
        have m2 : r ∈ s :: S ++ dr := hp.mem_iff.mpr (.head _)
        rcases List.mem_append.mp m2 with m2 | m2
        · rcases List.mem_cons.mp m2 with m2 | m2
          · exact m2.symm
          · have := hS.1 r m2
            omega
        · have := hd s (.head _) r m2
          omega
    subst hs
    have := take_unique hR.2 hS.2 hp.cons_inv (fun x hx y hy => hd x (.tail _ hx) y hy)
    show s :: S = s :: R.take S.length
    rw [← this]
end
end Mine
end
section
open PySem PySem.W PyProof.Rows
namespace Mine
local macro_rules | `(tactic| o_head $_) => `(tactic| assumption)
/-- says nothing: its proof has the library write out the program's objects (hd0.heap_1) and stops ahead of the head -/
theorem hd0 : PySem.Challenge.rw_mg0060_01.row.Holds → PySem.Challenge.rw_mg0060_01.row.Holds := by
  intro h
  k_head
end Mine
end
section
open PySem PySem.W PyProof.Rows
namespace Mine
abbrev tupOf (vs : List Value) : Obj := { cls := .type "tuple", data := .seq vs.toArray }

section
variable {prog : Program} {w : World} {A : Around} {E : Value → Shared → Prop} {s : Shared}

theorem isInst_tup {y : Addr} {vs : List Value} {Q : Bool → Shared → Prop} (hy : s.heap.get? y = some (tupOf vs)) (h : Q true s) :
    wpAny (model prog w) A (isInstance (.ref y) (.type "tuple")) Q E s := wpAny_isInstance (T := "tuple") ⟨_, hy, rfl⟩ isSubtype_tuple_tuple h

/-- the first places differ: two ints -/
theorem tup_lt_tree {x y : Addr} {j k : Int} {t u : Tok} {vs ws : List Value} {P : PySem.Fin → Shared → Prop}
    (hx : s.heap.get? x = some (tupOf (.int j t :: vs))) (hy : s.heap.get? y = some (tupOf (.int k u :: ws))) (hne : j ≠ k) (h : P (.done (.ret (.bool (decide (j < k))))) s) :
    wpAny (model prog w) A (Builtin.«tuple.__lt__» ⟨[.ref x, .ref y], []⟩) P E s := by
  show wpAny _ _ (isInstance (.ref y) (.type "tuple") >>= _) _ _ s
  refine wpAny_bind (isInst_tup hy ?_)
  simp only [Bool.not_true, Bool.false_eq_true, if_false]
  refine wpAny_bind (wpAny_tupleItemsOf hx rfl ?_)
  refine wpAny_bind (wpAny_tupleItemsOf hy rfl ?_)
  refine wpAny_bind ?_
  rw [show ((Value.int j t :: vs).toArray.toList.zip (Value.int k u :: ws).toArray.toList) = (Value.int j t, Value.int k u) :: vs.zip ws from rfl, List.forIn_cons]
  refine wpAny_bind (wpAny_bind (wpAny_eqBool_int ?_))
  have hb : (j == k) = false := by simp [hne]
  rw [hb]
  simp only [Bool.not_false, if_true]
  refine wpAny_bind (wpAny_rule ?_)
  refine wpAny_bind (show wpAny (model prog w) A (compareOp .Lt (.int j t) (.int k u)) _ E s from wpAny_lt_int ?_)
  exact wpAny_bind (wpAny_pure (wpAny_pure (wpAny_pure (wpAny_pure h))))

theorem tup_lt {x y : Addr} {j k : Int} {t u : Tok} {vs ws : List Value} {Q : Value → Shared → Prop} (hu : A.units < cLine)
    (hx : s.heap.get? x = some (tupOf (.int j t :: vs))) (hy : s.heap.get? y = some (tupOf (.int k u :: ws))) (hne : j ≠ k) (h : Q (.bool (decide (j < k))) s) :
    wpAny (model prog w) A (compareOp .Lt (.ref x) (.ref y)) Q E s := by
  show wpAny (model prog w) A (richCompare .Lt (.ref x) (.ref y)) Q E s
  refine wpAny_richCompare_same_room (T := "tuple") (id := "tuple.__lt__") ⟨_, hx, rfl⟩ ⟨_, hy, rfl⟩ F.slot_tuple_lt ?_ hu
  refine wpAny_call_entry F.slot_tuple_lt ⟨_, hx, rfl⟩ F.entry_tuple_lt (tup_lt_tree hx hy hne ⟨_, rfl, ?_, h⟩) (F.args_tuple_lt_2 _ _)
  intro q; cases q

/-- a tuple against itself -/
theorem tup_lt_self {x : Addr} {j i : Int} {t u v : Tok} {c : Str} {Q : Value → Shared → Prop} (hu : A.units < cLine)
    (hx : s.heap.get? x = some (tupOf [.int j t, .int i u, .str c v])) (h : Q (.bool false) s) :
    wpAny (model prog w) A (compareOp .Lt (.ref x) (.ref x)) Q E s := by
  show wpAny (model prog w) A (richCompare .Lt (.ref x) (.ref x)) Q E s
  refine wpAny_richCompare_same_room (T := "tuple") (id := "tuple.__lt__") ⟨_, hx, rfl⟩ ⟨_, hx, rfl⟩ F.slot_tuple_lt ?_ hu
  refine wpAny_call_entry F.slot_tuple_lt ⟨_, hx, rfl⟩ F.entry_tuple_lt ?_ (F.args_tuple_lt_2 _ _)
  show wpAny _ _ (isInstance (.ref x) (.type "tuple") >>= _) _ _ s
  refine wpAny_bind (isInst_tup hx ?_)
  simp only [Bool.not_true, Bool.false_eq_true, if_false]
  refine wpAny_bind (wpAny_tupleItemsOf hx rfl ?_)
  refine wpAny_bind (wpAny_tupleItemsOf hx rfl ?_)
  refine wpAny_bind ?_
  rw [show (([Value.int j t, Value.int i u, Value.str c v] : List Value).toArray.toList.zip ([Value.int j t, Value.int i u, Value.str c v] : List Value).toArray.toList) = [(Value.int j t, Value.int j t), (Value.int i u, Value.int i u), (Value.str c v, Value.str c v)] from rfl]
  rw [List.forIn_cons]
  refine wpAny_bind (wpAny_bind (wpAny_eqBool_int ?_))
  simp only [beq_self_eq_true, Bool.not_true, Bool.false_eq_true, if_false]
  refine wpAny_pure ?_
  dsimp only
  rw [List.forIn_cons]
  refine wpAny_bind (wpAny_bind (wpAny_eqBool_int ?_))
  simp only [beq_self_eq_true, Bool.not_true, Bool.false_eq_true, if_false]
  refine wpAny_pure ?_
  dsimp only
  rw [List.forIn_cons]
  refine wpAny_bind (wpAny_bind (wpAny_eqBool_str ?_))
  simp only [decide_true, Bool.not_true, Bool.false_eq_true, if_false]
  refine wpAny_pure ?_
  dsimp only
  rw [List.forIn_nil]
  refine wpAny_pure ?_
  refine wpAny_pure ?_
  exact ⟨_, rfl, (by intro q; cases q), h⟩
end
end Mine
end
section
open PySem PySem.W PyProof.Rows
namespace Mine
/-- under the answers c: asks below n alone, ends in P -/
def Ok {α : Type} (c : Nat → Nat → Bool) (n : Nat) (P : α → Prop) : KasT α → Prop
  | .ret a => P a
  | .ask i j k => i < n ∧ j < n ∧ i ≠ j ∧ Ok c n P (k (c i j))
section
variable {c : Nat → Nat → Bool} {n : Nat}
theorem Ok.bind {α β : Type} {P : α → Prop} {R : β → Prop} {f : α → KasT β} : ∀ {t : KasT α}, Ok c n P t → (∀ a, P a → Ok c n R (f a)) → Ok c n R (t.bind f)
  | .ret a, h, hf => hf a h
  | .ask i j k, h, hf => ⟨h.1, h.2.1, h.2.2.1, Ok.bind h.2.2.2 hf⟩
theorem Ok.wp {α : Type} {P : α → Prop} {Q : α → Shared → Prop} {cmp : Nat → Nat → (Bool → Shared → Prop) → Shared → Prop} {s : Shared} (hc : ∀ i j (C : Bool → Shared → Prop), i < n → j < n → i ≠ j → C (c i j) s → cmp i j C s) (hq : ∀ a, P a → Q a s) :
    ∀ {t : KasT α}, Ok c n P t → t.kasWp cmp Q s
  | .ret a, h => hq a h
  | .ask i j k, h => hc i j _ h.1 h.2.1 h.2.2.1 (Ok.wp hc hq h.2.2.2)
end

section
variable (f : Nat → Int) (n : Nat)
abbrev cf : Nat → Nat → Bool := fun i j => decide (f i < f j)
def Fp (p : Array Nat) (i : Nat) : Int := f (p.getD i 0)
def Asc (p : Array Nat) (m : Nat) : Prop := ∀ i j, i < j → j < m → Fp f p i < Fp f p j
def Dsc (p : Array Nat) (m : Nat) : Prop := ∀ i j, i < j → j < m → Fp f p j < Fp f p i
/-- p orders 0..n-1 -/
def Pm (p : Array Nat) : Prop := p.toList.Perm (List.range n)
variable {f n}
theorem Pm.size {p : Array Nat} (h : Pm n p) : p.size = n := by
  have := h.length_eq
  simpa using this
theorem Pm.lt {p : Array Nat} (h : Pm n p) (hn : 0 < n) (i : Nat) : p.getD i 0 < n := by
  by_cases q : i < p.size
  · have e : p.getD i 0 = p[i] := by simp [Array.getD, q]
    rw [e]
    have : p[i] ∈ p.toList := by simp
    exact List.mem_range.mp (h.mem_iff.mp this)
  · have e : p.getD i 0 = 0 := by simp [Array.getD, q]
    omega
theorem Pm.ne {p : Array Nat} (h : Pm n p) {i j : Nat} (hi : i < n) (hj : j < n) (hne : i ≠ j) : p.getD i 0 ≠ p.getD j 0 := by
  have hs := h.size
  have nd : p.toList.Nodup := h.nodup_iff.mpr List.nodup_range
  have ei : p.getD i 0 = p.toList[i]'(by simp; omega) := by simp [Array.getD, hs, hi]
  have ej : p.getD j 0 = p.toList[j]'(by simp; omega) := by simp [Array.getD, hs, hj]
  rw [ei, ej]
  intro e
  exact hne ((List.getElem_inj nd).mp e)
theorem Fp_congr {p q : Array Nat} {i j : Nat} (h : p[i]? = q[j]?) : Fp f p i = Fp f q j := by
  unfold Fp
  rw [Array.getD_eq_getD_getElem?, Array.getD_eq_getD_getElem?, h]

variable (inj : ∀ i j, i < n → j < n → i ≠ j → f i ≠ f j)
include inj
theorem Fp_ne {p : Array Nat} (h : Pm n p) {i j : Nat} (hi : i < n) (hj : j < n) (hne : i ≠ j) : Fp f p i ≠ Fp f p j :=
  inj _ _ (h.lt (by omega) _) (h.lt (by omega) _) (h.ne hi hj hne)

theorem asc_ok {p : Array Nat} (h : Pm n p) : ∀ (fu m : Nat), 1 ≤ m → m + fu ≤ n → Asc f p m → Ok (cf f) n (fun m' => m ≤ m' ∧ m' ≤ m + fu ∧ Asc f p m' ∧ (m' < m + fu → Fp f p m' < Fp f p (m' - 1))) (kas_asc p fu m)
  | 0, m, h1, h2, a => ⟨Nat.le_refl _, Nat.le_refl _, a, fun h => by omega⟩
  | fu + 1, m, h1, h2, a => by
    refine ⟨h.lt (by omega) _, h.lt (by omega) _, h.ne (by omega) (by omega) (by omega), ?_⟩
    by_cases q : Fp f p m < Fp f p (m - 1)
    · have e : cf f (p.getD m 0) (p.getD (m - 1) 0) = true := decide_eq_true q
      rw [e]; (show Ok _ _ _ (ite _ _ _)); rw [if_pos rfl]
      exact ⟨Nat.le_refl _, by omega, a, fun _ => q⟩
    · have e : cf f (p.getD m 0) (p.getD (m - 1) 0) = false := decide_eq_false q
      rw [e]; (show Ok _ _ _ (ite _ _ _)); rw [if_neg Bool.false_ne_true]
      have hne := Fp_ne inj h (i := m) (j := m - 1) (by omega) (by omega) (by omega)
      have ih := asc_ok h fu (m + 1) (by omega) (by omega) (fun i j hij hj => by
        by_cases e : j = m
        · subst e
          by_cases e2 : i = j - 1
          · subst e2; omega
          · have := a i (j - 1) (by omega) (by omega)
            omega
        · exact a i j hij (by omega))
      have mono : ∀ {t : KasT Nat}, Ok (cf f) n (fun m' => m + 1 ≤ m' ∧ m' ≤ m + 1 + fu ∧ Asc f p m' ∧ (m' < m + 1 + fu → Fp f p m' < Fp f p (m' - 1))) t → Ok (cf f) n (fun m' => m ≤ m' ∧ m' ≤ m + (fu + 1) ∧ Asc f p m' ∧ (m' < m + (fu + 1) → Fp f p m' < Fp f p (m' - 1))) t := by
        intro t
        induction t with
        | ret a => exact fun h => ⟨by have := h.1; omega, by have := h.2.1; omega, h.2.2.1, fun q => h.2.2.2 (by omega)⟩
        | ask i j k ih => exact fun h => ⟨h.1, h.2.1, h.2.2.1, ih _ h.2.2.2⟩
      exact mono ih

theorem desc_ok {p : Array Nat} (h : Pm n p) : ∀ (fu m : Nat), 2 ≤ m → m + fu ≤ n → Dsc f p m → Ok (cf f) n (fun r => r.1 = p ∧ r.2.2 = 0 ∧ 2 ≤ r.2.1 ∧ r.2.1 ≤ n ∧ Dsc f p r.2.1) (kas_desc fu p m 0)
  | 0, m, h1, h2, a => ⟨rfl, rfl, h1, by show m ≤ n; omega, a⟩
  | fu + 1, m, h1, h2, a => by
    refine ⟨h.lt (by omega) _, h.lt (by omega) _, h.ne (by omega) (by omega) (by omega), ?_⟩
    by_cases q : Fp f p m < Fp f p (m - 1)
    · have e : cf f (p.getD m 0) (p.getD (m - 1) 0) = true := decide_eq_true q
      rw [e]; (show Ok _ _ _ (ite _ _ _)); rw [if_pos rfl, if_neg (Nat.lt_irrefl 0)]
      exact desc_ok h fu (m + 1) (by omega) (by omega) (fun i j hij hj => by
        by_cases e : j = m
        · subst e
          by_cases e2 : i = j - 1
          · subst e2; omega
          · have := a i (j - 1) (by omega) (by omega)
            omega
        · exact a i j hij (by omega))
    · have e : cf f (p.getD m 0) (p.getD (m - 1) 0) = false := decide_eq_false q
      rw [e]; (show Ok _ _ _ (ite _ _ _)); rw [if_neg Bool.false_ne_true]
      refine ⟨h.lt (by omega) _, h.lt (by omega) _, h.ne (by omega) (by omega) (by omega), ?_⟩
      have hne := Fp_ne inj h (i := m) (j := m - 1) (by omega) (by omega) (by omega)
      have q2 : Fp f p (m - 1) < Fp f p m := by omega
      have e2 : cf f (p.getD (m - 1) 0) (p.getD m 0) = true := decide_eq_true q2
      rw [e2]; (show Ok _ _ _ (ite _ _ _)); rw [if_pos rfl]
      exact ⟨rfl, rfl, h1, by show m ≤ n; omega, a⟩

theorem rev_ok {p : Array Nat} (h : Pm n p) {m : Nat} (hm : m ≤ n) (a : Dsc f p m) : Pm n (kas_rev p 0 m) ∧ Asc f (kas_rev p 0 m) m := by
  have hs := h.size
  refine ⟨(Array.perm_iff_toList_perm.mp (mirror_perm _ _ _ _)).trans h, fun i j hij hj => ?_⟩
  have e : ∀ i, i < m → Fp f (kas_rev p 0 m) i = Fp f p (m - 1 - i) := fun i hi => Fp_congr (by
    show (mirror p 0 m ((m - 0) / 2))[i]? = _
    rw [getElem?_mirror_all (by omega), if_pos (by omega)]
    congr 1
    omega)
  rw [e i (by omega), e j hj]
  exact a _ _ (by omega) (by omega)

theorem tail3_ok {p : Array Nat} (h : Pm n p) {m : Nat} (h1 : 1 ≤ m) (hm : m ≤ n) (a : Dsc f p m) : Ok (cf f) n (fun r => 1 ≤ r.1 ∧ r.1 ≤ n ∧ Pm n r.2 ∧ Asc f r.2 r.1) (kas_tail3 m n p) := by
  have r := rev_ok inj h hm a
  refine (asc_ok inj r.1 (n - m) m h1 (by omega) r.2).bind fun m' hm' => ?_
  exact ⟨by show 1 ≤ m'; omega, by show m' ≤ n; omega, r.1, hm'.2.2.1⟩

theorem count_ok {p : Array Nat} (h : Pm n p) (hn : 2 ≤ n) : Ok (cf f) n (fun r => 1 ≤ r.1 ∧ r.1 ≤ n ∧ Pm n r.2 ∧ Asc f r.2 r.1) (kas_count n p) := by
  refine (asc_ok inj h (n - 1) 1 (Nat.le_refl _) (by omega) (fun i j hij hj => by omega)).bind fun m hm => ?_
  by_cases e : (m == n) = true
  · rw [if_pos e]
    exact ⟨hm.1, by have := hm.2.1; show m ≤ n; omega, h, hm.2.2.1⟩
  · rw [if_neg e]
    have e' : m ≠ n := by simpa using e
    by_cases g : m > 1
    · rw [if_pos g]
      refine ⟨h.lt (by omega) _, h.lt (by omega) _, h.ne (by omega) (by omega) (by omega), ?_⟩
      have q : Fp f p 0 < Fp f p (m - 1) := hm.2.2.1 0 (m - 1) (by omega) (by omega)
      have e : cf f (p.getD 0 0) (p.getD (m - 1) 0) = true := decide_eq_true q
      rw [e]; (show Ok _ _ _ (ite _ _ _)); rw [if_pos rfl]
      exact ⟨hm.1, by have := hm.2.1; show m ≤ n; omega, h, hm.2.2.1⟩
    · rw [if_neg g]
      have hm1 : m = 1 := by omega
      subst hm1
      have q := hm.2.2.2 (by omega)
      refine (desc_ok inj h (n - (1 + 1)) (1 + 1) (by omega) (by omega) (fun i j hij hj => ?_)).bind fun r hr => ?_
      · have : i = 0 ∧ j = 1 := by omega
        obtain ⟨rfl, rfl⟩ := this
        exact q
      · obtain ⟨r1, r2, r3⟩ := r
        obtain ⟨e1, e2, e3, e4, e5⟩ := hr
        dsimp only at *
        subst e1 e2
        rw [if_neg (Nat.lt_irrefl 0)]
        exact tail3_ok inj h (by omega) e4 e5

theorem place_ok {p : Array Nat} (h : Pm n p) {k : Nat} (hk : k < n) (a : Asc f p k) : ∀ (fu l r : Nat), l ≤ r → r ≤ k → r - l ≤ fu → (∀ i, i < l → Fp f p i < Fp f p k) → (∀ i, r ≤ i → i < k → Fp f p k < Fp f p i) →
    Ok (cf f) n (fun l' => l' ≤ k ∧ (∀ i, i < l' → Fp f p i < Fp f p k) ∧ ∀ i, l' ≤ i → i < k → Fp f p k < Fp f p i) (kas_place p k fu l r)
  | 0, l, r, h1, h2, h3, c1, c2 => ⟨by show l ≤ k; omega, c1, fun i q1 q2 => c2 i (by omega) q2⟩
  | fu + 1, l, r, h1, h2, h3, c1, c2 => by
    unfold kas_place
    by_cases q : l ≥ r
    · rw [if_pos q]
      exact ⟨by show l ≤ k; omega, c1, fun i q1 q2 => c2 i (by omega) q2⟩
    · rw [if_neg q]
      refine ⟨h.lt (by omega) _, h.lt (by omega) _, h.ne (by omega) (by omega) (by omega), ?_⟩
      by_cases g : Fp f p k < Fp f p ((l + r) / 2)
      · have e : cf f (p.getD k 0) (p.getD ((l + r) / 2) 0) = true := decide_eq_true g
        rw [e]; (show Ok _ _ _ (ite _ _ _)); rw [if_pos rfl]
        refine place_ok h hk a fu l ((l + r) / 2) (by omega) (by omega) (by omega) c1 (fun i q1 q2 => ?_)
        by_cases e2 : i = (l + r) / 2
        · rw [e2]; exact g
        · have := a ((l + r) / 2) i (by omega) q2
          omega
      · have e : cf f (p.getD k 0) (p.getD ((l + r) / 2) 0) = false := decide_eq_false g
        rw [e]; (show Ok _ _ _ (ite _ _ _)); rw [if_neg Bool.false_ne_true]
        have hne := Fp_ne inj h (i := k) (j := (l + r) / 2) hk (by omega) (by omega)
        refine place_ok h hk a fu ((l + r) / 2 + 1) r (by omega) (by omega) (by omega) (fun i q1 => ?_) c2
        by_cases e2 : i = (l + r) / 2
        · rw [e2]; omega
        · have := a i ((l + r) / 2) (by omega) (by omega)
          omega

theorem bin_ok : ∀ (fu k : Nat) (p : Array Nat), Pm n p → k + fu = n → Asc f p k → Ok (cf f) n (fun p' => Pm n p' ∧ Asc f p' n) (kas_bin fu p k)
  | 0, k, p, h, e, a => ⟨h, by rw [← e]; exact a⟩
  | fu + 1, k, p, h, e, a => by
    have hs := h.size
    refine (place_ok inj h (k := k) (by omega) a k 0 k (Nat.zero_le _) (Nat.le_refl _) (by omega) (fun i q => by omega) (fun i q1 q2 => by omega)).bind fun l hl => ?_
    obtain ⟨hlk, l1, l2⟩ := hl
    have eb : ∀ i, Fp f (bubble p k (k - l)) i = if i = l then Fp f p k else if l < i ∧ i ≤ k then Fp f p (i - 1) else Fp f p i := fun i => by
      have g := getElem?_bubble (xs := p) (src := k) (by omega) (k - l) (by omega) i
      rw [show k - (k - l) = l by omega] at g
      by_cases q : i = l
      · rw [if_pos q]; rw [if_pos q] at g; exact Fp_congr g
      · rw [if_neg q]; rw [if_neg q] at g
        by_cases q2 : l < i ∧ i ≤ k
        · rw [if_pos q2]; rw [if_pos q2] at g; exact Fp_congr g
        · rw [if_neg q2]; rw [if_neg q2] at g; exact Fp_congr g
    refine bin_ok fu (k + 1) _ ((Array.perm_iff_toList_perm.mp (bubble_perm _ _ _)).trans h) (by omega) (fun i j hij hj => ?_)
    rw [eb i, eb j]
    by_cases q1 : j = l
    · rw [if_pos q1, if_neg (by omega), if_neg (by omega)]
      exact l1 i (by omega)
    · rw [if_neg q1]
      by_cases q2 : i = l
      · rw [if_pos q2, if_pos (by omega)]
        exact l2 (j - 1) (by omega) (by omega)
      · rw [if_neg q2]
        by_cases q3 : l < j ∧ j ≤ k
        · rw [if_pos q3]
          by_cases q4 : l < i ∧ i ≤ k
          · rw [if_pos q4]
            exact a _ _ (by omega) (by omega)
          · rw [if_neg q4]
            exact a _ _ (by omega) (by omega)
        · rw [if_neg q3, if_neg (by omega)]
          exact a _ _ (by omega) (by omega)

theorem sort_ok (hn : 2 ≤ n) : Ok (cf f) n (fun p => Pm n p ∧ Asc f p n) (kas_sort n) := by
  have h0 : Pm n (List.toArray (List.range n)) := by
    show (List.toArray (List.range n)).toList.Perm _
    simp
  refine (count_ok inj h0 hn).bind fun r hr => ?_
  obtain ⟨m, p⟩ := r
  obtain ⟨h1, h2, h3, h4⟩ := hr
  dsimp only at *
  by_cases q : m < n
  · rw [if_pos q, Nat.max_eq_left h1]
    exact bin_ok inj (n - m) m p h3 (by omega) h4
  · rw [if_neg q]
    have : m = n := by omega
    subst this
    exact ⟨h3, h4⟩
end

/-- of a sorted order of the places: the list in that order -/
theorem sorted_list {α : Type} {kf : α → Int} {vs : List α} {d : α} {p : Array Nat} (h : Pm vs.length p) (a : Asc (fun i => kf (vs.getD i d)) p vs.length) :
    (p.toList.map fun i => vs.getD i d).Perm vs ∧ (p.toList.map fun i => vs.getD i d).Pairwise (fun x y => kf x < kf y) := by
  constructor
  · have e : (List.range vs.length).map (fun i => vs.getD i d) = vs := by
      apply List.ext_getElem
      · simp
      · intro i h1 h2
        simp [List.getElem?_eq_getElem h2]
    have := h.map (fun i => vs.getD i d)
    rw [e] at this
    exact this
  · rw [List.pairwise_iff_getElem]
    intro i j hi hj hij
    have hs := h.size
    have hj' : j < vs.length := by simpa [hs] using hj
    have := a i j hij hj'
    unfold Fp at this
    simpa [Array.getD, hs, hj', Nat.lt_trans hij hj'] using this
end Mine
end
section
open PySem PySem.W PyProof.Rows PySem.Calls
namespace Mine
noncomputable abbrev MM (w : World) : Model := model PySem.Challenge.rw_mg0060_01.row.prog w

/-- the frame's locals that are told, and the made objects -/
structure At (g : Heap) (L : Addr) (h : Heap) (l : List (Str × Value)) (news : List (Addr × Obj)) : Prop where
  fr : ∃ m, Fr g L h m ∧ ∀ p ∈ l, m p.1 = some p.2
  nw : News g L h news

def put (l : List (Str × Value)) (x : Str) (v : Value) : List (Str × Value) := (x, v) :: l.filter fun p => !(p.1 == x)

theorem mem_of_lookup {x : Str} {v : Value} : ∀ {l : List (Str × Value)}, l.lookup x = some v → (x, v) ∈ l
  | [], h => by cases h
  | (y, u) :: r, h => by
    rw [List.lookup_cons] at h
    by_cases e : x == y
    · rw [e] at h
      have := beq_iff_eq.mp e
      subst this
      cases h
      exact .head _
    · simp only [e] at h
      exact .tail _ (mem_of_lookup h)

theorem At.set {g : Heap} {L : Addr} {h' : Heap} {l : List (Str × Value)} {news : List (Addr × Obj)} {m : Str → Option Value} {x : Str} {v : Value}
    (hm : ∀ p ∈ l, m p.1 = some p.2) (F : Fr g L h' fun y => if y = x then some v else m y) (N : News g L h' news) : At g L h' (put l x v) news := by
  refine ⟨⟨_, F, ?_⟩, N⟩
  intro p hp
  rcases List.mem_cons.mp hp with rfl | hp
  · exact if_pos rfl
  · obtain ⟨hp, hne⟩ := List.mem_filter.mp hp
    have : p.1 ≠ x := by
      intro q
      simp [q] at hne
    show (if p.1 = x then some v else m p.1) = _
    rw [if_neg this]
    exact hm p hp

theorem At.sub {g : Heap} {L : Addr} {h : Heap} {l l' : List (Str × Value)} {news news' : List (Addr × Obj)} (a : At g L h l news) (h1 : ∀ p ∈ l', p ∈ l) (h2 : ∀ p ∈ news', p ∈ news) : At g L h l' news' :=
  let ⟨m, F, hm⟩ := a.fr
  ⟨⟨m, F, fun p hp => hm p (h1 p hp)⟩, fun p hp => a.nw p (h2 p hp)⟩
def sel (l : List (Str × Value)) : List Str → List (Str × Value)
  | [] => []
  | x :: r => match l.lookup x with
    | some v => (x, v) :: sel l r
    | none => sel l r
theorem sel_mem {l : List (Str × Value)} : ∀ {ns : List Str}, ∀ p ∈ sel l ns, p ∈ l
  | [], _, h => nomatch h
  | x :: r, p, h => by
    unfold sel at h
    cases e : l.lookup x with
    | none => rw [e] at h; exact sel_mem p h
    | some v =>
      rw [e] at h
      rcases List.mem_cons.mp h with rfl | h
      · exact mem_of_lookup e
      · exact sel_mem p h
theorem At.sel {g : Heap} {L : Addr} {h : Heap} {l : List (Str × Value)} {news : List (Addr × Obj)} (a : At g L h l news) (ns : List Str) : At g L h (Mine.sel l ns) news := a.sub sel_mem (fun _ h => h)
theorem At.new {g : Heap} {L : Addr} {h : Heap} {l : List (Str × Value)} {news news' : List (Addr × Obj)} (a : At g L h l news) (h2 : ∀ p ∈ news', p ∈ news) : At g L h l news' := a.sub (fun _ h => h) h2
theorem At.get {g : Heap} {L : Addr} {h : Heap} {l : List (Str × Value)} {news : List (Addr × Obj)} (a : At g L h l news) {d : Addr} {o : Obj} (hm : (d, o) ∈ news) : h.get? d = some o := (a.nw _ hm).1

section
variable {w : World} {A : Around} {E : Value → Shared → Prop} {s : Shared} {g : Heap} {L a : Addr} {l : List (Str × Value)} {news : List (Addr × Obj)} {cn : Str} {cs : Scope} {ccd : Value} {cl : List (Str × Addr)} {x : Str} {v : Value} {pos : Pos}

theorem ldA {Q : Value → Shared → Prop} (H : At g L s.heap l news) (hv : l.lookup x = some v) (h : Q v s) (hk : cs.kind = .function := by rfl) (hx : (envX cn cs L a ccd cl).kindOf x = some .local := by rfl) (hd : (x == ("__debug__" : Str)) = false := by decide) :
    wpAny (MM w) A (eval (.Name x pos) (envX cn cs L a ccd cl)) Q E s :=
  let ⟨_, F, hm⟩ := H.fr
  nameX_L F (hm _ (mem_of_lookup hv)) h hk hx hd

theorem stA {Q : Unit → Shared → Prop} (H : At g L s.heap l news) (h : ∀ h', At g L h' (put l x v) news → Q () { s with heap := h', toks := s.toks + 1 }) (hk : cs.kind = .function := by rfl) (hx : (envX cn cs L a ccd cl).kindOf x = some .local := by rfl) :
    wpAny (MM w) A (storeName (envX cn cs L a ccd cl) x v) Q E s :=
  let ⟨_, F, hm⟩ := H.fr
  storeX_L F H.nw (fun h' F' N' => h h' (At.set hm F' N')) hk hx

/-- an item of a made list -/
theorem itemA {value slice : PySem.Expr} {d : Addr} {vs : List Value} {n : Nat} {k : Int} {u : Tok} {Q : Value → Shared → Prop} (H : At g L s.heap l news) (hm : (d, listOf vs.toArray n) ∈ news) (h0 : 0 ≤ k) (hfit : k < 2 ^ 63) (hx : vs[k.toNat]? = some v) (h : Q v s)
    (hs : subscripted slice false (.ref d) (.int k u) = operate [.ref d, .int k u] (getItem (.ref d) (.int k u)) := by with_unfolding_all rfl) :
    wpAny (MM w) A (subscriptTail value slice (.ref d) (.int k u)) Q E s :=
  item_litK (PySem.IsL.isList (n := n) (H.get hm)) h0 hfit hx h hs

/-- a store into the ledger's first list -/
theorem setA {d : Addr} {vs : List Value} {n : Nat} {k : Int} {u : Tok} {Q : Unit → Shared → Prop} (H : At g L s.heap l ((d, listOf vs.toArray n) :: news)) (hd : ∀ p ∈ news, p.1 ≠ d) (h0 : 0 ≤ k) (hfit : k < 2 ^ 63) (hn : k < vs.length)
    (h : ∀ h', At g L h' l ((d, listOf (vs.set k.toNat v).toArray n) :: news) → Q () { s with heap := h' }) :
    wpAny (MM w) A (setItem (.ref d) (.int k u) v) Q E s := by
  obtain ⟨m, F, hm⟩ := H.fr
  have z := H.nw (d, listOf vs.toArray n) (.head _)
  refine ki_setAt z.1 h0 hfit (by simpa using hn) (h _ ⟨⟨m, F.change (Heap.SameBut.update ..) z.2.1 z.2.2, hm⟩, ki_turn (pre := []) _ H.nw (fun _ q => nomatch q) hd ?_ ?_⟩)
  · apply Array.toList_inj.mp
    simp
  · simp
end

def nodupB : List Str → Bool
  | [] => true
  | x :: r => !(r.contains x) && nodupB r
theorem nodup_of_B : ∀ {l : List Str}, nodupB l = true → l.Nodup
  | [], _ => .nil
  | x :: r, h => by
    simp only [nodupB, Bool.and_eq_true, Bool.not_eq_true', List.contains_eq_mem, decide_eq_false_iff_not] at h
    exact List.nodup_cons.mpr ⟨h.1, nodup_of_B h.2⟩

/-- the ground below all frames -/
structure BaseOk (w : World) (base : Heap) : Prop where
  kin : (Mine.hd0.heap_1 w.params).In base
  top : ∃ p lo mean mg mb, Top p lo mean mg mb base
  cod : CodeHd base 98 94 ∧ CodeHd base 105 101
/-- the frames that stand -/
def CxE (w : World) (A : Around) (L : Addr) (g : Heap) (env : Env) (fs : List Addr) : Prop :=
  ∃ outer A₀ base, A.frames = some (env :: outer) ∧ env.frame = some L ∧ env.scope.kind = .function ∧ Below A₀ base outer g ∧ BaseOk w base ∧ outer.filterMap (·.frame) = fs
/-- where the frame stands: what the calls need -/
structure Cx (w : World) (A : Around) (L : Addr) (g : Heap) (d u : Nat) : Prop where
  fr : ∃ env fs, CxE w A L g env fs
  kin : (Mine.hd0.heap_1 w.params).In g
  top : ∃ p lo mean mg mb, Top p lo mean mg mb g
  cod : CodeHd g 98 94 ∧ CodeHd g 105 101
  depth : A.depth ≤ d
  units : A.units ≤ u
  handled : A.handled = none
theorem Cx.of {w : World} {A : Around} {L : Addr} {g : Heap} {env : Env} {fs : List Addr} {d u : Nat} (X : CxE w A L g env fs) (hd : A.depth ≤ d) (hu : A.units ≤ u) (hh : A.handled = none) : Cx w A L g d u := by
  have X' := X
  obtain ⟨outer, A₀, base, _, _, _, B, BO, _⟩ := X'
  obtain ⟨p, lo, mean, mg, mb, T⟩ := BO.top
  exact ⟨⟨env, fs, X⟩, BO.kin.keeps B.stays, ⟨p, lo, mean, mg, mb, T.keeps B.stays⟩, ⟨BO.cod.1.keeps B.stays, BO.cod.2.keeps B.stays⟩, hd, hu, hh⟩

theorem Cx.in1 {w : World} {A : Around} {L : Addr} {g : Heap} {d u : Nat} (C : Cx w A L g d u) : Cx w A.in1 L g d (u + 1) :=
  ⟨C.fr, C.kin, C.top, C.cod, C.depth, Nat.succ_le_succ C.units, C.handled⟩

section
variable {w : World} {A : Around} {E : Value → Shared → Prop} {s : Shared} {g : Heap} {L a : Addr} {l : List (Str × Value)} {news : List (Addr × Obj)} {cn : Str} {cs : Scope} {ccd : Value} {cl : List (Str × Addr)} {x : Str} {v : Value} {pos : Pos} {d u : Nat}

theorem ldK {Q : Value → Shared → Prop} (C : Cx w A L g d u) (H : At g L s.heap l news) (e : nsIn (Mine.hd0.heap_1 w.params) mainGlobals x = some (some v)) (h : Q v s)
    (hk : cs.kind = .function := by rfl) (hx : (envX cn cs L a ccd cl).kindOf x = some .globalImplicit := by rfl) (hd : (x == ("__debug__" : Str)) = false := by decide) :
    wpAny (MM w) A (eval (.Name x pos) (envX cn cs L a ccd cl)) Q E s :=
  let ⟨_, F, _⟩ := H.fr
  let ⟨_, _, _, _, _, T⟩ := C.top
  nameX_K F C.kin (topRead_of T) e h hk hx hd
theorem ldB {Q : Value → Shared → Prop} (C : Cx w A L g d u) (H : At g L s.heap l news) (e : nsIn (Mine.hd0.heap_1 w.params) mainGlobals x = some none) (hv : bootBuiltins x = some v) (hn : x ≠ "__name__") (h : Q v s)
    (hk : cs.kind = .function := by rfl) (hx : (envX cn cs L a ccd cl).kindOf x = some .globalImplicit := by rfl) (hd : (x == ("__debug__" : Str)) = false := by decide) :
    wpAny (MM w) A (eval (.Name x pos) (envX cn cs L a ccd cl)) Q E s :=
  let ⟨_, F, _⟩ := H.fr
  let ⟨_, _, _, _, _, T⟩ := C.top
  nameX_B F C.kin (topRead_of T) e hv hn h hk hx hd

/-- a plain def is called: its frame, its body; what it leaves is told of the caller's frame -/
theorem callA {name qual : Str} {params : Arguments} {body : List Stmt} {scope : Scope} {dV kV doc pm cdv ct oc : Value} {an od : Option Addr} {osl : Array (Option Value)} {f : Addr} {args : List Value} {binds : List (Str × Value)} {Q : Value → Shared → Prop}
    (C : Cx w A L g d u) (H : At g L s.heap l news)
    (ho : (Mine.hd0.heap_1 w.params).lookup f = some ⟨oc, od, .func (fnOf name qual params body scope dV kV doc pm an cdv ct), osl⟩) (hcd : codeIn (Mine.hd0.heap_1 w.params) cdv qual = true) (hroom : d < recursionLimit)
    (hbind : BindsTo s (fnOf name qual params body scope dV kV doc pm an cdv ct) ⟨args, []⟩ binds) (hloc : ∀ y ∈ binds, scope.names.lookup y.1 = some .local)
    (h : ∀ g' L' h₁ tk, Cx w (A.deeper (envOf qual scope L' f cdv)) L' g' (d + 1) (u + 3) → At g' L' h₁ binds.reverse news → (∀ p ∈ news, p.1 < L') →
      wpAny (MM w) (A.deeper (envOf qual scope L' f cdv)) (execs body (envOf qual scope L' f cdv))
        (fun fl s' => ∃ l' news', At g' L' s'.heap l' news' ∧ (At g L s'.heap l news' → Q (match fl with | .ret v => v | _ => .none) s')) (fun _ _ => False) { s with heap := h₁, toks := tk })
    (hnd : nodupB (binds.reverse.map (·.1)) = true) (hco : scope.isCoroutine = false) (hgen : scope.isGenerator = false) (hk : scope.kind = .function) (hcell : ∀ x ∈ scope.names, x.2 ≠ .cell) :
    wpAny (MM w) A (call (.ref f) args) Q E s := by
  obtain ⟨m, F, hm⟩ := H.fr
  obtain ⟨p, lo, mean, mg, mb, T⟩ := C.top
  obtain ⟨env, fs, outer, A₀, base, hA, hf, hke, B, BO, hfs⟩ := C.fr
  refine wpAny_call ?_
  refine callX_plain (cl := []) B F H.nw T.nolimit hA hf hke ((C.kin.keeps F.keep) _ _ ho) rfl (codeRec_of (C.kin.keeps F.keep) hcd) (Nat.lt_of_le_of_lt C.depth hroom) hbind hloc (fun g' L' h₁ FG F' N' B' st lt => ?_) hcell hco hgen hk
  refine wpAny_mono (h g' L' h₁ _ (Cx.of ⟨_, _, _, (by show (A.frames.map _) = _; rw [hA]; rfl), rfl, hk, B', BO, rfl⟩ ?_ ?_ C.handled) ⟨⟨_, F', ?_⟩, N'⟩ lt) (fun fl s' q => ?_) (fun _ _ q => q.elim)
  · exact Nat.succ_le_succ C.depth
  · exact Nat.add_le_add_right C.units 3
  · intro p hp
    revert hp
    have nd := nodup_of_B hnd
    revert nd
    generalize binds.reverse = bs
    intro nd hp
    induction bs with
    | nil => cases hp
    | cons q r ih =>
      obtain ⟨qx, qv⟩ := q
      show List.lookup p.1 ((qx, qv) :: r) = _
      rw [List.lookup_cons]
      rcases List.mem_cons.mp hp with rfl | hp
      · simp
      · have hne : (p.1 == qx) = false := by
          rw [List.map_cons, List.nodup_cons] at nd
          apply beq_eq_false_iff_ne.mpr
          intro e
          exact nd.1 (List.mem_map.mpr ⟨p, hp, e⟩)
        rw [hne]
        rw [List.map_cons, List.nodup_cons] at nd
        exact ih nd.2 hp
  · obtain ⟨l', news', H', k⟩ := q
    obtain ⟨m', F'', _⟩ := H'.fr
    exact ⟨L', m', news', F'', H'.nw, fun Fc Nc => k ⟨⟨m, Fc, hm⟩, Nc⟩⟩

/-- a while by what holds of it: I k, k falls -/
theorem whileA {test : PySem.Expr} {body : List Stmt} {env : Env} {Q : Flow → Shared → Prop} {F : Value → Shared → Prop} {pos : Pos} (I : Nat → Shared → Prop)
    (h : ∀ n s, I n s → wpAny (MM w) A (isTrue test env (eval test env)) (fun b s₂ => WhlIf b (wpAny (MM w) A (execs body env)
      (fun f s₃ => match f with | .next | .cont => ∃ k, k < n ∧ I k s₃ | .brk => Q .next s₃ | .ret v => Q (.ret v) s₃) (fun _ _ => False) s₂) (Q .next s₂)) (fun _ _ => False) s)
    {n : Nat} (hI : I n s) : wpAny (MM w) A (exec (.While test body [] pos) env) Q F s := by
  refine wpAny_mono (E := fun _ _ => False) (whl_start 0 ?_) (fun _ _ x => x) (fun _ _ x => x.elim)
  have all : ∀ n s, I n s → WhlRest PySem.Challenge.rw_mg0060_01.row.prog w A (fun _ _ => False) env test body [] Q 0 s := by
    intro n
    induction n using Nat.strongRecOn with
    | ind n ih =>
      intro s hs
      show WhlRest _ _ _ _ _ _ _ _ _ (0 + 1) s
      refine whl_turn PassesOwn.never (wpAny_mono (h n s hs) (fun b s₂ q => ?_) fun _ _ x => x)
      cases b with
      | true =>
        refine WhlIf.yes rfl (wpAny_mono (show wpAny _ _ _ _ _ s₂ from q) (fun f s₃ r => ?_) fun _ _ x => x)
        cases f with
        | next => obtain ⟨k, hk, hi⟩ := r; exact ih k hk _ hi
        | cont => obtain ⟨k, hk, hi⟩ := r; exact ih k hk _ hi
        | brk => exact r
        | ret v => exact r
      | false => exact WhlIf.no rfl (wpAny_execs_nil (by simpa [WhlIf] using q))
  exact all n s hI
end
end Mine
end
section
open PySem PySem.W PyProof.Rows PySem.Calls
namespace Mine
section
variable {g : Heap} {L : Addr} {h h' : Heap} {l : List (Str × Value)} {news : List (Addr × Obj)} {d : Addr} {o o' : Obj}

theorem At.push (a : At g L h l news) (o : Obj) (hf : o.isFreed = false := by rfl) : At g L (h.push o) l ((h.objs.size, o) :: news) :=
  let ⟨m, F, hm⟩ := a.fr
  ⟨⟨m, F.push o, hm⟩, News.push F a.nw o hf⟩
theorem At.lt (a : At g L h l news) : ∀ p ∈ news, p.1 < h.objs.size := fun p hp => Heap.lt_size (a.nw p hp).1
theorem At.same (a : At g L h l ((d, o) :: news)) (hd : ∀ p ∈ news, p.1 ≠ d) (hs : Heap.SameBut d h h') (ho : h'.get? d = some o') : At g L h' l ((d, o') :: news) := by
  obtain ⟨m, F, hm⟩ := a.fr
  have z := a.nw _ (.head _)
  refine ⟨⟨m, F.change hs z.2.1 z.2.2, hm⟩, fun p hp => ?_⟩
  rcases List.mem_cons.mp hp with rfl | hp
  · exact ⟨ho, z.2⟩
  · have y := a.nw p (.tail _ hp)
    exact ⟨(hs.2 p.1 (hd p hp)).trans y.1, y.2⟩
theorem At.ext (a : At g L h l ((d, o) :: news)) (hd : ∀ p ∈ news, p.1 ≠ d) (hs : Heap.ExtBut d h h') : At g L h' l news := by
  obtain ⟨m, F, hm⟩ := a.fr
  have z := a.nw _ (.head _)
  obtain ⟨oL, a1, a2, hoL, a3⟩ := F.ns
  refine ⟨⟨m, ⟨⟨oL, a1, a2, hs L oL (fun e => z.2.1 e.symm) hoL, a3⟩, fun b x e => hs b x ?_ (F.keep b x e), F.above⟩, hm⟩, fun p hp => ?_⟩
  · intro q
    have := z.2.2
    rw [← q, e] at this; cases this
  · have y := a.nw p (.tail _ hp)
    exact ⟨hs p.1 _ (hd p hp) y.1, y.2⟩
theorem At.keeps (a : At g L h l news) (hs : ∀ b o, h.get? b = some o → h'.get? b = some o) : At g L h' l news := by
  obtain ⟨m, F, hm⟩ := a.fr
  exact ⟨⟨m, F.kept hs, hm⟩, a.nw.grown hs⟩
end

section
variable {w : World} {A : Around} {E : Value → Shared → Prop} {s : Shared} {g : Heap} {L a : Addr} {l : List (Str × Value)} {news : List (Addr × Obj)} {cn : Str} {cs : Scope} {ccd : Value} {cl : List (Str × Addr)} {x : Str} {v : Value} {pos : Pos}

/-- a for by what holds of it: I k, k falls -/
theorem forA {target iter : PySem.Expr} {body : List Stmt} {env : Env} {Q : Flow → Shared → Prop} {F : Value → Shared → Prop} {pos : Pos}
    (h : wpAny (MM w) A (eval iter env) (fun x s₁ => wpAny (MM w) A (pyIter x) (fun it s₂ => ∃ (I : Nat → Shared → Prop) (n : Nat), I n s₂ ∧ ∀ n s, I n s → wpAny (MM w) A (pyNext it) (fun r s₁ => match r with
      | none => Q .next s₁
      | some v => wpAny (MM w) A (letOwnedTupleGo target it v) (fun _ s₁' =>
          wpAny (MM w) A (assign target env v) (fun _ s₂ => wpAny (MM w) A (execs body env) (fun f s₃ => match f with
            | .next | .cont => ∃ m, m < n ∧ I m s₃
            | .brk => Q .next s₃
            | .ret v => Q (.ret v) s₃) (fun _ _ => False) s₂) (fun _ _ => False) s₁') (fun _ _ => False) s₁) (fun _ _ => False) s) (fun _ _ => False) s₁) (fun _ _ => False) s)
    (hs : ∀ x, foldedSetIterable iter env x = pure x := by intro _; rfl) :
    wpAny (MM w) A (exec (.For target iter body [] pos) env) Q F s := by
  refine wpAny_mono (E := fun _ _ => False) (wpAny_For (wpAny_mono h (fun x s₁ h₁ => wpAny_mono h₁ (fun it s₂ h₂ => ?_) fun _ _ z => z) fun _ _ z => z) hs) (fun _ _ z => z) (fun _ _ z => z.elim)
  obtain ⟨I, n, h0, turn⟩ := h₂
  refine codeAny_forLoop_any I (fun n s hI => wpAny_mono (turn n s hI) (fun r s₁ hr => ?_) fun _ _ z => z.elim) n h0
  cases r with
  | none => exact wpAny_execs_nil hr
  | some v =>
    refine wpAny_mono hr (fun _ s₁' h₁ => wpAny_mono h₁ (fun _ s₂ h₂ => wpAny_mono h₂ (fun f s₃ h₃ => ?_) fun _ _ z => z.elim) fun _ _ z => z.elim) fun _ _ z => z.elim
    cases f <;> exact h₃

theorem goN {y : Str} {p : Pos} {it v : Value} {Q : Unit → Shared → Prop} (h : Q () s) : wpAny (MM w) A (letOwnedTupleGo (.Name y p) it v) Q E s := wpAny_pure h

abbrev riObj (x left step : Int) : Obj := { cls := .type "range_iterator", dict := none, data := .fields #[rawInt x, rawInt left, rawInt step], slots := #[] }
abbrev raObj (a b c : Int) (t u v : Tok) : Obj := { cls := .type "range", dict := none, data := .fields #[.int a t, .int b u, .int c v], slots := #[] }

theorem rev_range_new {r : Addr} {n : Int} {t u v : Tok} {Q₁ : Value → Shared → Prop} (hr : s.heap.get? r = some (raObj 0 n 1 t u v)) (h0 : 0 ≤ n) (h1 : n < 1000)
    (h : Q₁ (.ref s.heap.objs.size) { s with heap := s.heap.push (riObj (n - 1) n (-1)) }) :
    codeAny (MM w) A (.call (.builtin "reversed.__new__") ⟨[.type "reversed", .ref r], []⟩) (wants Q₁ E) s := by
  have hT : s.TypeIs (.ref r) "range" := ⟨_, hr, rfl⟩
  refine codeAny_of_tree ?_
  show wpAny _ A.in1 (do checkBuiltinCall "reversed.__new__" ⟨[.type "reversed", .ref r], []⟩; again (.builtin "reversed.__new__" ⟨[.type "reversed", .ref r], []⟩)) _ _ s
  refine wpAny_bind (wpAny_of_eq (F.newCall_reversed_1 _) (wpAny_pure ⟨plainId_quiet F.plain_reversed_new _, codeAny_builtin F.entry_reversed_new ?_⟩))
  rw [Around.under_plainId F.plain_reversed_new _]
  unfold Builtin.«reversed.__new__»
  refine wpAny_bind (wpAny_of_eq (newClass_reversed _) ?_)
  try dsimp only
  refine wpAny_bind (wpAny_of_eq (a := ()) (by first | rfl | kernel_rfl) ?_)
  refine wpAny_bind (wpAny_of_eq (a := ()) (by first | rfl | kernel_rfl) ?_)
  try dsimp only
  refine wpAny_bind (wpAny_specialOf hT F.slot_range_reversed.lookup ?_)
  try dsimp only
  refine wpAny_bind (wpAny_of_eq (F.slot_range_reversed.bind _) ?_)
  try dsimp only
  rw [if_neg (show ¬ ((Value.builtin "range.__reversed__" == Value.none) = true) from Bool.false_ne_true)]
  refine wpAny_bind (wpAny_rule ?_)
  refine wpAny_bind (m := runValue (.call (.builtin "range.__reversed__") ⟨[.ref r], []⟩)) (show wpAny _ _ (call (.builtin "range.__reversed__") [.ref r]) _ _ _ from ?_)
  refine wpAny_call_entry F.slot_range_reversed hT F.entry_range_reversed ?_ (F.args_range_reversed_1 _)
  have esz : Builtin.Range.rangeSize 0 n 1 = n := by
    rw [rangeSize_one]
    split <;> omega
  have fit : ∀ k : Int, -2000 ≤ k → k ≤ 2000 → Builtin.Range.rangeFitsLong k = true := fun k a b => by
    unfold Builtin.Range.rangeFitsLong
    simp
    omega
  unfold Builtin.«range.__reversed__»
  refine wpAny_bind (wpAny_of_eq (a := Value.ref r) rfl ?_)
  try dsimp only
  unfold Builtin.Range.rangeFields
  refine wpAny_bind (wpAny_bind (wpAny_field hr rfl (x := .int 0 t) rfl (wpAny_bind (wpAny_of_eq (a := some 0) rfl (wpAny_bind (wpAny_field hr rfl (x := .int n u) rfl (wpAny_bind (wpAny_of_eq (a := some n) rfl (wpAny_bind (wpAny_field hr rfl (x := .int 1 v) rfl (wpAny_bind (wpAny_of_eq (a := some 1) rfl ?_)))))))))))) 
  refine wpAny_pure ?_
  try dsimp only
  rw [esz, fit 0 (by omega) (by omega), fit n (by omega) (by omega), fit 1 (by omega) (by omega), fit (-1) (by omega) (by omega), fit (0 - 1) (by omega) (by omega)]
  simp only [Bool.and_self, Bool.not_true, Bool.false_eq_true, if_false, if_true]
  rw [show (0 + (n - 1) * 1 : Int) = n - 1 by omega]
  exact wpAny_bind (wpAny_newObj_type (wpAny_pure ⟨_, rfl, wpAny_pure h⟩))

theorem sub_ri_reversed : isSubtype (.type "range_iterator") (.type "reversed") = pure false := by rw [isSubtype_type]; kernel_rfl
theorem rev_range {r : Addr} {n : Int} {t u v : Tok} {Q : Value → Shared → Prop} (hr : s.heap.get? r = some (raObj 0 n 1 t u v)) (h0 : 0 ≤ n) (h1 : n < 1000)
    (h : Q (.ref s.heap.objs.size) { s with heap := s.heap.push (riObj (n - 1) n (-1)) }) : wpAny (MM w) A (call (.type "reversed") [.ref r]) Q E s := by
  refine callType_other (U := "range_iterator") (Q₁ := fun obj s₁ => obj = .ref s.heap.objs.size ∧ s₁ = { s with heap := s.heap.push (riObj (n - 1) n (-1)) }) (by decide +kernel) F.create_reversed ⟨_, _, F.mro_reversed⟩ F.made_reversed sub_ri_reversed (F.typeCall_reversed_1 _) (rev_range_new hr h0 h1 ⟨rfl, rfl⟩) ?_
  rintro obj s₁ ⟨rfl, rfl⟩
  exact ⟨⟨_, Heap.get?_push_size _ rfl, rfl⟩, h⟩

theorem rangeA {n : Int} {t : Tok} {Q : Value → Shared → Prop} (H : At g L s.heap l news) (h : ∀ r h' t u v tk, At g L h' l ((r, raObj 0 n 1 t u v) :: news) → (∀ p ∈ news, p.1 < r) → Q (.ref r) { s with heap := h', toks := tk }) :
    wpAny (MM w) A (call (.type "range") [.int n t]) Q E s := call_range_1 (h _ _ _ _ _ _ (H.push _) H.lt)
theorem revA {r : Addr} {n : Int} {t u v : Tok} {Q : Value → Shared → Prop} (H : At g L s.heap l news) (hm : (r, raObj 0 n 1 t u v) ∈ news) (h0 : 0 ≤ n) (h1 : n < 1000)
    (h : ∀ it h', At g L h' l ((it, riObj (n - 1) n (-1)) :: news) → (∀ p ∈ news, p.1 < it) → Q (.ref it) { s with heap := h' }) : wpAny (MM w) A (call (.type "reversed") [.ref r]) Q E s :=
  rev_range (H.get hm) h0 h1 (h _ _ (H.push _) H.lt)

/-- one turn of a range's iterator that the ledger holds first -/
theorem nextR {it : Addr} {x left step : Int} {Q : Option Value → Shared → Prop} (H : At g L s.heap l ((it, riObj x left step) :: news)) (hd : ∀ p ∈ news, p.1 ≠ it) (hl : 0 < left)
    (h : ∀ h', At g L h' l ((it, riObj (x + step) (left - 1) step) :: news) → Q (some (.int x s.toks)) { s with heap := h', toks := s.toks + 1 }) : wpAny (MM w) A (pyNext (.ref it)) Q E s :=
  wpAny_pyNext_range_item (H.get (.head _)) hl fun h' hi hs => h h' (H.same hd hs hi)
theorem nextRend {it : Addr} {x left step : Int} {Q : Option Value → Shared → Prop} (hh : A.handled = none) (H : At g L s.heap l ((it, riObj x left step) :: news)) (hd : ∀ p ∈ news, p.1 ≠ it) (hl : left ≤ 0)
    (h : ∀ h', At g L h' l news → Q none { s with heap := h' }) : wpAny (MM w) A (pyNext (.ref it)) Q E s :=
  wpAny_pyNext_range_end hh (H.get (.head _)) hl fun h' hs => h h' (H.ext hd hs)
end
end Mine
end
section
open PySem PySem.W PyProof.Rows PySem.Calls PyProof.Rows.LCg
namespace Mine
section
variable {g : Heap} {L : Addr} {h h' : Heap} {l : List (Str × Value)} {news : List (Addr × Obj)} {d : Addr} {o o' : Obj}

/-- one object of the ledger turns -/
theorem At.upd (pre : List (Addr × Obj)) {post : List (Addr × Obj)} (a : At g L h l (pre ++ (d, o) :: post)) (h1 : ∀ p ∈ pre, p.1 ≠ d) (h2 : ∀ p ∈ post, p.1 ≠ d) (hs : Heap.SameBut d h h') (ho : h'.get? d = some o') : At g L h' l (pre ++ (d, o') :: post) := by
  obtain ⟨m, F, hm⟩ := a.fr
  have z := a.nw (d, o) (List.mem_append_right _ (.head _))
  refine ⟨⟨m, F.change hs z.2.1 z.2.2, hm⟩, fun p hp => ?_⟩
  rcases List.mem_append.mp hp with hp | hp
  · have y := a.nw p (List.mem_append_left _ hp)
    exact ⟨(hs.2 p.1 (h1 p hp)).trans y.1, y.2⟩
  · rcases List.mem_cons.mp hp with rfl | hp
    · exact ⟨ho, z.2⟩
    · have y := a.nw p (List.mem_append_right _ (.tail _ hp))
      exact ⟨(hs.2 p.1 (h2 p hp)).trans y.1, y.2⟩
/-- the heap grows, but one object of the ledger turns -/
theorem At.extd (pre : List (Addr × Obj)) {post : List (Addr × Obj)} (a : At g L h l (pre ++ (d, o) :: post)) (h1 : ∀ p ∈ pre, p.1 ≠ d) (h2 : ∀ p ∈ post, p.1 ≠ d) (hs : Heap.ExtBut d h h') (ho : h'.get? d = some o') : At g L h' l (pre ++ (d, o') :: post) := by
  obtain ⟨m, F, hm⟩ := a.fr
  have z := a.nw (d, o) (List.mem_append_right _ (.head _))
  have hd0 := z.2.2
  refine ⟨⟨m, ⟨F.ns.at' fun o e => hs L o (fun q => z.2.1 q.symm) e, fun b x e => hs b x (fun q => ?_) (F.keep b x e), F.above⟩, hm⟩, fun p hp => ?_⟩
  · subst q
    change g.get? b = none at hd0
    rw [hd0] at e; cases e
  rcases List.mem_append.mp hp with hp | hp
  · have y := a.nw p (List.mem_append_left _ hp)
    exact ⟨hs _ _ (h1 p hp) y.1, y.2⟩
  · rcases List.mem_cons.mp hp with rfl | hp
    · exact ⟨ho, z.2⟩
    · have y := a.nw p (List.mem_append_right _ (.tail _ hp))
      exact ⟨hs _ _ (h2 p hp) y.1, y.2⟩
theorem At.Llt (a : At g L h l news) : L < h.objs.size := let ⟨_, F, _⟩ := a.fr; F.ns.lt
end

/-- what a block's names are told -/
def CT (oC : Obj) (lc : List (Str × Value)) : Prop := ∃ m, NsObj oC m ∧ ∀ p ∈ lc, m p.1 = some p.2

section
variable {w : World} {A : Around} {E : Value → Shared → Prop} {s : Shared} {g : Heap} {L C D : Addr} {l lc : List (Str × Value)} {news : List (Addr × Obj)} {env : Env} {scope : Scope} {cl : List (Str × Addr)} {x : Str} {v : Value} {pos : Pos} {oC : Obj}

theorem ldC {Q : Value → Shared → Prop} (H : At g L s.heap l news) (hm : (C, oC) ∈ news) (hC : CT oC lc) (hv : lc.lookup x = some v) (h : Q v s) (hk : scope.kind = .function := by rfl) (hx : scope.names.lookup x = some .local := by rfl) (hd : (x == ("__debug__" : Str)) = false := by decide) :
    wpAny (MM w) A (eval (.Name x pos) (compEnvC scope cl C env)) Q E s :=
  let ⟨_, n, t⟩ := hC
  wpAny_Name (wpAny_loadName_local (by simp [compEnvC, relabel, hk]) (lookup_relabel_local hx) (n.ns (H.get hm)) (t _ (mem_of_lookup hv)) h) hd

/-- a name is bound in the block -/
theorem stC {Q : Unit → Shared → Prop} (pre : List (Addr × Obj)) (H : At g L s.heap l (pre ++ (C, oC) :: news)) (h1 : ∀ p ∈ pre, p.1 ≠ C) (h2 : ∀ p ∈ news, p.1 ≠ C) (hC : CT oC lc)
    (h : ∀ h' o', CT o' (put lc x v) → At g L h' l (pre ++ (C, o') :: news) → Q () { s with heap := h', toks := s.toks + 1 }) (hk : scope.kind = .function := by rfl) (hx : scope.names.lookup x = some .local := by rfl) :
    wpAny (MM w) A (storeName (compEnvC scope cl C env) x v) Q E s := by
  obtain ⟨m, n, t⟩ := hC
  refine wpAny_storeName_local (lookup_relabel_local hx) (n.ns (H.get (List.mem_append_right _ (.head _)))) (fun h' hn hs => ?_) (by simp [compEnvC, relabel, hk])
  obtain ⟨o', ho', n'⟩ := ns_obj hn
  refine h h' o' ⟨_, n', ?_⟩ (H.upd pre h1 h2 hs ho')
  intro p hp
  rcases List.mem_cons.mp hp with rfl | hp
  · exact if_pos rfl
  · obtain ⟨hp, hne⟩ := List.mem_filter.mp hp
    have : p.1 ≠ x := by
      intro q
      simp [q] at hne
    show (if p.1 = x then some v else m p.1) = _
    rw [if_neg this]
    exact t p hp

/-- a cell's name in the block -/
theorem ldCell {Q : Value → Shared → Prop} {c : Addr} {o : Obj} (H : At g L s.heap l news) (hc : cl.lookup x = some c) (hm : (c, o) ∈ news) (hd : o.data = .cell (some v)) (h : Q v s) (hk : scope.kind = .function := by rfl) (hx : (compEnvC scope cl C env).kindOf x = some .cell := by rfl) (hb : (x == ("__debug__" : Str)) = false := by decide) :
    wpAny (MM w) A (eval (.Name x pos) (compEnvC scope cl C env)) Q E s :=
  wpAny_Name (wpAny_loadName_cell (by simp [compEnvC, relabel, hk]) hx hc ⟨o, H.get hm, hd⟩ h) hb

/-- a block of one clause, by what holds of it -/
def CompTurn (w : World) (A : Around) (g : Heap) (L : Addr) (l : List (Str × Value)) (env : Env) (scope : Scope) (cl : List (Str × Addr)) (elt target : PySem.Expr) (FinR : Shared → Addr → List Value → List (Addr × Obj) → Nat → Prop) (it : Value) (s₂ : Shared) : Prop :=
  ∃ (news₀ : List (Addr × Obj)) (P : Nat → List Value → List (Addr × Obj) → Prop) (n₀ : Nat), At g L s₂.heap l news₀ ∧ P n₀ [] news₀ ∧
      (∀ (s' : Shared) (Q' : Value → Shared → Prop) (E' : Value → Shared → Prop), At g L s'.heap l news₀ → Q' it s' → wpAny (MM w) A (pyIter it) Q' E' s') ∧
      ∀ n ys nw C oC lc D h tk, D = s₂.heap.objs.size → (∀ p ∈ news₀, p.1 < D) → D < C → P n ys nw → CT oC lc → At g L h l ((C, oC) :: (D, lst ys) :: nw) → (∀ p ∈ nw, p.1 ≠ C ∧ p.1 ≠ D) →
        wpAny (MM w) A (pyNext it) (fun r s₃ => match r with
          | none => ∃ h' tk' nw', s₃ = { s₂ with heap := h', toks := tk' } ∧ At g L h' l ((C, oC) :: (D, lst ys) :: nw') ∧ (∀ p ∈ nw', p.1 ≠ C ∧ p.1 ≠ D) ∧ FinR s₂ D ys nw' tk'
          | some v => wpAny (MM w) A (letOwnedTupleGo target it v) (fun _ s₄ => wpAny (MM w) A (assign target (compEnvC scope cl C env) v) (fun _ s₅ => wpAny (MM w) A (eval elt (compEnvC scope cl C env)) (fun y s₆ =>
              ∃ h' tk' oC' lc' nw' n', s₆ = { s₂ with heap := h', toks := tk' } ∧ n' < n ∧ ys.length ≤ 1000 ∧ CT oC' lc' ∧ At g L h' l ((C, oC') :: (D, lst ys) :: nw') ∧ (∀ p ∈ nw', p.1 ≠ C ∧ p.1 ≠ D) ∧ P n' (ys ++ [y]) nw')
            (fun _ _ => False) s₅) (fun _ _ => False) s₄) (fun _ _ => False) s₃) (fun _ _ => False) { s₂ with heap := h, toks := tk }

theorem compCore {elt target iter : PySem.Expr} {FinR : Shared → Addr → List Value → List (Addr × Obj) → Nat → Prop} {RR : Value → Addr → Result → Shared → Prop} {it : Value} {s₂ : Shared}
    (hcell : ∀ y ∈ scope.names, y.2 ≠ .cell) (hkind : scope.kind = .function) (h₂ : CompTurn w A g L l env scope cl elt target FinR it s₂)
    (hRR : ∀ C D h tk oC lc ys nw, CT oC lc → At g L h l ((C, oC) :: (D, lst ys) :: nw) → (∀ p ∈ nw, p.1 ≠ C ∧ p.1 ≠ D) → D < C → FinR s₂ D ys nw tk → RR (.ref D) C (.ok .next) { s₂ with heap := h, toks := tk }) :
    wpAny (MM w) A (newList []) (fun acc s₃ => wpAny (MM w) A (newFunctionEnv scope env.globals cl [] env.qual none .none (some env)) (fun cenv s₄ =>
      codeAny (MM w) A (.compStart (.ListComp elt [⟨target, iter, [], 0⟩] scope pos) 0 it acc { cenv with scope := relabel scope env }) (RR acc cenv.locals) s₄) E s₃) E s₂ := by
  obtain ⟨news₀, P, n₀, H₀, hP₀, hself, turn⟩ := h₂
  refine wpAny_newObj_type (wpAny_newFunctionEnv hcell (by intro y hy; simp at hy) (fun h₁ hns₁ hsb₁ => ?_) hkind)
  dsimp only at hns₁ hsb₁ ⊢
  generalize hH2 : s₂.heap.push { cls := .type "list", dict := none, data := .seq ([] : List Value).toArray } = H2 at hns₁ hsb₁ ⊢
  have hC : H2.objs.size = s₂.heap.objs.size + 1 := by rw [← hH2, Heap.size_push]
  have hDC : s₂.heap.objs.size < H2.objs.size := by rw [hC]; exact Nat.lt_succ_self _
  have below : ∀ b, b < s₂.heap.objs.size → b ≠ H2.objs.size ∧ b ≠ s₂.heap.objs.size := fun b hb => ⟨by rw [hC]; exact Nat.ne_of_lt (Nat.lt_succ_of_lt hb), Nat.ne_of_lt hb⟩
  have old : ∀ b o, s₂.heap.get? b = some o → h₁.get? b = some o := fun b o e => hsb₁.extBut b o (below b (Heap.lt_size e)).1 (Heap.get?_push_of_some _ (hH2 ▸ Heap.get?_push_of_some _ e))
  have hacc : h₁.get? s₂.heap.objs.size = some (lst []) := hsb₁.extBut _ _ (Nat.ne_of_lt hDC) (Heap.get?_push_of_some _ (hH2 ▸ Heap.get?_push_size _ rfl))
  obtain ⟨oC, hoC, nC⟩ := ns_obj hns₁
  have Hk := H₀.keeps old
  obtain ⟨m₀, F₀, hm₀⟩ := H₀.fr
  have fresh : ∀ a, s₂.heap.objs.size ≤ a → g.get? a = none := fun a ha => by
    cases e : g.get? a with
    | none => rfl
    | some o' => exact absurd (Heap.lt_size (F₀.keep a o' e)) (Nat.not_lt.mpr ha)
  have hLlt : L < s₂.heap.objs.size := F₀.ns.lt
  have H₁ : At g L h₁ l ((H2.objs.size, oC) :: (s₂.heap.objs.size, lst []) :: news₀) := by
    refine ⟨Hk.fr, fun p hp => ?_⟩
    rcases List.mem_cons.mp hp with rfl | hp
    · exact ⟨hoC, Ne.symm (below L hLlt).1, fresh _ (by rw [hC]; exact Nat.le_succ _)⟩
    · rcases List.mem_cons.mp hp with rfl | hp
      · exact ⟨hacc, Ne.symm (below L hLlt).2, fresh _ (Nat.le_refl _)⟩
      · exact Hk.nw p hp
  have off₀ : ∀ p ∈ news₀, p.1 ≠ H2.objs.size ∧ p.1 ≠ s₂.heap.objs.size := fun p hp => below _ (H₀.lt p hp)
  have loop : ∀ s₃ : Shared, s₃ = { s₂ with heap := h₁, toks := s₂.toks + ([] : List (Str × Value)).length } →
      codeAny (MM w) A (.compLoop (.ListComp elt [⟨target, iter, [], 0⟩] scope pos) 0 it (.ref s₂.heap.objs.size) (compEnvC scope cl H2.objs.size env))
        (RR (.ref s₂.heap.objs.size) H2.objs.size) s₃ := by
    rintro s₃ rfl
    refine kcp_loop (fun k s' => ∃ h' tk ys oC lc nw, s' = { s₂ with heap := h', toks := tk } ∧ P k ys nw ∧ CT oC lc ∧ At g L h' l ((H2.objs.size, oC) :: (s₂.heap.objs.size, lst ys) :: nw) ∧ (∀ p ∈ nw, p.1 ≠ H2.objs.size ∧ p.1 ≠ s₂.heap.objs.size)) ?_ n₀
      ⟨h₁, _, [], oC, [], news₀, rfl, hP₀, ⟨_, nC, fun _ hp => nomatch hp⟩, H₁, off₀⟩
    rintro k s' ⟨h', tk, ys, oC', lc, nw, rfl, hP, hCT, H', off⟩
    refine wpAny_mono (turn k ys nw _ oC' lc _ h' tk rfl H₀.lt hDC hP hCT H' off) (fun r s₃ hr => ?_) fun _ _ z => z.elim
    cases r with
    | none =>
      obtain ⟨h₃, tk₃, nw', rfl, H₃, off₃, k₃⟩ := hr
      exact hRR _ _ _ _ _ _ _ _ hCT H₃ off₃ hDC k₃
    | some v =>
      refine wpAny_mono hr (fun _ s₄ h₄ => wpAny_mono h₄ (fun _ s₅ h₅ => wpAny_mono h₅ (fun y s₆ h₆ => ?_) fun _ _ z => z.elim) fun _ _ z => z.elim) fun _ _ z => z.elim
      obtain ⟨h₆, tk₆, oC₆, lc₆, nw₆, n₆, rfl, hn, hys, hCT₆, H₆, off₆, hP₆⟩ := h₆
      have zD := (H₆.nw _ (.tail _ (.head _))).1
      refine append_at (hsz := by show ys.toArray.size ≤ sizeLine; rw [List.size_toArray, sizeLine_eq]; omega) zD fun h₇ hs₇ hD₇ => ?_
      refine ⟨n₆, hn, h₇, tk₆, ys ++ [y], oC₆, lc₆, nw₆, rfl, hP₆, hCT₆, H₆.upd [(H2.objs.size, oC₆)] (fun p hp => ?_) (fun p hp => (off₆ p hp).2) hs₇ (hD₇.trans (congrArg some (lst_snoc ys y))), off₆⟩
      rw [List.mem_singleton.mp hp]
      exact Nat.ne_of_gt hDC
  refine codeAny_compStart_list (loop _ rfl) (hself _ _ _ (H₁.new fun p hp => .tail _ (.tail _ hp)) (loop _ rfl))

theorem At.dropC {h h'' : Heap} {oC oD : Obj} {nw : List (Addr × Obj)} (H : At g L h l ((C, oC) :: (D, oD) :: nw)) (off : ∀ p ∈ nw, p.1 ≠ C ∧ p.1 ≠ D) (hDC : D < C) (hs : Heap.SameBut C h h'') : At g L h'' l ((D, oD) :: nw) := by
  obtain ⟨mF, FF, hmF⟩ := H.fr
  have zC := H.nw _ (.head _)
  refine ⟨⟨mF, FF.change hs zC.2.1 zC.2.2, hmF⟩, fun p hp => ?_⟩
  have y := H.nw p (.tail _ hp)
  refine ⟨(hs.2 p.1 ?_).trans y.1, y.2⟩
  rcases List.mem_cons.mp hp with rfl | hp
  · exact Nat.ne_of_lt hDC
  · exact (off p hp).1

abbrev FinV (g : Heap) (L : Addr) (l : List (Str × Value)) (Q : Value → Shared → Prop) : Shared → Addr → List Value → List (Addr × Obj) → Nat → Prop := fun s₂ D ys nw tk => ∀ h'', At g L h'' l ((D, lst ys) :: nw) → Q (.ref D) { s₂ with heap := h'', toks := tk }
abbrev FinS (g : Heap) (L : Addr) (l : List (Str × Value)) (y : Str) (Q : Flow → Shared → Prop) : Shared → Addr → List Value → List (Addr × Obj) → Nat → Prop := fun s₂ D ys nw _ => ∀ h'' tk, At g L h'' (put l y (.ref D)) ((D, lst ys) :: nw) → Q .next { s₂ with heap := h'', toks := tk }

/-- a list comprehension of one clause -/
theorem compA {elt target iter : PySem.Expr} {Q : Value → Shared → Prop}
    (hclos : closureFor scope env = pure cl) (hcell : ∀ y ∈ scope.names, y.2 ≠ .cell) (hkind : scope.kind = .function) (hnames : ∀ y ∈ scope.names, y.2 = .local → scope.names.lookup y.1 = some .local)
    (h : wpAny (MM w) A (eval iter env) (fun x s₁ => wpAny (MM w) A (pyIter x) (CompTurn w A g L l env scope cl elt target (FinV g L l Q)) (fun _ _ => False) s₁) (fun _ _ => False) s)
    (hs : ∀ x, foldedSetIterable iter env x = pure x := by intro _; rfl) :
    wpAny (MM w) A (eval (.ListComp elt [⟨target, iter, [], 0⟩] scope pos) env) Q E s := by
  rw [eval_ListComp]
  refine wpAny_comprehension_free (use := none) rfl hs hclos hkind hnames (wpAny_mono h (fun x s₁ h₁ => wpAny_mono h₁ (fun it s₂ h₂ => ?_) fun _ _ z => z.elim) fun _ _ z => z.elim)
  refine compCore hcell hkind h₂ fun C D h tk oC lc ys nw hCT H off hDC fin => ?_
  obtain ⟨m, n, _⟩ := hCT
  exact ⟨m, n.ns (H.get (.head _)), fun h'' hs'' => fin h'' (H.dropC off hDC hs'')⟩

/-- its list is bound to a name -/
theorem compS {elt target iter : PySem.Expr} {cn : Str} {cs : Scope} {ccd : Value} {a : Addr} {ec : List (Str × Addr)} {y : Str} {py spos : Pos} {Q : Flow → Shared → Prop}
    (hsw : swapsWith (.ListComp elt [⟨target, iter, [], 0⟩] scope pos) (some (.Name y py)) spos.line (envX cn cs L a ccd ec) = pure true)
    (hclos : closureFor scope (envX cn cs L a ccd ec) = pure cl) (hcell : ∀ y ∈ scope.names, y.2 ≠ .cell) (hkind : scope.kind = .function) (hnames : ∀ y ∈ scope.names, y.2 = .local → scope.names.lookup y.1 = some .local)
    (hk : cs.kind = .function) (hy : (envX cn cs L a ccd ec).kindOf y = some .local)
    (h : wpAny (MM w) A (eval iter (envX cn cs L a ccd ec)) (fun x s₁ => wpAny (MM w) A (pyIter x) (CompTurn w A g L l (envX cn cs L a ccd ec) scope cl elt target (FinS g L l y Q)) (fun _ _ => False) s₁) (fun _ _ => False) s)
    (hs : ∀ x, foldedSetIterable iter (envX cn cs L a ccd ec) x = pure x := by intro _; rfl) :
    wpAny (MM w) A (exec (.Assign [.Name y py] (.ListComp elt [⟨target, iter, [], 0⟩] scope pos) spos) (envX cn cs L a ccd ec)) Q E s := by
  rw [exec_Assign_Name_used _ _ _ _ hsw]
  refine wpAny_bind (wpAny_standAt (wpAny_bind ?_))
  show wpAny _ A (do let _ ← comprehension (.ListComp elt [⟨target, iter, [], 0⟩] scope pos) scope (envX cn cs L a ccd ec) _ (newList []) false (eval iter (envX cn cs L a ccd ec)) (some (assign (.Name y py) (envX cn cs L a ccd ec)))) _ _ s
  refine wpAny_bind (wpAny_mono (wpAny_comprehension_free (use := some (assign (.Name y py) (envX cn cs L a ccd ec))) (Q := fun _ s' => Q .next s') rfl hs hclos hkind hnames
    (wpAny_mono h (fun x s₁ h₁ => wpAny_mono h₁ (fun it s₂ h₂ => ?_) fun _ _ z => z.elim) fun _ _ z => z.elim)) (fun _ s' hq => wpAny_pure (wpAny_pure hq)) fun _ _ e => e)
  refine compCore hcell hkind h₂ fun C D h tk oC lc ys nw hCT H off hDC fin => ?_
  show wpAny _ A (assign (.Name y py) (envX cn cs L a ccd ec) (.ref D)) _ _ _
  refine wpAny_assign_Name (stA H (fun h₂ H₂ => ?_) hk hy)
  obtain ⟨m, n, _⟩ := hCT
  exact ⟨m, n.ns (H₂.get (.head _)), fun h'' hs'' => fin h'' _ (H₂.dropC off hDC hs'')⟩
end
end Mine
end
section
open PySem PySem.W PyProof.Rows PySem.Calls PyProof.Rows.LCg
namespace Mine
noncomputable abbrev SK (w : World) := PySem.strKind PySem.Challenge.rw_mg0060_01.row.prog w

/-- an iterator over a dict's keys: what it has still to give -/
def KIt (o : Obj) (d : Addr) (ks : List Str) (ep : Nat) (rem : List Str) : Prop :=
  (∃ i, KdkIter o d i ks.length ep ∧ rem = ks.drop i) ∨ (rem = [] ∧ o.cls = .type "dict_keyiterator" ∧ ∃ i n e : Nat, o.data = .fields #[.none, .int i 0, .int n 0, .int e 0])
theorem KIt.cls {o : Obj} {d : Addr} {ks rem : List Str} {ep : Nat} (k : KIt o d ks ep rem) : o.cls = .type "dict_keyiterator" := by
  rcases k with ⟨_, k, _⟩ | ⟨_, k, _⟩
  · exact k.1
  · exact k

/-- the dict that is walked -/
def Src (w : World) (base : List (Addr × Obj)) (d : Addr) (ks : List Str) (ep : Nat) : Prop :=
  ∃ o kvs, KdkAt (SK w) o kvs ep ∧ kvs.map (·.1) = ks ∧ ((Mine.hd0.heap_1 w.params).lookup d = some o ∨ (d, o) ∈ base)
theorem Src.mono {w : World} {base base' : List (Addr × Obj)} {d : Addr} {ks : List Str} {ep : Nat} (S : Src w base d ks ep) (h : ∀ p ∈ base, p ∈ base') : Src w base' d ks ep := by
  obtain ⟨o, kvs, k, e, q⟩ := S
  exact ⟨o, kvs, k, e, q.imp id (h _)⟩
theorem Src.at {w : World} {A : Around} {g : Heap} {L : Addr} {h : Heap} {l : List (Str × Value)} {base news : List (Addr × Obj)} {d : Addr} {ks : List Str} {ep x y : Nat} (S : Src w base d ks ep) (C : Cx w A L g x y) (H : At g L h l news) (hb : ∀ p ∈ base, p ∈ news) :
    ∃ kvs, h.DictAt (SK w) d kvs ep ∧ kvs.map (·.1) = ks := by
  obtain ⟨o, kvs, k, e, q⟩ := S
  obtain ⟨m, F, _⟩ := H.fr
  refine ⟨kvs, k.dictAt ?_, e⟩
  rcases q with q | q
  · exact F.keep _ _ (C.kin _ _ q)
  · exact H.get (hb _ q)

section
variable {w : World} {A : Around} {E : Value → Shared → Prop} {s : Shared} {it d : Addr} {o : Obj} {ks rem : List Str} {ep : Nat} {c : Str} {kvs : List (Str × Value)}

theorem ki_item {Q : Option Value → Shared → Prop} (k : KIt o d ks ep (c :: rem)) (ho : s.heap.get? it = some o) (hD : s.heap.DictAt (SK w) d kvs ep) (hk : kvs.map (·.1) = ks)
    (h : ∀ t h' o', h'.get? it = some o' → KIt o' d ks ep rem → Heap.SameBut it s.heap h' → Q (some (.str c t)) { s with heap := h' }) :
    wpAny (MM w) A (callSpecial? (.ref it) (Str.ofString "__next__")) Q E s := by
  rcases k with ⟨i, ki, e⟩ | ⟨e, _⟩
  · have hlen : kvs.length = ks.length := by rw [← hk, List.length_map]
    have hc : ks[i]? = some c := by
      have := congrArg (fun l : List Str => l[0]?) e
      simpa [List.getElem?_drop] using this.symm
    have hx : ∃ v, kvs[i]? = some (c, v) := by
      rw [← hk, List.getElem?_map] at hc
      cases q : kvs[i]? with
      | none => rw [q] at hc; cases hc
      | some p => rw [q] at hc; cases hc; exact ⟨p.2, rfl⟩
    obtain ⟨v, hx⟩ := hx
    have hit : s.heap.IsKeyIter it d i kvs.length ep := by rw [hlen]; exact ki.at ho
    refine kdk_special hit hD hx fun key h' hkey hit' hs => ?_
    obtain ⟨t, rfl⟩ := Value.isStrOf_shape hkey
    obtain ⟨o', ho', hc', hd'⟩ := hit'
    refine h t h' o' ho' (.inl ⟨i + 1, ⟨hc', by rw [← hlen]; exact hd'⟩, ?_⟩) hs
    have := congrArg List.tail e
    simpa [List.tail_drop] using this
  · cases e

theorem ki_end {Q : Option Value → Shared → Prop} (hh : A.handled = none) (k : KIt o d ks ep []) (ho : s.heap.get? it = some o) (hD : s.heap.DictAt (SK w) d kvs ep) (hk : kvs.map (·.1) = ks)
    (h : ∀ h' e o', Heap.ExtBut it s.heap h' → h'.get? it = some o' → KIt o' d ks ep [] → (∃ oe, h'.get? e = some oe ∧ oe.cls = .type "StopIteration") → E (.ref e) { s with heap := h' }) :
    wpAny (MM w) A (callSpecial? (.ref it) (Str.ofString "__next__")) Q E s := by
  have hT : s.TypeIs (.ref it) "dict_keyiterator" := ⟨o, ho, k.cls⟩
  refine wpAny_callSpecial?_slot (name := Str.ofString "__next__") hT PySem.F.slot_dict_keyiterator_next
    (wpAny_call_entry PySem.F.slot_dict_keyiterator_next hT PySem.F.entry_dict_keyiterator_next ?_ (PySem.F.args_dict_keyiterator_next_1 _))
  refine wpAny_bind (wpAny_pure ?_)
  refine wpAny_bind ?_
  refine wpAny_bind ?_
  first | refine wpAny_bind (wpAny_typeNameOfWhole_keyiter hT (wpAny_pure ?_)) | refine wpAny_bind (wpAny_typeNameOf_keyiter hT (wpAny_pure ?_))
  have hown : Builtin.Dict_items.ownsTuple "dict_keyiterator" = false := by decide
  rcases k with ⟨i, ki, e⟩ | ⟨_, hc, i, n, e, hd⟩
  · obtain ⟨od, es, hod, hcd, hdd, _, hp, hn⟩ := id hD
    have hlen : kvs.length = ks.length := by rw [← hk, List.length_map]
    refine wpAny_bind (wpAny_fieldsOf ho ki.2 ?_)
    simp only [hown, Bool.false_eq_true, if_false]
    show wpAny _ _ (if (Value.ref d == Value.none) = true then _ else _) _ _ s
    rw [if_neg (show ¬ ((Value.ref d == Value.none) = true) from Bool.false_ne_true)]
    refine wpAny_bind (wpAny_pure ?_)
    refine wpAny_bind (wpAny_dictEntries hod hdd ?_)
    have hsz : es.size = ks.length := by rw [← hlen, ← hp.length]; simp
    rw [if_neg (by rw [hsz]; simp)]
    refine wpAny_bind (wpAny_pure ?_)
    refine wpAny_bind (wpAny_dictEpoch hod hdd ?_)
    rw [if_neg (by simp)]
    refine wpAny_pure ?_
    have hge : es.size ≤ i := by
      rw [hsz]
      have := congrArg List.length e
      simp at this
      omega
    simp only [show ¬ ((i : Int) < 0) from by omega, if_false, Int.toNat_natCast, Array.getElem?_eq_none hge]
    refine wpAny_bind ?_
    first | refine wpAny_bind (wpAny_typeNameOfWhole_keyiter hT (wpAny_pure ?_)) | refine wpAny_bind (wpAny_typeNameOf_keyiter hT (wpAny_pure ?_))
    show wpAny _ _ (setField (.ref it) 0 .none >>= _) _ _ s
    refine wpAny_bind (wpAny_setField ho ki.2 (by simp) ?_)
    show wpAny _ _ (newExc (.type "StopIteration") [] >>= _) _ _ _
    refine wpAny_bind ?_
    simp only [newExc, newTuple]
    refine wpAny_bind (wpAny_newObj_type ?_ (by size_fits))
    refine wpAny_bind (m := firstArgMember _ _) (wpAny_of_eq (a := Value.none) (by first | rfl | (simp only [firstArgMember]; rfl)) ?_)
    refine wpAny_newObj_type ?_ (by size_fits)
    simp only [raiseNew]
    refine wpAny_bind (wpAny_handled ?_)
    rw [show A.in1.handled = none from hh]
    refine wpAny_bind (wpAny_pure (wpAny_throw ?_))
    refine h _ _ _ (((Heap.SameBut.update ..).extBut.push _).push _) (Heap.get?_push_of_some _ (Heap.get?_push_of_some _ (Heap.get?_update_self _ ho (Obj.isFreed_of_fields (Obj.data_mapFields ki.2 _))))) (.inr ⟨rfl, (Obj.cls_mapFields ..).trans ki.1, i, ks.length, ep, ?_⟩) ⟨_, Heap.get?_push_size _ rfl, rfl⟩
    rw [Obj.data_mapFields ki.2]
    simp
  · refine wpAny_bind (wpAny_fieldsOf ho hd ?_)
    simp only [hown, Bool.false_eq_true, if_false]
    show wpAny _ _ (if (Value.none == Value.none) = true then _ else _) _ _ s
    rw [if_pos (show (Value.none == Value.none) = true from rfl)]
    refine wpAny_bind (wpAny_rule ?_)
    refine wpAny_pure ?_
    show wpAny _ _ (newExc (.type "StopIteration") [] >>= _) _ _ _
    refine wpAny_bind ?_
    simp only [newExc, newTuple]
    refine wpAny_bind (wpAny_newObj_type ?_ (by size_fits))
    refine wpAny_bind (m := firstArgMember _ _) (wpAny_of_eq (a := Value.none) (by first | rfl | (simp only [firstArgMember]; rfl)) ?_)
    refine wpAny_newObj_type ?_ (by size_fits)
    simp only [raiseNew]
    refine wpAny_bind (wpAny_handled ?_)
    rw [show A.in1.handled = none from hh]
    refine wpAny_bind (wpAny_pure (wpAny_throw ?_))
    exact h _ _ o (((Heap.ExtBut.refl it s.heap).push _).push _) (Heap.get?_push_of_some _ (Heap.get?_push_of_some _ ho)) (.inr ⟨rfl, hc, i, n, e, hd⟩) ⟨_, Heap.get?_push_size _ rfl, rfl⟩

theorem nextK_item {Q : Option Value → Shared → Prop} (k : KIt o d ks ep (c :: rem)) (ho : s.heap.get? it = some o) (hD : s.heap.DictAt (SK w) d kvs ep) (hk : kvs.map (·.1) = ks)
    (h : ∀ t h' o', h'.get? it = some o' → KIt o' d ks ep rem → Heap.SameBut it s.heap h' → Q (some (.str c t)) { s with heap := h' }) :
    wpAny (MM w) A (pyNext (.ref it)) Q E s := by
  unfold pyNext
  exact wpAny_bind (wpAny_attempt (ki_item k ho hD hk fun t h' o' a b c => wpAny_pure (h t h' o' a b c)))
theorem nextK_end {Q : Option Value → Shared → Prop} (hh : A.handled = none) (k : KIt o d ks ep []) (ho : s.heap.get? it = some o) (hD : s.heap.DictAt (SK w) d kvs ep) (hk : kvs.map (·.1) = ks)
    (h : ∀ h' o', Heap.ExtBut it s.heap h' → h'.get? it = some o' → KIt o' d ks ep [] → Q none { s with heap := h' }) :
    wpAny (MM w) A (pyNext (.ref it)) Q E s := by
  unfold pyNext
  refine wpAny_bind (wpAny_attempt (ki_end hh k ho hD hk fun h' e o' a b c he => ?_))
  obtain ⟨oe, hoe, hce⟩ := he
  refine wpAny_bind (wpAny_isInstance (T := "StopIteration") (b := true) ⟨oe, hoe, hce⟩ isSubtype_stop ?_)
  exact wpAny_pure (h _ _ a b c)
theorem ofK_item {Q : Value → Shared → Prop} (k : KIt o d ks ep (c :: rem)) (ho : s.heap.get? it = some o) (hD : s.heap.DictAt (SK w) d kvs ep) (hk : kvs.map (·.1) = ks)
    (h : ∀ t h' o', h'.get? it = some o' → KIt o' d ks ep rem → Heap.SameBut it s.heap h' → Q (.str c t) { s with heap := h' }) :
    wpAny (MM w) A (Builtin.SmallTypes.nextOf (.ref it)) Q E s := by
  unfold Builtin.SmallTypes.nextOf
  exact wpAny_bind (ki_item k ho hD hk fun t h' o' a b c => wpAny_pure (h t h' o' a b c))
theorem ofK_end {Q : Value → Shared → Prop} (hh : A.handled = none) (k : KIt o d ks ep []) (ho : s.heap.get? it = some o) (hD : s.heap.DictAt (SK w) d kvs ep) (hk : kvs.map (·.1) = ks)
    (h : ∀ h' e o', Heap.ExtBut it s.heap h' → h'.get? it = some o' → KIt o' d ks ep [] → (∃ oe, h'.get? e = some oe ∧ oe.cls = .type "StopIteration") → E (.ref e) { s with heap := h' }) :
    wpAny (MM w) A (Builtin.SmallTypes.nextOf (.ref it)) Q E s := by
  unfold Builtin.SmallTypes.nextOf
  exact wpAny_bind (ki_end hh k ho hD hk h)
theorem iterK {Q : Value → Shared → Prop} (k : KIt o d ks ep rem) (ho : s.heap.get? it = some o) (h : Q (.ref it) s) : wpAny (MM w) A (pyIter (.ref it)) Q E s := by
  have hT : s.TypeIs (.ref it) "dict_keyiterator" := ⟨o, ho, k.cls⟩
  refine wpAny_pyIter_slot hT PySem.F.slot_dict_keyiterator_iter (wpAny_call_entry PySem.F.slot_dict_keyiterator_iter hT PySem.F.entry_dict_keyiterator_iter ?_ (PySem.F.args_dict_keyiterator_iter_1 _))
  show wpAny _ _ (ret (.ref it)) _ _ s
  exact wpAny_pure ⟨_, rfl, "dict_keyiterator", _, hT, PySem.F.slot_dict_keyiterator_next.lookup, h⟩

theorem ofR_item {it : Addr} {x left step : Int} {Q : Value → Shared → Prop} (hit : IsRangeIter s.heap it x left step) (hleft : 0 < left)
    (hQ : ∀ h', IsRangeIter h' it (x + step) (left - 1) step → Heap.SameBut it s.heap h' → Q (.int x s.toks) { s with heap := h', toks := s.toks + 1 }) :
    wpAny (MM w) A (Builtin.SmallTypes.nextOf (.ref it)) Q E s := by
  have hT : s.TypeIs (.ref it) "range_iterator" := ⟨_, hit, rfl⟩
  unfold Builtin.SmallTypes.nextOf
  refine wpAny_bind (wpAny_callSpecial?_slot (name := Str.ofString "__next__") hT PySem.F.slot_range_iterator_next
    (call_meets PySem.F.slot_range_iterator_next hT PySem.F.entry_range_iterator_next (PySem.F.args_range_iterator_next_1 _) (AutoRange.range_iterator___next___range_iterator_1 it x left step (by omega)) ⟨hit, ?_⟩))
  exact wpAny_pure (hQ _ (Heap.get?_update_self _ (Heap.get?_update_self _ hit rfl) rfl) ((Heap.SameBut.update ..).trans (Heap.SameBut.update ..)))
theorem ofR_end {it : Addr} {x left step : Int} {Q : Value → Shared → Prop} (hh : A.handled = none) (hit : IsRangeIter s.heap it x left step) (hleft : left ≤ 0)
    (hE : ∀ h' e, (∀ b o, s.heap.get? b = some o → h'.get? b = some o) → (∃ o, h'.get? e = some o ∧ o.cls = .type "StopIteration") → E (.ref e) { s with heap := h' }) :
    wpAny (MM w) A (Builtin.SmallTypes.nextOf (.ref it)) Q E s := by
  have hT : s.TypeIs (.ref it) "range_iterator" := ⟨_, hit, rfl⟩
  unfold Builtin.SmallTypes.nextOf
  refine wpAny_bind (wpAny_callSpecial?_slot (name := Str.ofString "__next__") hT PySem.F.slot_range_iterator_next
    (wpAny_call_entry PySem.F.slot_range_iterator_next hT PySem.F.entry_range_iterator_next ?_ (PySem.F.args_range_iterator_next_1 _)))
  show wpAny _ _ (field (.ref it) 0 >>= _) _ _ s
  refine wpAny_bind (wpAny_field hit rfl (x := rawInt x) rfl ?_)
  show wpAny _ _ (field (.ref it) 1 >>= _) _ _ s
  refine wpAny_bind (wpAny_field hit rfl (x := rawInt left) rfl ?_)
  show wpAny _ _ (field (.ref it) 2 >>= _) _ _ s
  refine wpAny_bind (wpAny_field hit rfl (x := rawInt step) rfl ?_)
  show wpAny _ _ (if left ≤ 0 then _ else _) _ _ s
  rw [if_pos hleft]
  refine wpAny_bind (wpAny_rule ?_)
  refine wpAny_bind ?_
  show wpAny _ _ (newExc (.type "StopIteration") [] >>= _) _ _ _
  refine wpAny_bind ?_
  simp only [newExc, newTuple]
  refine wpAny_bind (wpAny_newObj_type ?_ (by size_fits))
  refine wpAny_bind (m := firstArgMember _ _) (wpAny_of_eq (a := Value.none) (by first | rfl | (simp only [firstArgMember]; rfl)) ?_)
  refine wpAny_newObj_type ?_ (by size_fits)
  simp only [raiseNew]
  refine wpAny_bind (wpAny_handled ?_)
  first | rw [show A.in1.handled = none from hh] | rw [hh]
  refine wpAny_bind (wpAny_pure (wpAny_throw ?_))
  exact hE _ _ (fun b o e => Heap.get?_push_of_some _ (Heap.get?_push_of_some _ e)) ⟨_, Heap.get?_push_size _ rfl, rfl⟩
end
end Mine
end
section
open PySem PySem.W PyProof.Rows PySem.Calls PyProof.Rows.LCg
namespace Mine
abbrev zipO (f0 : Value) (TI TO : Addr) : Obj := { cls := .type "zip", dict := none, data := .fields #[f0, .bool false, .bool false, .ref TI, .ref TO], slots := #[] }
abbrev prO (a b : Value) : Obj := { cls := .type "tuple", data := .seq #[a, b] }

theorem iterKg {prog : Program} {w : World} {A : Around} {E : Value → Shared → Prop} {s : Shared} {it : Addr} {o : Obj} {Q : Value → Shared → Prop} (k : o.cls = .type "dict_keyiterator") (ho : s.heap.get? it = some o) (h : Q (.ref it) s) : wpAny (model prog w) A (pyIter (.ref it)) Q E s := by
  have hT : s.TypeIs (.ref it) "dict_keyiterator" := ⟨o, ho, k⟩
  refine wpAny_pyIter_slot hT PySem.F.slot_dict_keyiterator_iter (wpAny_call_entry PySem.F.slot_dict_keyiterator_iter hT PySem.F.entry_dict_keyiterator_iter ?_ (PySem.F.args_dict_keyiterator_iter_1 _))
  show wpAny _ _ (ret (.ref it)) _ _ s
  exact wpAny_pure ⟨_, rfl, "dict_keyiterator", _, hT, PySem.F.slot_dict_keyiterator_next.lookup, h⟩

abbrev zH1 (h : Heap) (a n c : Int) : Heap := h.push { cls := .type "range_iterator", data := .fields #[rawInt a, rawInt n, rawInt c] }
abbrev zH2 (h : Heap) (a n c : Int) (it : Addr) : Heap := (zH1 h a n c).push { cls := .type "tuple", data := .seq #[.ref h.objs.size, .ref it] }
abbrev zH3 (h : Heap) (a n c : Int) (it : Addr) : Heap := (zH2 h a n c it).push { cls := .type "tuple", data := .seq #[.none, .none] }
abbrev zH4 (h : Heap) (a n c : Int) (it : Addr) : Heap := (zH3 h a n c it).push { cls := .type "zip", data := .fields #[.none, .bool false, .bool false, .ref (zH1 h a n c).objs.size, .ref (zH2 h a n c it).objs.size] }

theorem meets_zip_rk (r it : Addr) (o : Obj) (hk : o.cls = .type "dict_keyiterator") (a b c : Int) (t u v : Tok) (hsm : Builtin.Range.small a b c = true) :
    Meets (Builtin.«zip.__new__» ⟨[.type "zip", .ref r, .ref it], []⟩) (fun _ R s => IsRange s.heap r a b c t u v ∧ s.heap.get? it = some o ∧
      R (.ok (.ret (.ref (zH3 s.heap a (Builtin.Range.rangeSize a b c) c it).objs.size))) { s with heap := zH4 s.heap a (Builtin.Range.rangeSize a b c) c it }) :=
  .of_wp fun prog w A R s h => by
    obtain ⟨hp, g, d, tk, os⟩ := s; obtain ⟨hr, hi, h⟩ := h
    have hsub := sub_zip
    have hR : IsRange (Shared.heap ⟨hp, g, d, tk, os⟩) r a b c t u v := hr
    have hI : (Shared.heap ⟨hp.push { cls := .type "range_iterator", data := .fields #[rawInt a, rawInt (Builtin.Range.rangeSize a b c), rawInt c] }, g, d, tk, os⟩).get? it = some o := Heap.get?_push_of_some _ hi
    wp_walk using wpAny_pyIter_range hR hsm, iterKg hk hI
    exact ⟨_, rfl, h⟩

section
variable {w : World} {A : Around} {E : Value → Shared → Prop} {s : Shared} {g : Heap} {L : Addr} {l : List (Str × Value)} {news nw base : List (Addr × Obj)} {z TI TO i1 it d r : Addr} {oI : Obj} {ks rem : List Str} {ep : Nat} {x left step a b c : Int} {p q : Value} {t u v : Tok} {dd uu : Nat}

theorem zipA {Q : Value → Shared → Prop} (H : At g L s.heap l news) (hr : (r, raObj a b c t u v) ∈ news) (hi : (it, oI) ∈ news) (k : KIt oI d ks ep rem) (hsm : Builtin.Range.small a b c = true)
    (h : ∀ z TI TO i1 h', At g L h' l ((z, zipO .none TI TO) :: (TI, prO (.ref i1) (.ref it)) :: (TO, prO .none .none) :: (i1, riObj a (Builtin.Range.rangeSize a b c) c) :: news) → (∀ p ∈ news, p.1 < i1) → i1 < TI → TI < TO → TO < z → Q (.ref z) { s with heap := h' }) :
    wpAny (MM w) A (call (.type "zip") [.ref r, .ref it]) Q E s := by
  refine callType_new PySem.F.called_zip (by decide) (PySem.F.typeCall_zip_2 _ _) (PySem.F.newCall_zip_2 _ _) (fun obj => PySem.F.args_object_init_3 obj _ _) PySem.F.entry_zip_new
    (meets_zip_rk r it oI k.cls a b c t u v hsm) ⟨H.get hr, H.get hi, ?_⟩
  generalize Builtin.Range.rangeSize a b c = n at h ⊢
  have z1 : (zH1 s.heap a n c).objs.size = s.heap.objs.size + 1 := Heap.size_push ..
  have z2 : (zH2 s.heap a n c it).objs.size = s.heap.objs.size + 2 := by rw [Heap.size_push, z1]
  have z3 : (zH3 s.heap a n c it).objs.size = s.heap.objs.size + 3 := by rw [Heap.size_push, z2]
  have H1 := H.push { cls := .type "range_iterator", data := .fields #[rawInt a, rawInt n, rawInt c] }
  have H2 := H1.push { cls := .type "tuple", data := .seq #[.ref s.heap.objs.size, .ref it] }
  have H3 := H2.push { cls := .type "tuple", data := .seq #[.none, .none] }
  have H4 := H3.push { cls := .type "zip", data := .fields #[.none, .bool false, .bool false, .ref (zH1 s.heap a n c).objs.size, .ref (zH2 s.heap a n c it).objs.size] }
  refine ⟨⟨_, Heap.get?_push_size _ rfl, rfl⟩, h _ (zH1 s.heap a n c).objs.size (zH2 s.heap a n c it).objs.size s.heap.objs.size _ (H4.new fun p hp => ?_) H.lt (by rw [z1]; exact Nat.lt_succ_self _) (by rw [z1, z2]; exact Nat.lt_succ_self _) (by rw [z2, z3]; exact Nat.lt_succ_self _)⟩
  simp only [List.mem_cons] at hp ⊢
  rcases hp with rfl | rfl | rfl | rfl | hp
  · exact .inl rfl
  · exact .inr (.inr (.inl rfl))
  · exact .inr (.inl rfl)
  · exact .inr (.inr (.inr (.inl rfl)))
  · exact .inr (.inr (.inr (.inr hp)))

structure Zap (z TI TO i1 it : Addr) (nw : List (Addr × Obj)) : Prop where
  a1 : @LT.lt Nat _ it i1
  a2 : @LT.lt Nat _ i1 TI
  a3 : @LT.lt Nat _ TI TO
  a4 : @LT.lt Nat _ TO z
  off : ∀ p ∈ nw, p.1 ≠ z ∧ p.1 ≠ TI ∧ p.1 ≠ TO ∧ p.1 ≠ i1 ∧ p.1 ≠ it

theorem At.zset {z TI TO i1 it : Addr} {h h' : Heap} {oz oTI oTO o1 oI oz' : Obj} (Z : Zap z TI TO i1 it nw) (H : At g L h l ((z, oz) :: (TI, oTI) :: (TO, oTO) :: (i1, o1) :: (it, oI) :: nw)) (hs : Heap.SameBut z h h') (ho : h'.get? z = some oz') :
    At g L h' l ((z, oz') :: (TI, oTI) :: (TO, oTO) :: (i1, o1) :: (it, oI) :: nw) := by
  obtain ⟨a1, a2, a3, a4, off⟩ := Z
  refine H.upd [] (fun _ q => nomatch q) (fun p hp => ?_) hs ho
  simp only [List.mem_cons] at hp
  rcases hp with rfl | rfl | rfl | rfl | hp
  · exact Nat.ne_of_lt (by omega)
  · exact Nat.ne_of_lt (by omega)
  · exact Nat.ne_of_lt (by omega)
  · exact Nat.ne_of_lt (by omega)
  · exact (off p hp).1
theorem At.Tset {z TI TO i1 it : Addr} {h h' : Heap} {oz oTI oTO o1 oI oTO' : Obj} (Z : Zap z TI TO i1 it nw) (H : At g L h l ((z, oz) :: (TI, oTI) :: (TO, oTO) :: (i1, o1) :: (it, oI) :: nw)) (hs : Heap.SameBut TO h h') (ho : h'.get? TO = some oTO') :
    At g L h' l ((z, oz) :: (TI, oTI) :: (TO, oTO') :: (i1, o1) :: (it, oI) :: nw) := by
  obtain ⟨a1, a2, a3, a4, off⟩ := Z
  refine H.upd [(z, oz), (TI, oTI)] (fun p hp => ?_) (fun p hp => ?_) hs ho
  · simp only [List.mem_cons, List.not_mem_nil, or_false] at hp
    rcases hp with rfl | rfl
    · exact Nat.ne_of_gt (by omega)
    · exact Nat.ne_of_lt (by omega)
  · simp only [List.mem_cons] at hp
    rcases hp with rfl | rfl | hp
    · exact Nat.ne_of_lt (by omega)
    · exact Nat.ne_of_lt (by omega)
    · exact (off p hp).2.2.1
theorem At.iset {z TI TO i1 it : Addr} {h h' : Heap} {oz oTI oTO o1 oI o1' : Obj} (Z : Zap z TI TO i1 it nw) (H : At g L h l ((z, oz) :: (TI, oTI) :: (TO, oTO) :: (i1, o1) :: (it, oI) :: nw)) (hs : Heap.SameBut i1 h h') (ho : h'.get? i1 = some o1') :
    At g L h' l ((z, oz) :: (TI, oTI) :: (TO, oTO) :: (i1, o1') :: (it, oI) :: nw) := by
  obtain ⟨a1, a2, a3, a4, off⟩ := Z
  refine H.upd [(z, oz), (TI, oTI), (TO, oTO)] (fun p hp => ?_) (fun p hp => ?_) hs ho
  · simp only [List.mem_cons, List.not_mem_nil, or_false] at hp
    rcases hp with rfl | rfl | rfl
    · exact Nat.ne_of_gt (by omega)
    · exact Nat.ne_of_gt (by omega)
    · exact Nat.ne_of_gt (by omega)
  · simp only [List.mem_cons] at hp
    rcases hp with rfl | hp
    · exact Nat.ne_of_lt (by omega)
    · exact (off p hp).2.2.2.1
theorem At.kext {z TI TO i1 it : Addr} {h h' : Heap} {oz oTI oTO o1 oI oI' : Obj} (Z : Zap z TI TO i1 it nw) (H : At g L h l ((z, oz) :: (TI, oTI) :: (TO, oTO) :: (i1, o1) :: (it, oI) :: nw)) (hs : Heap.ExtBut it h h') (ho : h'.get? it = some oI') :
    At g L h' l ((z, oz) :: (TI, oTI) :: (TO, oTO) :: (i1, o1) :: (it, oI') :: nw) := by
  obtain ⟨a1, a2, a3, a4, off⟩ := Z
  refine H.extd [(z, oz), (TI, oTI), (TO, oTO), (i1, o1)] (fun p hp => ?_) (fun p hp => (off p hp).2.2.2.2) hs ho
  simp only [List.mem_cons, List.not_mem_nil, or_false] at hp
  rcases hp with rfl | rfl | rfl | rfl
  · exact Nat.ne_of_gt (by omega)
  · exact Nat.ne_of_gt (by omega)
  · exact Nat.ne_of_gt (by omega)
  · exact Nat.ne_of_gt (by omega)

theorem zipN_item {Q : Option Value → Shared → Prop} {c : Str} (C : Cx w A L g dd uu) (S : Src w base d ks ep) (hb : ∀ p ∈ base, p ∈ nw) (Z : Zap z TI TO i1 it nw)
    (H : At g L s.heap l ((z, zipO .none TI TO) :: (TI, prO (.ref i1) (.ref it)) :: (TO, prO p q) :: (i1, riObj x left step) :: (it, oI) :: nw)) (k : KIt oI d ks ep (c :: rem)) (hl : 0 < left)
    (h : ∀ T h' t u tk oI', KIt oI' d ks ep rem → At g L h' l ((T, prO (.int x t) (.str c u)) :: (z, zipO (rawInt T) TI TO) :: (TI, prO (.ref i1) (.ref it)) :: (TO, prO (.int x t) (.str c u)) :: (i1, riObj (x + step) (left - 1) step) :: (it, oI') :: nw) →
      z < T → (∀ p ∈ nw, p.1 < T) → s.heap.objs.size ≤ T → Q (some (.ref T)) { s with heap := h', toks := tk }) :
    wpAny (MM w) A (pyNext (.ref z)) Q E s := by
  have hT : s.TypeIs (.ref z) "zip" := ⟨_, H.get (.head _), rfl⟩
  unfold pyNext
  refine wpAny_bind (wpAny_attempt (wpAny_callSpecial?_slot (name := Str.ofString "__next__") hT PySem.F.slot_zip_next
    (wpAny_call_entry PySem.F.slot_zip_next hT PySem.F.entry_zip_next ?_ (PySem.F.args_zip_next_1 _))))
  have hz := H.get (.head _)
  have hTI := H.get (.tail _ (.head _))
  show wpAny _ _ (field (.ref z) 2 >>= _) _ _ _
  refine wpAny_bind (wpAny_field hz rfl (x := .bool false) rfl ?_)
  show wpAny _ _ (field (.ref z) 3 >>= _) _ _ _
  refine wpAny_bind (wpAny_field hz rfl (x := .ref TI) rfl ?_)
  refine wpAny_bind (wpAny_seqItems hTI rfl ?_)
  show wpAny _ _ (Builtin.SmallTypes.ownedTupleIsFree (.ref z) >>= _) _ _ _
  refine wpAny_bind ?_
  unfold Builtin.SmallTypes.ownedTupleIsFree
  refine wpAny_bind (wpAny_field hz rfl (x := .none) rfl (wpAny_pure ?_))
  simp only [if_true]
  refine wpAny_bind (wpAny_rule ?_)
  refine wpAny_bind (wpAny_field hz rfl (x := .ref TO) rfl ?_)
  refine wpAny_bind (wpAny_setField_rec hz (by simp) fun h₁ hz₁ hs₁ => ?_)
  have H1 : At g L h₁ l ((z, zipO .ellipsis TI TO) :: (TI, prO (.ref i1) (.ref it)) :: (TO, prO p q) :: (i1, riObj x left step) :: (it, oI) :: nw) := H.zset Z hs₁ hz₁
  refine wpAny_bind ?_
  simp only [List.zipIdx_cons, List.zipIdx_nil, List.forIn_cons, List.forIn_nil]
  refine wpAny_bind (wpAny_bind (wpAny_onRaise ?_))
  show wpAny _ _ (Builtin.SmallTypes.nextOf (.ref i1) >>= _) _ _ _
  refine wpAny_bind (ofR_item (H1.get (.tail _ (.tail _ (.tail _ (.head _))))) hl fun h₂ h1₂ hs₂ => wpAny_pure ?_)
  have H2 := H1.iset Z hs₂ h1₂
  refine wpAny_bind (wpAny_seqItems (H2.get (.tail _ (.tail _ (.head _)))) rfl ?_)
  refine wpAny_bind (wpAny_updateSeq_pair (H2.get (.tail _ (.tail _ (.head _)))) fun h₃ hTO₃ hs₃ => ?_)
  have H3 : At g L h₃ l ((z, zipO .ellipsis TI TO) :: (TI, prO (.ref i1) (.ref it)) :: (TO, prO (.int x s.toks) q) :: (i1, riObj (x + step) (left - 1) step) :: (it, oI) :: nw) := H2.Tset Z hs₃ hTO₃
  refine wpAny_bind (wpAny_letGo (wpAny_pure ?_))
  refine wpAny_bind (wpAny_bind (wpAny_onRaise ?_))
  show wpAny _ _ (Builtin.SmallTypes.nextOf (.ref it) >>= _) _ _ _
  obtain ⟨kvs, hD, hk⟩ := S.at C H3 fun p hp => .tail _ (.tail _ (.tail _ (.tail _ (.tail _ (hb p hp)))))
  refine wpAny_bind (ofK_item k (H3.get (.tail _ (.tail _ (.tail _ (.tail _ (.head _)))))) hD hk fun tt h₄ oI' ho₄ k' hs₄ => wpAny_pure ?_)
  have H4 := H3.kext Z hs₄.extBut ho₄
  refine wpAny_bind (wpAny_seqItems (H4.get (.tail _ (.tail _ (.head _)))) rfl ?_)
  refine wpAny_bind (wpAny_updateSeq_pair (H4.get (.tail _ (.tail _ (.head _)))) fun h₅ hTO₅ hs₅ => ?_)
  have H5 : At g L h₅ l ((z, zipO .ellipsis TI TO) :: (TI, prO (.ref i1) (.ref it)) :: (TO, prO (.int x s.toks) (.str c tt)) :: (i1, riObj (x + step) (left - 1) step) :: (it, oI') :: nw) := H4.Tset Z hs₅ hTO₅
  refine wpAny_bind (wpAny_letGo (wpAny_pure (wpAny_pure ?_)))
  refine wpAny_bind (wpAny_seqItems (H5.get (.tail _ (.tail _ (.head _)))) rfl ?_)
  refine wpAny_bind (wpAny_newTuple ?_)
  have H6 := H5.push { cls := .type "tuple", data := .seq #[.int x s.toks, .str c tt] }
  show wpAny _ _ (Builtin.SmallTypes.ownedTupleHandOut (.ref z) (.ref h₅.objs.size) >>= _) _ _ _
  refine wpAny_bind ?_
  unfold Builtin.SmallTypes.ownedTupleHandOut
  have lt5 := H5.lt
  have hzl : z < h₅.objs.size := lt5 _ (.head _)
  have ZT : ∀ p ∈ [(h₅.objs.size, ({ cls := .type "tuple", data := .seq #[.int x s.toks, .str c tt] } : Obj))], p.1 ≠ z := fun p hp => by
    rw [List.mem_singleton.mp hp]
    exact Nat.ne_of_gt hzl
  have Zr : ∀ p ∈ (TI, prO (.ref i1) (.ref it)) :: (TO, prO (.int x s.toks) (.str c tt)) :: (i1, riObj (x + step) (left - 1) step) :: (it, oI') :: nw, p.1 ≠ z := fun p hp => by
    obtain ⟨a1, a2, a3, a4, off⟩ := Z
    simp only [List.mem_cons] at hp
    rcases hp with rfl | rfl | rfl | rfl | hp
    · exact Nat.ne_of_lt (by omega)
    · exact Nat.ne_of_lt (by omega)
    · exact Nat.ne_of_lt (by omega)
    · exact Nat.ne_of_lt (by omega)
    · exact (off p hp).1
  refine wpAny_bind (wpAny_setField_rec (H6.get (.tail _ (.head _))) (by simp) fun h₇ hz₇ hs₇ => ?_)
  have H7 := At.upd [_] H6 ZT Zr hs₇ hz₇
  refine wpAny_setField_rec hz₇ (by simp) fun h₈ hz₈ hs₈ => ?_
  have H8 := At.upd [_] H7 ZT Zr hs₈ hz₈
  have hsz : s.heap.objs.size ≤ h₅.objs.size := by rw [hs₅.1, hs₄.1, hs₃.1, hs₂.1, hs₁.1]; exact Nat.le_refl _
  refine wpAny_pure ⟨_, rfl, wpAny_pure (h h₅.objs.size h₈ _ _ _ oI' k' H8 hzl (fun p hp => lt5 p (.tail _ (.tail _ (.tail _ (.tail _ (.tail _ hp)))))) hsz)⟩

theorem zipN_end {Q : Option Value → Shared → Prop} (C : Cx w A L g dd uu) (S : Src w base d ks ep) (hb : ∀ p ∈ base, p ∈ nw) (Z : Zap z TI TO i1 it nw)
    (H : At g L s.heap l ((z, zipO .none TI TO) :: (TI, prO (.ref i1) (.ref it)) :: (TO, prO p q) :: (i1, riObj x left step) :: (it, oI) :: nw)) (k : KIt oI d ks ep rem) (hl : left ≤ 0 ∨ rem = [])
    (h : ∀ h' tk oI', KIt oI' d ks ep rem → At g L h' l ((it, oI') :: nw) → Q none { s with heap := h', toks := tk }) :
    wpAny (MM w) A (pyNext (.ref z)) Q E s := by
  have hh := C.handled
  have hT : s.TypeIs (.ref z) "zip" := ⟨_, H.get (.head _), rfl⟩
  unfold pyNext
  refine wpAny_bind (wpAny_attempt (wpAny_callSpecial?_slot (name := Str.ofString "__next__") hT PySem.F.slot_zip_next
    (wpAny_call_entry PySem.F.slot_zip_next hT PySem.F.entry_zip_next ?_ (PySem.F.args_zip_next_1 _))))
  have hz := H.get (.head _)
  have hTI := H.get (.tail _ (.head _))
  show wpAny _ _ (field (.ref z) 2 >>= _) _ _ _
  refine wpAny_bind (wpAny_field hz rfl (x := .bool false) rfl ?_)
  show wpAny _ _ (field (.ref z) 3 >>= _) _ _ _
  refine wpAny_bind (wpAny_field hz rfl (x := .ref TI) rfl ?_)
  refine wpAny_bind (wpAny_seqItems hTI rfl ?_)
  show wpAny _ _ (Builtin.SmallTypes.ownedTupleIsFree (.ref z) >>= _) _ _ _
  refine wpAny_bind ?_
  unfold Builtin.SmallTypes.ownedTupleIsFree
  refine wpAny_bind (wpAny_field hz rfl (x := .none) rfl (wpAny_pure ?_))
  simp only [if_true]
  refine wpAny_bind (wpAny_rule ?_)
  refine wpAny_bind (wpAny_field hz rfl (x := .ref TO) rfl ?_)
  refine wpAny_bind (wpAny_setField_rec hz (by simp) fun h₁ hz₁ hs₁ => ?_)
  have H1 : At g L h₁ l ((z, zipO .ellipsis TI TO) :: (TI, prO (.ref i1) (.ref it)) :: (TO, prO p q) :: (i1, riObj x left step) :: (it, oI) :: nw) := H.zset Z hs₁ hz₁
  refine wpAny_bind ?_
  simp only [List.zipIdx_cons, List.zipIdx_nil, List.forIn_cons, List.forIn_nil]
  refine wpAny_bind (wpAny_bind (wpAny_onRaise ?_))
  show wpAny _ _ (Builtin.SmallTypes.nextOf (.ref i1) >>= _) _ _ _
  by_cases hl0 : left ≤ 0
  · refine wpAny_bind (ofR_end hh (H1.get (.tail _ (.tail _ (.tail _ (.head _))))) hl0 fun h₂ e kp he => ?_)
    have H2 := H1.keeps kp
    refine wpAny_setField_rec (H2.get (.head _)) (by simp) fun h₃ hz₃ hs₃ => ?_
    have H3 := H2.zset Z hs₃ hz₃
    obtain ⟨oe, hoe, hce⟩ := he
    have hez : e ≠ z := fun x => by
      have := H2.get (.head _)
      rw [← x, hoe] at this
      cases this
      simp at hce
    refine wpAny_bind (wpAny_isInstance (T := "StopIteration") (b := true) ⟨oe, hs₃.extBut _ _ hez hoe, hce⟩ isSubtype_stop ?_)
    exact wpAny_pure (h _ _ oI k (H3.new fun p hp => .tail _ (.tail _ (.tail _ (.tail _ hp)))))
  · have hre : rem = [] := hl.resolve_left hl0
    subst hre
    refine wpAny_bind (ofR_item (H1.get (.tail _ (.tail _ (.tail _ (.head _))))) (by omega) fun h₂ h1₂ hs₂ => wpAny_pure ?_)
    have H2 := H1.iset Z hs₂ h1₂
    refine wpAny_bind (wpAny_seqItems (H2.get (.tail _ (.tail _ (.head _)))) rfl ?_)
    refine wpAny_bind (wpAny_updateSeq_pair (H2.get (.tail _ (.tail _ (.head _)))) fun h₃ hTO₃ hs₃ => ?_)
    have H3 : At g L h₃ l ((z, zipO .ellipsis TI TO) :: (TI, prO (.ref i1) (.ref it)) :: (TO, prO (.int x s.toks) q) :: (i1, riObj (x + step) (left - 1) step) :: (it, oI) :: nw) := H2.Tset Z hs₃ hTO₃
    refine wpAny_bind (wpAny_letGo (wpAny_pure ?_))
    refine wpAny_bind (wpAny_bind (wpAny_onRaise ?_))
    show wpAny _ _ (Builtin.SmallTypes.nextOf (.ref it) >>= _) _ _ _
    obtain ⟨kvs, hD, hk⟩ := S.at C H3 fun p hp => .tail _ (.tail _ (.tail _ (.tail _ (.tail _ (hb p hp)))))
    refine wpAny_bind (ofK_end hh k (H3.get (.tail _ (.tail _ (.tail _ (.tail _ (.head _)))))) hD hk fun h₄ e oI' hs₄ ho₄ k' he => ?_)
    have H4 := H3.kext Z hs₄ ho₄
    refine wpAny_setField_rec (H4.get (.head _)) (by simp) fun h₅ hz₅ hs₅ => ?_
    have H5 := H4.zset Z hs₅ hz₅
    obtain ⟨oe, hoe, hce⟩ := he
    have hez : e ≠ z := fun x => by
      have := H4.get (.head _)
      rw [← x, hoe] at this
      cases this
      simp at hce
    refine wpAny_bind (wpAny_isInstance (T := "StopIteration") (b := true) ⟨oe, hs₅.extBut _ _ hez hoe, hce⟩ isSubtype_stop ?_)
    exact wpAny_pure (h _ _ oI' k' (H5.new fun p hp => .tail _ (.tail _ (.tail _ (.tail _ hp)))))

/-- the tuple is let go -/
theorem zipGo {elts : List PySem.Expr} {n : Nat} {pos : Pos} {T : Addr} {Q : Unit → Shared → Prop} {o : Obj} (Z : Zap z TI TO i1 it nw) (hzT : z < T)
    (H : At g L s.heap l ((T, o) :: (z, zipO (rawInt T) TI TO) :: (TI, prO (.ref i1) (.ref it)) :: (TO, prO p q) :: (i1, riObj x left step) :: (it, oI) :: nw))
    (h : ∀ h', At g L h' l ((T, o) :: (z, zipO .none TI TO) :: (TI, prO (.ref i1) (.ref it)) :: (TO, prO p q) :: (i1, riObj x left step) :: (it, oI) :: nw) → Q () { s with heap := h' }) :
    wpAny (MM w) A (letOwnedTupleGo (.Tuple elts n pos) (.ref z) (.ref T)) Q E s := by
  refine wpAny_letOwnedTupleGo_zip (H.get (.tail _ (.head _))) fun h' hz' hs' => h h' (At.upd [_] H (fun p hp => ?_) (fun p hp => ?_) hs' hz')
  · rw [List.mem_singleton.mp hp]
    exact Nat.ne_of_gt hzT
  · obtain ⟨a1, a2, a3, a4, off⟩ := Z
    simp only [List.mem_cons] at hp
    rcases hp with rfl | rfl | rfl | rfl | hp
    · exact Nat.ne_of_lt (by omega)
    · exact Nat.ne_of_lt (by omega)
    · exact Nat.ne_of_lt (by omega)
    · exact Nat.ne_of_lt (by omega)
    · exact (off p hp).1
end
end Mine
end
section
open PySem PySem.W PyProof.Rows PySem.Calls PyProof.Rows.LCg
namespace Mine
theorem sort_plain_rev (a : Addr) : Builtin.«list.sort» ⟨[.ref a], []⟩ = Builtin.«list.sort» ⟨[.ref a], [(Str.ofString "reverse", .bool false)]⟩ := by
  rw [list_sort_plain, list_sort_rev]
  rfl

theorem zip_reverse (vs : List Value) : (vs.toArray.zip vs.toArray).reverse = (vs.reverse.toArray.zip vs.reverse.toArray) := by
  apply Array.toList_inj.mp
  have z : ∀ l : List Value, l.zip l = l.map fun x => (x, x) := fun l => by
    induction l with
    | nil => rfl
    | cons a l ih => simp [ih]
  rw [Array.toList_reverse, Array.toList_zip, Array.toList_zip, z, z, List.map_reverse]

section
variable {w : World} {A : Around} {E : Value → Shared → Prop} {s : Shared} {g : Heap} {L a : Addr} {l : List (Str × Value)} {rest : List (Addr × Obj)} {vs : List Value} {n : Nat} {b : Bool} {kf : Value → Int}

/-- each of vs is a tuple of the ledger whose first place holds its key -/
def TupsAt (rest : List (Addr × Obj)) (kf : Value → Int) (vs : List Value) : Prop := ∀ v ∈ vs, ∃ x t r, v = .ref x ∧ (x, tupOf (.int (kf v) t :: r)) ∈ rest

theorem TupsAt.kat {h : Heap} (H : At g L h l rest) : ∀ {vs : List Value}, TupsAt rest kf vs → ∃ fs, KatTups h vs fs ∧ fs.length = vs.length ∧ ∀ v ∈ fs, ∃ i t, v = .int i t
  | [], _ => ⟨[], trivial, rfl, fun _ h => nomatch h⟩
  | v :: vs, ht => by
    obtain ⟨x, t, r, rfl, hm⟩ := ht v (.head _)
    obtain ⟨fs, k, hl, hi⟩ := TupsAt.kat H (vs := vs) fun v hv => ht v (.tail _ hv)
    refine ⟨.int (kf (.ref x)) t :: fs, KatTups.cons (H.get hm) rfl rfl (by simp) k, by simp [hl], fun v hv => ?_⟩
    rcases List.mem_cons.mp hv with rfl | hv
    · exact ⟨_, _, rfl⟩
    · exact hi v hv

theorem tupLt {x y : Value} {Q : Bool → Shared → Prop} (H : At g L s.heap l rest) (ht : TupsAt rest kf vs) (hx : x ∈ vs) (hy : y ∈ vs) (hne : kf x ≠ kf y) (h : Q (decide (kf x < kf y)) s) : wpAny (MM w) A (keyLt' (tuples' true) x y) Q E s := by
  obtain ⟨a, t, r, rfl, ma⟩ := ht x hx
  obtain ⟨b, u, q, rfl, mb⟩ := ht y hy
  refine kat_lt (H.get ma) rfl (H.get mb) rfl ?_
  show KatLex _ _ _ _ _ _ ((Value.int (kf (.ref a)) t, Value.int (kf (.ref b)) u) :: r.zip q) 0 s
  refine kat_cons (wpAny_eqBool_int ?_)
  have hb : (kf (.ref a) == kf (.ref b)) = false := by simpa using hne
  rw [hb]
  refine kat_no ?_
  exact oneLt_int h

theorem tupSort {P : PySem.Fin → Shared → Prop} (H : At g L s.heap l ((a, listOf vs.toArray n) :: rest)) (hne : ∀ p ∈ rest, p.1 ≠ a) (ht : TupsAt rest kf vs) (hnd : (vs.map kf).Nodup) (h2 : 2 ≤ vs.length) (h64 : vs.length < 64)
    (h : ∀ (h' : Heap) (out : List Value) (c : Nat), out.Perm vs → out.Pairwise (fun x y => if b = true then kf y < kf x else kf x < kf y) → At g L h' l ((a, listOf out.toArray c) :: rest) → P (.done (.ret .none)) { s with heap := h' }) :
    wpAny (MM w) A (Builtin.«list.sort» ⟨[.ref a], [(Str.ofString "reverse", .bool b)]⟩) P E s := by
  have ho := H.get (.head _)
  have s1 := Heap.SameBut.update s.heap a (Obj.mapSeq fun _ => (#[] : Array Value))
  obtain ⟨e1, ho1⟩ : ∃ e1, (s.heap.update a (Obj.mapSeq fun _ => (#[] : Array Value))).get? a = some (seqObj "list" #[] e1) := ⟨_, get?_update_seq ho fun _ => #[]⟩
  have H1 : At g L (s.heap.update a (Obj.mapSeq fun _ => (#[] : Array Value))) l ((a, seqObj "list" #[] e1) :: rest) := H.same hne s1 ho1
  have H3 := (H1.push (seqObj "tuple" vs.toArray 0)).push (seqObj "list" #[] 0)
  have H4 : At g L (((s.heap.update a (Obj.mapSeq fun _ => (#[] : Array Value))).push (seqObj "tuple" vs.toArray 0)).push (seqObj "list" #[] 0)) l ((a, seqObj "list" #[] e1) :: rest) := H3.new fun p hp => .tail _ (.tail _ hp)
  rw [list_sort_rev]
  refine wpAny_bind (listItems_at ho rfl ?_)
  refine wpAny_bind (listUpdate_at ho rfl ?_ (by rw [List.size_toArray, sizeLine_eq]; omega) (Nat.zero_le _))
  refine wpAny_bind (seqEpoch_at ho1 rfl ?_)
  refine wpAny_bind (wpAny_newTuple ?_ (by show vs.length ≤ _; rw [sizeLine_eq]; omega))
  refine wpAny_bind (wpAny_newList ?_ (Nat.zero_le _))
  refine wpAny_holding ?_
  show wpAny (MM w) A _ P E { s with heap := ((s.heap.update a (Obj.mapSeq fun _ => (#[] : Array Value))).push (seqObj "tuple" vs.toArray 0)).push (seqObj "list" #[] 0) }
  generalize hh4 : ((s.heap.update a (Obj.mapSeq fun _ => (#[] : Array Value))).push (seqObj "tuple" vs.toArray 0)).push (seqObj "list" #[] 0) = h4 at H4 ⊢
  have step : ∀ t : Sem PySem.Fin, wpAny (MM w) A t P E { s with heap := h4 } → wpAny (MM w) A (if b = true then (do let _ ← rule "list.sort.reverse"; t) else t) P E { s with heap := h4 } := by
    intro t ht
    split
    · exact wpAny_bind (wpAny_rule ht)
    · exact ht
  refine step _ ?_
  have hn2 : ¬ vs.toArray.size < 2 := by rw [List.size_toArray]; omega
  rw [if_neg hn2, if_neg hn2]
  obtain ⟨fs, kt, hfl, hfi⟩ := TupsAt.kat (kf := kf) (H4.new fun p hp => .tail _ hp) ht
  refine wpAny_bind (kat_kind (T := .type "int") kt (by omega) (fun v hv => ?_) rfl ?_)
  · obtain ⟨i, t, rfl⟩ := hfi v hv
    exact .now
  have est : (if b = true then (vs.toArray.zip vs.toArray).reverse else vs.toArray.zip vs.toArray) = (katRev b vs).toArray.zip (katRev b vs).toArray := by
    unfold katRev
    split
    · exact zip_reverse vs
    · rfl
  rw [est]
  have hlen : (katRev b vs).length = vs.length := by unfold katRev; split <;> simp
  have hperm : (katRev b vs).Perm vs := by
    unfold katRev
    split
    · exact List.reverse_perm _
    · exact .refl _
  have hmem : ∀ i, i < (katRev b vs).length → (katRev b vs).getD i .none ∈ vs := fun i hi => by
    have e : (katRev b vs).getD i .none = (katRev b vs)[i] := by simp [hi]
    rw [e]
    exact hperm.mem_iff.mp (List.getElem_mem hi)
  have hinj : ∀ i j, i < (katRev b vs).length → j < (katRev b vs).length → i ≠ j → kf ((katRev b vs).getD i .none) ≠ kf ((katRev b vs).getD j .none) := fun i j hi hj hij e => by
    have ei : (katRev b vs).getD i .none = (katRev b vs)[i] := by simp [hi]
    have ej : (katRev b vs).getD j .none = (katRev b vs)[j] := by simp [hj]
    have nd : ((katRev b vs).map kf).Nodup := (hperm.map kf).nodup_iff.mpr hnd
    have h1 : ((katRev b vs).map kf)[i]'(by simpa using hi) = ((katRev b vs).map kf)[j]'(by simpa using hj) := by
      simp only [List.getElem_map]
      rw [← ei, ← ej]
      exact e
    exact hij ((List.getElem_inj nd).mp h1)
  have key := sort_ok (f := fun i => kf ((katRev b vs).getD i .none)) (n := (katRev b vs).length) hinj (by omega)
  refine wpAny_bind (wpAny_mono (kat_run (Q := fun st' s' => ∃ p : Array Nat, arrOf st' = p.map (kas_item ((katRev b vs).toArray.zip (katRev b vs).toArray)) ∧ failedOf st' = none ∧ s' = { s with heap := h4 } ∧ Pm (katRev b vs).length p ∧ Asc (fun i => kf ((katRev b vs).getD i .none)) p (katRev b vs).length)
    (G := fun p s' => s' = { s with heap := h4 } ∧ Pm (katRev b vs).length p ∧ Asc (fun i => kf ((katRev b vs).getD i .none)) p (katRev b vs).length) rfl (by omega) (by omega) (fun p st' s' e1 e2 e3 e4 => ⟨p, e2, e3, e4⟩)
    (Ok.wp (fun i j C hi hj hij hC => ?_) (fun p hp => ⟨rfl, hp⟩) key)) ?_ fun _ _ e => e)
  rotate_left
  · rintro ⟨⟨⟩, st'⟩ s' ⟨p, e2, e3, rfl, hp, ha⟩
    have so := sorted_list (kf := kf) (d := Value.none) hp ha
    have ez := kat_snds rfl e2
    dsimp only
    refine wpAny_bind (seqEpoch_at (H4.get (.head _)) rfl ?_)
    rw [ez]
    generalize hq : (List.map (fun i => (katRev b vs).getD i Value.none) p.toList) = q at so ⊢
    have hql : q.length = vs.length := so.1.length_eq.trans hlen
    have eo : (if b = true then q.toArray.reverse else q.toArray) = (katRev b q).toArray := by
      unfold katRev
      split
      · simp
      · rfl
    rw [eo]
    have hql2 : (katRev b q).length = vs.length := by unfold katRev; split <;> simp [hql]
    refine wpAny_bind (listUpdate_at (H4.get (.head _)) rfl ?_ (Nat.zero_le _) (by rw [List.size_toArray, hql2, sizeLine_eq]; omega))
    rw [e3]
    simp only [bne_self_eq_false, Bool.false_eq_true, if_false]
    have s2 := Heap.SameBut.update h4 a (Obj.mapSeq fun _ => (katRev b q).toArray)
    obtain ⟨c2, hc2⟩ : ∃ c2, (h4.update a (Obj.mapSeq fun _ => (katRev b q).toArray)).get? a = some (seqObj "list" (katRev b q).toArray c2) := ⟨_, get?_update_seq (H4.get (.head _)) fun _ => (katRev b q).toArray⟩
    refine wpAny_pure (h _ (katRev b q) c2 ?_ ?_ (H4.same hne s2 hc2))
    · have : (katRev b q).Perm q := by
        unfold katRev
        split
        · exact List.reverse_perm _
        · exact .refl _
      exact this.trans (so.1.trans hperm)
    · cases b with
      | false => simpa [katRev] using so.2
      | true =>
        show List.Pairwise (fun x y => if true = true then kf y < kf x else kf x < kf y) q.reverse
        rw [List.pairwise_reverse]
        simpa using so.2
  · refine tupLt (kf := kf) (vs := vs) (H4.new fun p hp => .tail _ hp) ht (hmem i hi) (hmem j hj) (hinj i j hi hj hij) hC

theorem sortA {Q : Value → Shared → Prop} (H : At g L s.heap l ((a, listOf vs.toArray n) :: rest)) (hne : ∀ p ∈ rest, p.1 ≠ a) (ht : TupsAt rest kf vs) (hnd : (vs.map kf).Nodup) (h2 : 2 ≤ vs.length) (h64 : vs.length < 64)
    (h : ∀ (h' : Heap) (out : List Value) (c : Nat), out.Perm vs → out.Pairwise (fun x y => kf x < kf y) → At g L h' l ((a, listOf out.toArray c) :: rest) → Q .none { s with heap := h' }) :
    wpAny (MM w) A (call (.builtin "list.sort") [.ref a]) Q E s := by
  refine wpAny_call_entry slot_list_sort ⟨_, H.get (.head _), rfl⟩ entry_list_sort ?_ (args_list_sort _)
  rw [sort_plain_rev]
  exact tupSort (b := false) H hne ht hnd h2 h64 fun h' out c q1 q2 q3 => ⟨_, rfl, h h' out c q1 (by simpa using q2) q3⟩
theorem sortRevA {Q : Value → Shared → Prop} (H : At g L s.heap l ((a, listOf vs.toArray n) :: rest)) (hne : ∀ p ∈ rest, p.1 ≠ a) (ht : TupsAt rest kf vs) (hnd : (vs.map kf).Nodup) (h2 : 2 ≤ vs.length) (h64 : vs.length < 64)
    (h : ∀ (h' : Heap) (out : List Value) (c : Nat), out.Perm vs → out.Pairwise (fun x y => kf y < kf x) → At g L h' l ((a, listOf out.toArray c) :: rest) → Q .none { s with heap := h' }) :
    wpAny (MM w) A (call (.builtin "list.sort") [.ref a] [(Str.ofString "reverse", .bool true)]) Q E s := by
  refine wpAny_call_entry_kw slot_list_sort ⟨_, H.get (.head _), rfl⟩ entry_list_sort ?_ (args_list_sort_rev _ _)
  exact tupSort (b := true) H hne ht hnd h2 h64 fun h' out c q1 q2 q3 => ⟨_, rfl, h h' out c q1 (by simpa using q2) q3⟩
theorem sortedA {Q : Value → Shared → Prop} (H : At g L s.heap l rest) (hm : (a, listOf vs.toArray n) ∈ rest) (ht : TupsAt rest kf vs) (hnd : (vs.map kf).Nodup) (h2 : 2 ≤ vs.length) (h64 : vs.length < 64)
    (h : ∀ (h' : Heap) (out : List Value) (D : Addr) (c : Nat), out.Perm vs → out.Pairwise (fun x y => kf x < kf y) → (∀ p ∈ rest, p.1 < D) → At g L h' l ((D, listOf out.toArray c) :: rest) → Q (.ref D) { s with heap := h' }) :
    wpAny (MM w) A (call (.builtin "sorted") [.ref a]) Q E s := by
  have hl : s.heap.IsList a vs.toArray := PySem.IsL.isList (n := n) (H.get hm)
  refine Calls.call_function_entry kind_sorted plain_sorted entry_sorted (args_sorted1 _) ?_
  unfold Builtin.«sorted»
  refine wpAny_bind (m := checkCount "sorted" 1 1 _) (wpAny_pure ?_)
  refine wpAny_bind (collect_list hl ?_ (by rw [sizeLine_eq]; omega))
  refine wpAny_bind (wpAny_newList ?_ (by rw [sizeLine_eq]; omega))
  have hsz : ((s.heap.push (seqObj "list" #[] 0)).update s.heap.objs.size (Obj.mapSeq (· ++ vs.toArray))).objs.size = s.heap.objs.size + 1 := by
    rw [Heap.size_update, size_push']
  have keep : ∀ b o, s.heap.get? b = some o → ((s.heap.push (seqObj "list" #[] 0)).update s.heap.objs.size (Obj.mapSeq (· ++ vs.toArray))).get? b = some o := fun b o q => by
    have hlt : b < s.heap.objs.size := Heap.lt_size q
    rw [Heap.get?_update_ne _ _ _ _ (Nat.ne_of_lt hlt), Heap.get?_push_ne _ _ _ (Nat.ne_of_lt hlt)]
    exact q
  have H2 := (H.keeps keep).push (seqObj "list" vs.toArray 0)
  have lt2 := H.lt
  generalize hX : (s.heap.push (seqObj "list" #[] 0)).update s.heap.objs.size (Obj.mapSeq (· ++ vs.toArray)) = X at H2 hsz
  have hD : ∀ p ∈ rest, p.1 < X.objs.size := fun p hp => by rw [hsz]; exact Nat.lt_succ_of_lt (lt2 p hp)
  show wpAny _ _ _ _ _ { s with heap := X.push (seqObj "list" vs.toArray 0) }
  refine wpAny_bind (wpAny_holding (wpAny_call_entry slot_list_sort ⟨_, H2.get (.head _), rfl⟩ entry_list_sort ?_ (args_list_sort _)))
  rw [sort_plain_rev]
  refine tupSort (b := false) (s := { s with heap := X.push (seqObj "list" vs.toArray 0) }) H2 (fun p hp => Nat.ne_of_lt (hD p hp)) ht hnd h2 h64 fun h' out c q1 q2 q3 => ⟨_, rfl, wpAny_pure ⟨_, rfl, h h' out _ c q1 (by simpa using q2) hD q3⟩⟩
end
end Mine
end
section
open PySem PySem.W PyProof.Rows PySem.Calls PyProof.Rows.LCg
namespace Mine
theorem bindL_mem {kindOf : Str → Option NameKind} : ∀ {binds : List (Str × Value)} {m : Str → Option Value} {p : Str × Value}, (binds.map (·.1)).Nodup → p ∈ binds → kindOf p.1 = some .local → bindL kindOf binds m p.1 = some p.2 := by
  have skip : ∀ (binds : List (Str × Value)) (m : Str → Option Value) (x : Str), x ∉ binds.map (·.1) → bindL kindOf binds m x = m x := by
    intro binds
    induction binds with
    | nil => intro m x _; rfl
    | cons q r ih =>
      intro m x hx
      obtain ⟨n, v⟩ := q
      simp only [List.map_cons, List.mem_cons, not_or] at hx
      show bindL kindOf r _ x = _
      rw [ih _ x hx.2]
      split
      · exact if_neg hx.1
      · rfl
  intro binds
  induction binds with
  | nil => intro m p _ h; cases h
  | cons q r ih =>
    intro m p hnd hp hk
    obtain ⟨n, v⟩ := q
    rw [List.map_cons, List.nodup_cons] at hnd
    show bindL kindOf r _ p.1 = _
    rcases List.mem_cons.mp hp with rfl | hp
    · rw [skip _ _ _ hnd.1, if_pos hk]
      exact if_pos rfl
    · exact ih hnd.2 hp hk
theorem bindC_mem {kindOf : Str → Option NameKind} : ∀ {binds : List (Str × Value)} {m : Str → Option Value} {p : Str × Value}, (binds.map (·.1)).Nodup → p ∈ binds → kindOf p.1 ≠ some .local → bindC kindOf binds m p.1 = some p.2 := by
  have skip : ∀ (binds : List (Str × Value)) (m : Str → Option Value) (x : Str), x ∉ binds.map (·.1) → bindC kindOf binds m x = m x := by
    intro binds
    induction binds with
    | nil => intro m x _; rfl
    | cons q r ih =>
      intro m x hx
      obtain ⟨n, v⟩ := q
      simp only [List.map_cons, List.mem_cons, not_or] at hx
      show bindC kindOf r _ x = _
      rw [ih _ x hx.2]
      split
      · rfl
      · exact if_neg hx.1
  intro binds
  induction binds with
  | nil => intro m p _ h; cases h
  | cons q r ih =>
    intro m p hnd hp hk
    obtain ⟨n, v⟩ := q
    rw [List.map_cons, List.nodup_cons] at hnd
    show bindC kindOf r _ p.1 = _
    rcases List.mem_cons.mp hp with rfl | hp
    · rw [skip _ _ _ hnd.1, if_neg hk]
      exact if_pos rfl
    · exact ih hnd.2 hp hk

section
variable {w : World} {A : Around} {E : Value → Shared → Prop} {s : Shared} {g : Heap} {L a : Addr} {l : List (Str × Value)} {news : List (Addr × Obj)} {x : Str} {v : Value} {pos : Pos} {d u : Nat}

/-- a def with one cell is called; the slots of the frames below may turn -/
theorem callC1 {name qual : Str} {params : Arguments} {body : List Stmt} {scope : Scope} {dV kV doc pm cdv ct oc : Value} {an od : Option Addr} {osl : Array (Option Value)} {f : Addr} {args : List Value} {kw : List (Str × Value)} {binds bl : List (Str × Value)} {bn : List Str} {envc : Env} {fs : List Addr} {Q : Value → Shared → Prop}
    (C : Cx w A L g d u) (CE : CxE w A L g envc fs) (H : At g L s.heap l news)
    (ho : (Mine.hd0.heap_1 w.params).lookup f = some ⟨oc, od, .func (fnOf name qual params body scope dV kV doc pm an cdv ct), osl⟩) (hcd : codeIn (Mine.hd0.heap_1 w.params) cdv qual = true) (hroom : d < recursionLimit)
    (hbind : BindsTo s (fnOf name qual params body scope dV kV doc pm an cdv ct) ⟨args, kw⟩ binds)
    (hcf : ∀ n, cellsFrom n scope.names [] = [(x, n)]) (hbn : binds.map (·.1) = bn) (hloc : ∀ y ∈ bn, scope.names.lookup y = some .local ∨ y = x) (hx : scope.names.lookup x = some .cell) (hnd : nodupB bn = true) (hxv : (x, v) ∈ binds) (hbl : ∀ p ∈ bl, p ∈ binds ∧ p.1 ≠ x)
    (h : ∀ g' L' h₁ tk oK, CxE w (A.deeper (envX qual scope L' f cdv [(x, L' + 1)])) L' g' (envX qual scope L' f cdv [(x, L' + 1)]) (L :: fs) → Cx w (A.deeper (envX qual scope L' f cdv [(x, L' + 1)])) L' g' (d + 1) (u + 3) → oK.data = .cell (some v) → At g' L' h₁ bl ((L' + 1, oK) :: news) → (∀ p ∈ news, p.1 < L') →
      wpAny (MM w) (A.deeper (envX qual scope L' f cdv [(x, L' + 1)])) (execs body (envX qual scope L' f cdv [(x, L' + 1)]))
        (fun fl s' => ∃ g₂ l' news', KtsTurn (L :: fs) g' g₂ ∧ At g₂ L' s'.heap l' news' ∧ (∀ gc, KtsTurn fs g gc → At gc L s'.heap l news' → Q (match fl with | .ret v => v | _ => .none) s')) (fun _ _ => False) { s with heap := h₁, toks := tk })
    (hco : scope.isCoroutine = false) (hgen : scope.isGenerator = false) (hk : scope.kind = .function) :
    wpAny (MM w) A (call (.ref f) args kw) Q E s := by
  obtain ⟨m, F, hm⟩ := H.fr
  obtain ⟨p, lo, mean, mg, mb, T⟩ := C.top
  obtain ⟨outer, A₀, base, hA, hf, hke, B, BO, hfs⟩ := CE
  subst hbn
  have nd := nodup_of_B hnd
  have N := H.nw
  obtain ⟨FG, BG, st, _⟩ := groundX (R := fun _ _ => True) B F N hA hf hke
  refine wpAny_call ?_
  refine codeAny_call_function (fd := fnX name qual params body scope [] dV kV doc pm an cdv ct) (Nat.lt_of_le_of_lt C.depth hroom) ((C.kin.keeps F.keep) _ _ ho) rfl hco hgen rfl (codeRec_of (C.kin.keeps F.keep) hcd) (hbind _ _ _ _ ?_)
  refine wpAny_newFunctionEnv_cells hk (fun y hy => ?_) fun env' he s' xx => ?_
  · rcases hloc y.1 (List.mem_map_of_mem hy) with q | q
    · exact .inl q
    · refine .inr ⟨by rw [q]; exact hx, ?_⟩
      rw [hcf, q]
      simp
  subst he
  refine ⟨(T.nolimit.keeps F.keep).keeps xx.toInCall.keep, codeAny_func ?_⟩
  obtain ⟨h₁, tk, rfl, _⟩ := xx.done
  have hk₁ := xx.toInCall.keep
  obtain ⟨cells, NC, Y⟩ := Cl.news (h₀ := s.heap) (Nat.le_refl _) fun n c hm => ⟨xx.cell n c (lookup_of_mem_nodup (cellsFrom_names scope.names 0 (s.heap.objs.size + 1) [] [] rfl ▸ (by rw [hcf]; simp)) hm), xx.above n c hm⟩
  have ee : envOfC qual scope s.heap.objs.size f cdv = envX qual scope s.heap.objs.size f cdv [(x, s.heap.objs.size + 1)] := by
    show envX qual scope s.heap.objs.size f cdv (cellsFrom (s.heap.objs.size + 1) scope.names []) = _
    rw [hcf]
  rw [hcf] at Y
  obtain ⟨oK, rfl, hoK⟩ := Y.one
  replace hoK : oK.data = .cell (some v) := hoK.trans (congrArg Data.cell (bindC_mem nd hxv fun q => by
    have q' : scope.names.lookup x = some .local := q
    rw [hx] at q'
    cases q'))
  generalize hg : hideAll s.heap (news.map (·.1)) = g' at FG BG st
  have hgs : ∀ b o, g'.get? b = some o → s.heap.get? b = some o := fun b o e => of_hideAll _ (hg ▸ e)
  have F' : Fr g' s.heap.objs.size h₁ (bindL (envOfC qual scope s.heap.objs.size f cdv).kindOf binds fun _ => none) := ⟨xx.toInCall.ns, fun b o e => hk₁ b o (hgs b o e), Nat.le_of_eq (hg ▸ hideAll_size _ _)⟩
  have N' : News g' s.heap.objs.size h₁ ((s.heap.objs.size + 1, oK) :: news) := fun q hq => by
    rcases List.mem_cons.mp hq with rfl | hq
    · refine ⟨(NC _ (.head _)).1, (NC _ (.head _)).2.1, ?_⟩
      cases z : g'.get? (s.heap.objs.size + 1) with
      | none => rfl
      | some o => have := hgs _ _ z; rw [(NC _ (.head _)).2.2] at this; cases this
    · exact ⟨hk₁ _ _ (N q hq).1, Nat.ne_of_lt (Heap.lt_size (N q hq).1), hg ▸ hideAll_none _ (List.mem_map_of_mem hq)⟩
  have HB : At g' s.heap.objs.size h₁ bl ((s.heap.objs.size + 1, oK) :: news) := by
    refine ⟨⟨_, F', fun p hp => bindL_mem nd (hbl p hp).1 ?_⟩, N'⟩
    rcases hloc p.1 (List.mem_map_of_mem (hbl p hp).1) with q | q
    · exact q
    · exact absurd q (hbl p hp).2
  have CE' : CxE w (A.deeper (envX qual scope s.heap.objs.size f cdv [(x, s.heap.objs.size + 1)])) s.heap.objs.size g' (envX qual scope s.heap.objs.size f cdv [(x, s.heap.objs.size + 1)]) (L :: fs) :=
    ⟨envc :: outer, A, base, (by show (A.frames.map _) = _; rw [hA]; rfl), rfl, hk, BG, BO, by rw [List.filterMap_cons, hf, hfs]⟩
  show wpAny (MM w) (A.deeper (envOfC qual scope s.heap.objs.size f cdv)) (execs body (envOfC qual scope s.heap.objs.size f cdv)) _ _ _
  rw [ee]
  refine wpAny_mono (h g' s.heap.objs.size h₁ tk oK CE' (Cx.of CE' (Nat.succ_le_succ C.depth) (Nat.add_le_add_right C.units 3) C.handled) hoK HB (fun p hp => Heap.lt_size (N p hp).1)) (fun fl s' q => ?_) (fun _ _ q => q.elim)
  obtain ⟨g₂, l', news', T2, H2, k⟩ := q
  obtain ⟨m', F2, _⟩ := H2.fr
  have hLg : g.get? L = none := kts_self F
  obtain ⟨Tc, Sc⟩ := kts_turn_at (h := g₂) (fs := fs) (g := g)
    (fun b hb => by
      obtain ⟨_, o, ho, _⟩ := B.frames.mem (hfs ▸ hb)
      exact ⟨o, ho⟩)
    (fun b o e nm => T2.other b o (FG.keep b o e) fun hm => by
      rcases List.mem_cons.mp hm with z | z
      · rw [z, hLg] at e; cases e
      · exact nm z)
    (fun b o e hm => T2.frame b o (FG.keep b o e) (.tail _ hm))
  have up : ∀ b o, g'.get? b = some o → ∃ sl, s'.heap.get? b = some { o with slots := sl } := fun b o e => by
    obtain ⟨sl, hs⟩ := T2.up e
    exact ⟨sl, F2.keep _ _ hs⟩
  have nsL : s'.heap.Ns L m := by
    obtain ⟨oL, es, ep, e1, e2, e3⟩ := FG.ns
    obtain ⟨sl, hs⟩ := up L oL e1
    exact ⟨_, es, ep, hs, e2, e3⟩
  have hLs : ∃ o, g₂.get? L = some o := by
    obtain ⟨oL, es, ep, e1, _⟩ := FG.ns
    obtain ⟨sl, hs⟩ := T2.up e1
    exact ⟨_, hs⟩
  have Hc : At (ktsHeap g₂ fs g) L s'.heap l news' := by
    refine ⟨⟨m, ⟨nsL, fun b o e => F2.keep b o (Sc b o e), by rw [Tc.size]; exact F.above⟩, hm⟩, fun p hp => ?_⟩
    have z := H2.nw p hp
    refine ⟨z.1, fun q => ?_, ?_⟩
    · obtain ⟨o, ho⟩ := hLs
      rw [← q, z.2.2] at ho; cases ho
    · cases e : (ktsHeap g₂ fs g).get? p.1 with
      | none => rfl
      | some o => have := Sc _ _ e; rw [z.2.2] at this; cases this
  have := k _ Tc Hc
  cases fl <;> exact this

theorem ldX {cn : Str} {cs : Scope} {ccd : Value} {cl : List (Str × Addr)} {c : Addr} {o : Obj} {Q : Value → Shared → Prop} (H : At g L s.heap l news) (hc : cl.lookup x = some c) (hm : (c, o) ∈ news) (hd : o.data = .cell (some v)) (h : Q v s)
    (hk : cs.kind = .function := by rfl) (hx : (envX cn cs L a ccd cl).kindOf x = some .cell := by rfl) (hb : (x == ("__debug__" : Str)) = false := by decide) :
    wpAny (MM w) A (eval (.Name x pos) (envX cn cs L a ccd cl)) Q E s := nameX_C H.nw hc hm hd h hk hx hb

/-- f gives back the key, wherever what it needs is laid -/
def KeyOk (w : World) (f : Addr) (need : List (Addr × Obj)) (kf : Str → Int) (ks : List Str) : Prop :=
  (∃ oc od fd sl, (f, (⟨oc, od, .func fd, sl⟩ : Obj)) ∈ need) ∧
  ∀ (A : Around) (E : Value → Shared → Prop) (s : Shared) (g : Heap) (L : Addr) (m : Str → Option Value) (news : List (Addr × Obj)) (d u : Nat) (Q : Value → Shared → Prop) (c : Str) (t : Tok),
    Cx w A L g d u → Fr g L s.heap m → News g L s.heap news → (∀ p ∈ need, p ∈ news) → d < 800 → u < 8000 → c ∈ ks → (∀ t' h' tk, Fr g L h' m → News g L h' news → Q (.int (kf c) t') { s with heap := h', toks := tk }) →
    wpAny (MM w) A (call (.ref f) [.str c t]) Q E s
theorem KeyOk.call {f : Addr} {need : List (Addr × Obj)} {kf : Str → Int} {ks : List Str} (K : KeyOk w f need kf ks) {Q : Value → Shared → Prop} {c : Str} {t : Tok} (C : Cx w A L g d u) (H : At g L s.heap l news) (hn : ∀ p ∈ need, p ∈ news) (hd : d < 800) (hu : u < 8000) (hc : c ∈ ks)
    (h : ∀ t' h' tk, At g L h' l news → Q (.int (kf c) t') { s with heap := h', toks := tk }) : wpAny (MM w) A (call (.ref f) [.str c t]) Q E s := by
  obtain ⟨m, F, hm⟩ := H.fr
  exact K.2 A E s g L m news d u Q c t C F H.nw hn hd hu hc fun t' h' tk F' N' => h t' h' tk ⟨⟨m, F', hm⟩, N'⟩
theorem KeyOk.fn {f : Addr} {need : List (Addr × Obj)} {kf : Str → Int} {ks : List Str} (K : KeyOk w f need kf ks) (H : At g L s.heap l news) (hn : ∀ p ∈ need, p ∈ news) : FnAt f s.heap := by
  obtain ⟨⟨oc, od, fd, sl, hm⟩, _⟩ := K
  exact FnAt.of H.nw (hn _ hm)
end
end Mine
end
section
open PySem PySem.W PyProof.Rows PySem.Calls PyProof.Rows.LCg
namespace Mine
theorem strs_of : ∀ {vs : List Value} {ks : List Str}, vs.length = ks.length → (∀ (j : Nat) (v : Value), vs[j]? = some v → ∃ (k : Str) (t : Tok), ks[j]? = some k ∧ v = Value.str k t) → StrsAre vs ks
  | [], [], _, _ => .nil
  | [], _ :: _, h, _ => by simp at h
  | _ :: _, [], h, _ => by simp at h
  | v :: vs, k :: ks, hl, h => by
    obtain ⟨k', t, e, rfl⟩ := h 0 v rfl
    cases e
    exact .cons k t (strs_of (by simpa using hl) fun j v hv => h (j + 1) v hv)

section
variable {w : World} {A : Around} {E : Value → Shared → Prop} {s : Shared} {g : Heap} {L : Addr} {l : List (Str × Value)} {news base need : List (Addr × Obj)} {d u : Nat} {dct f : Addr} {ks : List Str} {ep : Nat} {kf : Str → Int} {b : Bool}

theorem sortKeyA {kw : List (Str × Value)} {Q : Value → Shared → Prop} (C : Cx w A L g d u) (hsm : (dct == sysModules) = false) (S : Src w base dct ks ep) (H : At g L s.heap l news) (hb : ∀ p ∈ base, p ∈ news) (KO : KeyOk w f need kf ks) (hneed : ∀ p ∈ need, p ∈ news) (hd : d < 700) (hu : u < 7000) (hkl : ks.length < 64)
    (ha1 : argsOk "sorted" ⟨[.ref dct], kw⟩) (ha2 : ∀ x, argsOk "list.sort" ⟨[.ref x], kw⟩) (ht : ∀ x, Builtin.«list.sort» ⟨[.ref x], kw⟩ = ksk_tree x (.ref f) b)
    (h : ∀ (D : Addr) (h' : Heap) (tk : Nat) (out : List Value) (c : Nat) (os : List Str), StrsAre out os → os.Perm ks → os.Pairwise (fun x y => if b = true then kf y ≤ kf x else kf x ≤ kf y) → At g L h' l ((D, listOf out.toArray c) :: news) → (∀ p ∈ news, @LT.lt Nat _ p.1 D) → Q (.ref D) { s with heap := h', toks := tk }) :
    wpAny (MM w) A (call (.builtin "sorted") [.ref dct] kw) Q E s := by
  obtain ⟨kvs, hD, hk⟩ := S.at C H hb
  have hkl' : kvs.length = ks.length := by rw [← hk, List.length_map]
  refine call_function_entry_kw kind_sorted plain_sorted entry_sorted ha1 ?_
  unfold Builtin.«sorted»
  refine wpAny_bind (m := checkCount "sorted" 1 1 _) (wpAny_pure ?_)
  refine wpAny_bind (kdu_collect (A := A.in1) (kdl_dict (knd := SK w) (kvs := kvs) (ep := ep) hsm) C.handled hD (by rw [sizeLine_eq]; omega) fun h1 tk1 acc hk1 hacc => ?_)
  have hl : acc.toList.length = ks.length := by rw [Array.length_toList, hacc.1, hkl']
  have hst : StrsAre acc.toList ks := strs_of hl fun j v hv => by
    obtain ⟨k, x, e1, e2⟩ := hacc.2 j v (by rw [← Array.getElem?_toList]; exact hv)
    obtain ⟨t, rfl⟩ := Value.isStrOf_shape e2
    exact ⟨k, t, by rw [← hk, List.getElem?_map, e1]; rfl, rfl⟩
  refine wpAny_bind (wpAny_newList ?_ (by rw [hl, sizeLine_eq]; omega))
  have H1 := H.keeps hk1
  have H2 := H1.push (seqObj "list" acc.toList.toArray 0)
  have lt1 := H1.lt
  generalize acc.toList = vs at hl hst H2 ⊢
  obtain ⟨m, F2, hm⟩ := id H2.fr
  have z := H2.nw _ (.head _)
  refine wpAny_bind (wpAny_holding (wpAny_call_entry_kw slot_list_sort ⟨_, z.1, rfl⟩ entry_list_sort ?_ (ha2 _)))
  show wpAny (MM w) A.in1.in1 (Builtin.«list.sort» ⟨[.ref h1.objs.size], kw⟩) _ _ _
  rw [ht]
  refine ksk_sort (s := { s with heap := h1.push (seqObj "list" vs.toArray 0), toks := tk1 }) (kz := ks.map kf) (news := news) F2 (fun p hp => H2.nw p (.tail _ hp)) z.1 z.2.1 z.2.2 (fun p hp => Nat.ne_of_lt (lt1 p hp)) (by rw [List.length_map, hl]) (by omega) (fun i v k hv hkz h3 tk3 own F3 N3 => ?_) fun h4 tk4 out c F4 N4 ko => ⟨_, rfl, wpAny_pure ⟨_, rfl, ?_⟩⟩
  · obtain ⟨c, e1, e2⟩ : ∃ c t, ks[i]? = some c ∧ v = .str c t := by
      have : ∀ {vs : List Value} {ks : List Str}, StrsAre vs ks → ∀ {i : Nat} {v : Value}, vs[i]? = some v → ∃ c t, ks[i]? = some c ∧ v = .str c t := by
        intro vs ks hs
        induction hs with
        | nil => intro i v h; simp at h
        | cons y t _ ih =>
          intro i v h
          cases i with
          | zero => cases h; exact ⟨y, t, rfl, rfl⟩
          | succ i => exact ih h
      obtain ⟨c, t, e1, e2⟩ := this hst hv
      exact ⟨c, t, e1, e2⟩
    obtain ⟨e2, e3⟩ := e2
    subst e3
    rw [List.getElem?_map, e2] at hkz
    cases hkz
    exact KO.2 _ _ _ g L m (news ++ own) d (u + 2) _ c _ C.in1.in1 F3 N3 (fun p hp => List.mem_append_left _ (hneed p hp)) (by omega) (by omega) (List.mem_of_getElem? e2) fun t' h' tk' F' N' => ⟨h', tk', t', rfl, rfl, F', N'⟩
  · obtain ⟨ps, hp, ho, hs⟩ := ko
    have hrel : ∀ p, p ∈ (ks.map kf).zip vs → p.1 = kf (strOf p.2) ∧ p.2 ∈ vs := by
      rw [← hst.strs, List.map_map, List.zip_map_left]
      intro p hp
      obtain ⟨⟨x, y⟩, hq, rfl⟩ := List.mem_map.mp hp
      have h1 : x = y ∧ x ∈ vs := mem_zip_self hq
      refine ⟨?_, ?_⟩
      · show kf (strOf x) = kf (strOf y)
        rw [h1.1]
      · show y ∈ vs
        rw [← h1.1]
        exact h1.2
    have hI : StrsAre (ps.map Prod.snd) ((ps.map Prod.snd).map strOf) := strsAre_map _ fun v hv => by
      obtain ⟨p, hp', rfl⟩ := List.mem_map.mp hv
      exact hst.all _ (hrel p (hp.mem_iff.mp hp')).2
    have hP : ((ps.map Prod.snd).map strOf).Perm ks := by
      have h1 := (hp.map Prod.snd).map strOf
      rw [List.map_snd_zip (by rw [List.length_map]; omega), hst.strs] at h1
      exact h1
    have hO : ((ps.map Prod.snd).map strOf).Pairwise (fun x y => if b = true then kf y ≤ kf x else kf x ≤ kf y) := by
      rw [List.pairwise_map, List.pairwise_map]
      refine hs.imp_of_mem fun {p q} hp' hq' hr => ?_
      have hr' : if b then q.1 ≤ p.1 else p.1 ≤ q.1 := hr
      rw [(hrel p (hp.mem_iff.mp hp')).1, (hrel q (hp.mem_iff.mp hq')).1] at hr'
      exact hr'
    rw [← ho] at hI hP hO
    have eo : out = out.toList.toArray := by simp
    rw [eo] at N4
    exact h h1.objs.size h4 tk4 out.toList c _ hI hP hO ⟨⟨m, F4, hm⟩, N4⟩ fun p hp => lt1 p hp
end
theorem args_min_kd (a v z : Value) : argsOk "min" ⟨[a], [(Str.ofString "default", v), (Str.ofString "key", z)]⟩ := by unfold argsOk; kernel_rfl
section
variable {w : World} {A : Around} {E : Value → Shared → Prop} {s : Shared} {g : Heap} {L : Addr} {l : List (Str × Value)} {rest need : List (Addr × Obj)} {d u : Nat} {dct f it S : Addr} {ks : List Str} {ep : Nat} {kf : Str → Int} {sv : Value}

theorem minLoop {R : Result → Shared → Prop} (C : Cx w A L g d u) (hd : d < 700) (hu : u < 7000) (Sr : Src w rest dct ks ep) (KO : KeyOk w f need kf ks) (hneed : ∀ p ∈ need, p ∈ rest) (hriS : ∀ p ∈ rest, p.1 ≠ it ∧ p.1 ≠ S) (hiS : it ≠ S)
    (hR : ∀ cb tb h' tk', cb ∈ ks → (∀ c ∈ ks, kf cb ≤ kf c) → At g L h' l rest → R (.ok (.ret (.str cb tb))) { s with heap := h', toks := tk' }) :
    ∀ (rem seen : List Str) (h : Heap) (tk : Nat) (cb : Str) (t0 tb : Tok) (n : Nat) (oI : Obj), seen ++ rem = ks → cb ∈ seen → (∀ c ∈ seen, kf cb ≤ kf c) → KIt oI dct ks ep rem →
      At g L h l ((S, seqObj "list" #[.str cb t0, .int (kf cb) tb] n) :: (it, oI) :: rest) →
      codeAny (MM w) A (.builtin "min.loop" ⟨[.ref it, .ref f, .ref S], [(Str.ofString "default", sv)]⟩) R { s with heap := h, toks := tk } := by
  have hname : (toString "min" ++ toString ".loop" : String) = "min.loop" := by decide
  have C1 := C.in1
  intro rem
  induction rem with
  | nil =>
    intro seen h tk cb t0 tb n oI hse hcb hle k H
    obtain ⟨kvs, hD, hkv⟩ := Sr.at C H fun p hp => .tail _ (.tail _ hp)
    refine codeAny_builtin PySem.F.entry_min_loop ?_
    rw [Around.under_plainId PySem.F.plain_min_loop _]
    show wpAny _ A.in1 (seqItems? (.ref S) >>= _) _ _ _
    refine wpAny_bind (wpAny_seqItems (H.get (.head _)) rfl ?_)
    show wpAny _ A.in1 (tryCatch (pyNext (.ref it)) _ >>= _) _ _ _
    refine wpAny_bind (wpAny_tryCatch (nextK_end C1.handled k (H.get (.tail _ (.head _))) hD hkv fun h1 o1 he1 ho1 k1 => ?_))
    have H1 := At.extd [_] H (fun p hp => by rw [List.mem_singleton.mp hp]; exact Ne.symm hiS) (fun p hp => (hriS p hp).1) he1 ho1
    show wpAny _ A.in1 (updateSeq S (fun _ => #[]) >>= _) _ _ _
    refine wpAny_bind ?_
    refine wpAny_updateSeq (H1.get (.head _)) rfl (wpAny_bind (wpAny_letGo (wpAny_pure ?_)))
    have s1 := Heap.SameBut.update h1 S (Obj.mapSeq fun _ => (#[] : Array Value))
    obtain ⟨c2, hc2⟩ : ∃ c2, (h1.update S (Obj.mapSeq fun _ => (#[] : Array Value))).get? S = some (seqObj "list" #[] c2) := ⟨_, get?_update_seq (H1.get (.head _)) fun _ => #[]⟩
    have H2 := At.same H1 (fun p hp => by
      rcases List.mem_cons.mp hp with rfl | hp
      · exact hiS
      · exact (hriS p hp).2) s1 hc2
    rw [List.append_nil] at hse
    subst hse
    exact hR cb t0 _ _ hcb hle (H2.new fun p hp => .tail _ (.tail _ hp))
  | cons c r ih =>
    intro seen h tk cb t0 tb n oI hse hcb hle k H
    have hcks : c ∈ ks := by rw [← hse]; simp
    obtain ⟨kvs, hD, hkv⟩ := Sr.at C H fun p hp => .tail _ (.tail _ hp)
    refine codeAny_builtin PySem.F.entry_min_loop ?_
    rw [Around.under_plainId PySem.F.plain_min_loop _]
    show wpAny _ A.in1 (seqItems? (.ref S) >>= _) _ _ _
    refine wpAny_bind (wpAny_seqItems (H.get (.head _)) rfl ?_)
    show wpAny _ A.in1 (tryCatch (pyNext (.ref it)) _ >>= _) _ _ _
    refine wpAny_bind (wpAny_tryCatch (nextK_item k (H.get (.tail _ (.head _))) hD hkv fun t1 h1 o1 ho1 k1 hs1 => ?_))
    have H1 := At.upd [_] H (fun p hp => by rw [List.mem_singleton.mp hp]; exact Ne.symm hiS) (fun p hp => (hriS p hp).1) hs1 ho1
    show wpAny _ A.in1 (tryCatch (holding [.str c t1] (call (.ref f) [.str c t1])) _ >>= _) _ _ _
    refine wpAny_bind (wpAny_tryCatch (wpAny_holding (KO.call C1 H1 (fun p hp => .tail _ (.tail _ (hneed p hp))) (by omega) (by omega) hcks fun t2 h2 tk2 H2 => ?_)))
    show wpAny _ A.in1 (tryCatch (holding [.str c t1, .int (kf c) t2] (richCompare .Lt (.int (kf c) t2) (.int (kf cb) tb) >>= _)) _ >>= _) _ _ _
    refine wpAny_bind (wpAny_tryCatch (wpAny_holding (wpAny_bind (show wpAny (MM w) A.in1 (compareOp .Lt (.int (kf c) t2) (.int (kf cb) tb)) _ _ _ from lt_int ?_))))
    refine wpAny_bind (wpAny_holding (wpAny_truthy_bool ?_))
    refine wpAny_bind (wpAny_letGo (wpAny_pure ?_))
    by_cases hb : kf c < kf cb
    · have s1 := Heap.SameBut.update h2 S (Obj.mapSeq fun _ => #[.str c t1, .int (kf c) t2])
      obtain ⟨c2, hc2⟩ : ∃ c2, (h2.update S (Obj.mapSeq fun _ => #[.str c t1, .int (kf c) t2])).get? S = some (seqObj "list" #[.str c t1, .int (kf c) t2] c2) := ⟨_, get?_update_seq (H2.get (.head _)) fun _ => #[.str c t1, .int (kf c) t2]⟩
      simp only [hb, decide_true, if_true]
      refine wpAny_bind ?_
      refine wpAny_updateSeq (H2.get (.head _)) rfl (wpAny_bind (wpAny_letGo ?_))
      rw [hname]
      refine wpAny_pure ⟨plainId_quiet PySem.F.plain_min_loop _, ih (seen ++ [c]) _ _ c t1 t2 c2 o1 (by rw [← hse]; simp) (by simp) (fun c' hc' => ?_) k1 (At.same H2 (fun p hp => ?_) s1 hc2)⟩
      · rcases List.mem_append.mp hc' with q | q
        · have := hle c' q
          omega
        · rw [List.mem_singleton.mp q]; omega
      · rcases List.mem_cons.mp hp with rfl | hp
        · exact hiS
        · exact (hriS p hp).2
    · simp only [hb, decide_false, Bool.false_eq_true, if_false]
      refine wpAny_bind (wpAny_letGo ?_)
      rw [hname]
      refine wpAny_pure ⟨plainId_quiet PySem.F.plain_min_loop _, ih (seen ++ [c]) _ _ cb t0 tb n o1 (by rw [← hse]; simp) (List.mem_append_left _ hcb) (fun c' hc' => ?_) k1 H2⟩
      rcases List.mem_append.mp hc' with q | q
      · exact hle c' q
      · rw [List.mem_singleton.mp q]; omega

theorem minA {Q : Value → Shared → Prop} {oI : Obj} (C : Cx w A L g d u) (hd : d < 600) (hu : u < 6000) (Sr : Src w rest dct ks ep) (KO : KeyOk w f need kf ks) (hneed : ∀ p ∈ need, p ∈ rest) (hri : ∀ p ∈ rest, p.1 ≠ it) (hne : ks ≠ [])
    (H : At g L s.heap l ((it, oI) :: rest)) (k : KIt oI dct ks ep ks)
    (h : ∀ cb tb h' tk', cb ∈ ks → (∀ c ∈ ks, kf cb ≤ kf c) → At g L h' l rest → Q (.str cb tb) { s with heap := h', toks := tk' }) :
    wpAny (MM w) A (call (.builtin "min") [.ref it] [(Str.ofString "default", sv), (Str.ofString "key", .ref f)]) Q E s := by
  have hname : (toString "min" ++ toString ".loop" : String) = "min.loop" := by decide
  have C1 := C.in1
  refine kmk_tree PySem.F.kind_min PySem.F.plain_min PySem.F.entry_min (args_min_kd _ _ _) ?_
  show wpAny _ A.in1 (Builtin.Builtins.bindParams "min" ["key", "default"] 0 ⟨[], [(Str.ofString "default", sv), (Str.ofString "key", .ref f)]⟩ >>= _) _ _ s
  refine wpAny_bind (wpAny_of_eq (show Builtin.Builtins.bindParams "min" ["key", "default"] 0 ⟨[], [(Str.ofString "default", sv), (Str.ofString "key", .ref f)]⟩ = pure [some (.ref f), some sv] from rfl) ?_)
  refine wpAny_bind (wpAny_pure ?_)
  refine wpAny_bind (iterK k (H.get (.head _)) ?_)
  refine wpAny_bind (wpAny_newList ?_ (Nat.zero_le _))
  rw [hname]
  refine wpAny_pure ⟨plainId_quiet PySem.F.plain_min_loop _, ?_⟩
  obtain ⟨c, r, hks⟩ : ∃ c r, ks = c :: r := by
    cases ks with
    | nil => exact absurd rfl hne
    | cons c r => exact ⟨c, r, rfl⟩
  have k' : KIt oI dct ks ep (c :: r) := by rw [← hks]; exact k
  have H0 := H.push (seqObj "list" #[] 0)
  have lt0 := H.lt
  have hiS : it ≠ s.heap.objs.size := Nat.ne_of_lt (lt0 _ (.head _))
  have hriS : ∀ p ∈ rest, p.1 ≠ it ∧ p.1 ≠ s.heap.objs.size := fun p hp => ⟨hri p hp, Nat.ne_of_lt (lt0 p (.tail _ hp))⟩
  have offS : ∀ (o : Obj), ∀ p ∈ (it, o) :: rest, p.1 ≠ s.heap.objs.size := fun o p hp => by
    rcases List.mem_cons.mp hp with rfl | hp
    · exact hiS
    · exact (hriS p hp).2
  obtain ⟨kvs, hD, hkv⟩ := Sr.at C H0 fun p hp => .tail _ (.tail _ hp)
  refine codeAny_builtin PySem.F.entry_min_loop ?_
  rw [Around.under_plainId PySem.F.plain_min_loop _]
  show wpAny _ A.in1 (seqItems? (.ref _) >>= _) _ _ _
  refine wpAny_bind (wpAny_seqItems (H0.get (.head _)) rfl ?_)
  show wpAny _ A.in1 (tryCatch (pyNext (.ref it)) _ >>= _) _ _ _
  refine wpAny_bind (wpAny_tryCatch (nextK_item (c := c) (rem := r) k' (H0.get (.tail _ (.head _))) hD hkv fun t1 h1 o1 ho1 k1 hs1 => ?_))
  have H1 := At.upd [_] H0 (fun p hp => by rw [List.mem_singleton.mp hp]; exact Ne.symm hiS) (fun p hp => (hriS p hp).1) hs1 ho1
  show wpAny _ A.in1 (tryCatch (holding [.str c t1] (call (.ref f) [.str c t1])) _ >>= _) _ _ _
  refine wpAny_bind (wpAny_tryCatch (wpAny_holding (KO.call C1 H1 (fun p hp => .tail _ (.tail _ (hneed p hp))) (by omega) (by omega) (by rw [hks]; exact .head _) fun t2 h2 tk2 H2 => ?_)))
  have s1 := Heap.SameBut.update h2 s.heap.objs.size (Obj.mapSeq fun _ => #[.str c t1, .int (kf c) t2])
  obtain ⟨c2, hc2⟩ : ∃ c2, (h2.update s.heap.objs.size (Obj.mapSeq fun _ => #[.str c t1, .int (kf c) t2])).get? s.heap.objs.size = some (seqObj "list" #[.str c t1, .int (kf c) t2] c2) := ⟨_, get?_update_seq (H2.get (.head _)) fun _ => #[.str c t1, .int (kf c) t2]⟩
  show wpAny _ A.in1 (updateSeq s.heap.objs.size (fun _ => #[.str c t1, .int (kf c) t2]) >>= _) _ _ _
  refine wpAny_bind ?_
  refine wpAny_updateSeq (H2.get (.head _)) rfl ?_
  rw [hname]
  refine wpAny_pure ⟨plainId_quiet PySem.F.plain_min_loop _, minLoop C (by omega) (by omega) Sr KO hneed hriS hiS h r [c] _ _ c t1 t2 c2 o1 (by rw [hks]; rfl) (.head _) (fun c' hc' => by rw [List.mem_singleton.mp hc']; omega) k1 (At.same H2 (offS o1) s1 hc2)⟩
end
theorem args_max_kd (a v z : Value) : argsOk "max" ⟨[a], [(Str.ofString "default", v), (Str.ofString "key", z)]⟩ := by unfold argsOk; kernel_rfl
section
variable {w : World} {A : Around} {E : Value → Shared → Prop} {s : Shared} {g : Heap} {L : Addr} {l : List (Str × Value)} {rest need : List (Addr × Obj)} {d u : Nat} {dct f it S : Addr} {ks : List Str} {ep : Nat} {kf : Str → Int} {sv : Value}

theorem maxLoop {R : Result → Shared → Prop} (C : Cx w A L g d u) (hd : d < 700) (hu : u < 7000) (Sr : Src w rest dct ks ep) (KO : KeyOk w f need kf ks) (hneed : ∀ p ∈ need, p ∈ rest) (hriS : ∀ p ∈ rest, p.1 ≠ it ∧ p.1 ≠ S) (hiS : it ≠ S)
    (hR : ∀ cb tb h' tk', cb ∈ ks → (∀ c ∈ ks, kf c ≤ kf cb) → At g L h' l rest → R (.ok (.ret (.str cb tb))) { s with heap := h', toks := tk' }) :
    ∀ (rem seen : List Str) (h : Heap) (tk : Nat) (cb : Str) (t0 tb : Tok) (n : Nat) (oI : Obj), seen ++ rem = ks → cb ∈ seen → (∀ c ∈ seen, kf c ≤ kf cb) → KIt oI dct ks ep rem →
      At g L h l ((S, seqObj "list" #[.str cb t0, .int (kf cb) tb] n) :: (it, oI) :: rest) →
      codeAny (MM w) A (.builtin "max.loop" ⟨[.ref it, .ref f, .ref S], [(Str.ofString "default", sv)]⟩) R { s with heap := h, toks := tk } := by
  have hname : (toString "max" ++ toString ".loop" : String) = "max.loop" := by decide
  have C1 := C.in1
  intro rem
  induction rem with
  | nil =>
    intro seen h tk cb t0 tb n oI hse hcb hle k H
    obtain ⟨kvs, hD, hkv⟩ := Sr.at C H fun p hp => .tail _ (.tail _ hp)
    refine codeAny_builtin PySem.F.entry_max_loop ?_
    rw [Around.under_plainId PySem.F.plain_max_loop _]
    show wpAny _ A.in1 (seqItems? (.ref S) >>= _) _ _ _
    refine wpAny_bind (wpAny_seqItems (H.get (.head _)) rfl ?_)
    show wpAny _ A.in1 (tryCatch (pyNext (.ref it)) _ >>= _) _ _ _
    refine wpAny_bind (wpAny_tryCatch (nextK_end C1.handled k (H.get (.tail _ (.head _))) hD hkv fun h1 o1 he1 ho1 k1 => ?_))
    have H1 := At.extd [_] H (fun p hp => by rw [List.mem_singleton.mp hp]; exact Ne.symm hiS) (fun p hp => (hriS p hp).1) he1 ho1
    show wpAny _ A.in1 (updateSeq S (fun _ => #[]) >>= _) _ _ _
    refine wpAny_bind ?_
    refine wpAny_updateSeq (H1.get (.head _)) rfl (wpAny_bind (wpAny_letGo (wpAny_pure ?_)))
    have s1 := Heap.SameBut.update h1 S (Obj.mapSeq fun _ => (#[] : Array Value))
    obtain ⟨c2, hc2⟩ : ∃ c2, (h1.update S (Obj.mapSeq fun _ => (#[] : Array Value))).get? S = some (seqObj "list" #[] c2) := ⟨_, get?_update_seq (H1.get (.head _)) fun _ => #[]⟩
    have H2 := At.same H1 (fun p hp => by
      rcases List.mem_cons.mp hp with rfl | hp
      · exact hiS
      · exact (hriS p hp).2) s1 hc2
    rw [List.append_nil] at hse
    subst hse
    exact hR cb t0 _ _ hcb hle (H2.new fun p hp => .tail _ (.tail _ hp))
  | cons c r ih =>
    intro seen h tk cb t0 tb n oI hse hcb hle k H
    have hcks : c ∈ ks := by rw [← hse]; simp
    obtain ⟨kvs, hD, hkv⟩ := Sr.at C H fun p hp => .tail _ (.tail _ hp)
    refine codeAny_builtin PySem.F.entry_max_loop ?_
    rw [Around.under_plainId PySem.F.plain_max_loop _]
    show wpAny _ A.in1 (seqItems? (.ref S) >>= _) _ _ _
    refine wpAny_bind (wpAny_seqItems (H.get (.head _)) rfl ?_)
    show wpAny _ A.in1 (tryCatch (pyNext (.ref it)) _ >>= _) _ _ _
    refine wpAny_bind (wpAny_tryCatch (nextK_item k (H.get (.tail _ (.head _))) hD hkv fun t1 h1 o1 ho1 k1 hs1 => ?_))
    have H1 := At.upd [_] H (fun p hp => by rw [List.mem_singleton.mp hp]; exact Ne.symm hiS) (fun p hp => (hriS p hp).1) hs1 ho1
    show wpAny _ A.in1 (tryCatch (holding [.str c t1] (call (.ref f) [.str c t1])) _ >>= _) _ _ _
    refine wpAny_bind (wpAny_tryCatch (wpAny_holding (KO.call C1 H1 (fun p hp => .tail _ (.tail _ (hneed p hp))) (by omega) (by omega) hcks fun t2 h2 tk2 H2 => ?_)))
    show wpAny _ A.in1 (tryCatch (holding [.str c t1, .int (kf c) t2] (richCompare .Gt (.int (kf c) t2) (.int (kf cb) tb) >>= _)) _ >>= _) _ _ _
    refine wpAny_bind (wpAny_tryCatch (wpAny_holding (wpAny_bind (show wpAny (MM w) A.in1 (compareOp .Gt (.int (kf c) t2) (.int (kf cb) tb)) _ _ _ from gt_int ?_))))
    refine wpAny_bind (wpAny_holding (wpAny_truthy_bool ?_))
    refine wpAny_bind (wpAny_letGo (wpAny_pure ?_))
    by_cases hb : kf cb < kf c
    · have s1 := Heap.SameBut.update h2 S (Obj.mapSeq fun _ => #[.str c t1, .int (kf c) t2])
      obtain ⟨c2, hc2⟩ : ∃ c2, (h2.update S (Obj.mapSeq fun _ => #[.str c t1, .int (kf c) t2])).get? S = some (seqObj "list" #[.str c t1, .int (kf c) t2] c2) := ⟨_, get?_update_seq (H2.get (.head _)) fun _ => #[.str c t1, .int (kf c) t2]⟩
      simp only [hb, decide_true, if_true]
      refine wpAny_bind ?_
      refine wpAny_updateSeq (H2.get (.head _)) rfl (wpAny_bind (wpAny_letGo ?_))
      rw [hname]
      refine wpAny_pure ⟨plainId_quiet PySem.F.plain_max_loop _, ih (seen ++ [c]) _ _ c t1 t2 c2 o1 (by rw [← hse]; simp) (by simp) (fun c' hc' => ?_) k1 (At.same H2 (fun p hp => ?_) s1 hc2)⟩
      · rcases List.mem_append.mp hc' with q | q
        · have := hle c' q
          omega
        · rw [List.mem_singleton.mp q]; omega
      · rcases List.mem_cons.mp hp with rfl | hp
        · exact hiS
        · exact (hriS p hp).2
    · simp only [hb, decide_false, Bool.false_eq_true, if_false]
      refine wpAny_bind (wpAny_letGo ?_)
      rw [hname]
      refine wpAny_pure ⟨plainId_quiet PySem.F.plain_max_loop _, ih (seen ++ [c]) _ _ cb t0 tb n o1 (by rw [← hse]; simp) (List.mem_append_left _ hcb) (fun c' hc' => ?_) k1 H2⟩
      rcases List.mem_append.mp hc' with q | q
      · exact hle c' q
      · rw [List.mem_singleton.mp q]; omega

theorem maxA {Q : Value → Shared → Prop} {oI : Obj} (C : Cx w A L g d u) (hd : d < 600) (hu : u < 6000) (Sr : Src w rest dct ks ep) (KO : KeyOk w f need kf ks) (hneed : ∀ p ∈ need, p ∈ rest) (hri : ∀ p ∈ rest, p.1 ≠ it) (hne : ks ≠ [])
    (H : At g L s.heap l ((it, oI) :: rest)) (k : KIt oI dct ks ep ks)
    (h : ∀ cb tb h' tk', cb ∈ ks → (∀ c ∈ ks, kf c ≤ kf cb) → At g L h' l rest → Q (.str cb tb) { s with heap := h', toks := tk' }) :
    wpAny (MM w) A (call (.builtin "max") [.ref it] [(Str.ofString "default", sv), (Str.ofString "key", .ref f)]) Q E s := by
  have hname : (toString "max" ++ toString ".loop" : String) = "max.loop" := by decide
  have C1 := C.in1
  refine kmk_tree PySem.F.kind_max PySem.F.plain_max PySem.F.entry_max (args_max_kd _ _ _) ?_
  show wpAny _ A.in1 (Builtin.Builtins.bindParams "max" ["key", "default"] 0 ⟨[], [(Str.ofString "default", sv), (Str.ofString "key", .ref f)]⟩ >>= _) _ _ s
  refine wpAny_bind (wpAny_of_eq (show Builtin.Builtins.bindParams "max" ["key", "default"] 0 ⟨[], [(Str.ofString "default", sv), (Str.ofString "key", .ref f)]⟩ = pure [some (.ref f), some sv] from rfl) ?_)
  refine wpAny_bind (wpAny_pure ?_)
  refine wpAny_bind (iterK k (H.get (.head _)) ?_)
  refine wpAny_bind (wpAny_newList ?_ (Nat.zero_le _))
  rw [hname]
  refine wpAny_pure ⟨plainId_quiet PySem.F.plain_max_loop _, ?_⟩
  obtain ⟨c, r, hks⟩ : ∃ c r, ks = c :: r := by
    cases ks with
    | nil => exact absurd rfl hne
    | cons c r => exact ⟨c, r, rfl⟩
  have k' : KIt oI dct ks ep (c :: r) := by rw [← hks]; exact k
  have H0 := H.push (seqObj "list" #[] 0)
  have lt0 := H.lt
  have hiS : it ≠ s.heap.objs.size := Nat.ne_of_lt (lt0 _ (.head _))
  have hriS : ∀ p ∈ rest, p.1 ≠ it ∧ p.1 ≠ s.heap.objs.size := fun p hp => ⟨hri p hp, Nat.ne_of_lt (lt0 p (.tail _ hp))⟩
  have offS : ∀ (o : Obj), ∀ p ∈ (it, o) :: rest, p.1 ≠ s.heap.objs.size := fun o p hp => by
    rcases List.mem_cons.mp hp with rfl | hp
    · exact hiS
    · exact (hriS p hp).2
  obtain ⟨kvs, hD, hkv⟩ := Sr.at C H0 fun p hp => .tail _ (.tail _ hp)
  refine codeAny_builtin PySem.F.entry_max_loop ?_
  rw [Around.under_plainId PySem.F.plain_max_loop _]
  show wpAny _ A.in1 (seqItems? (.ref _) >>= _) _ _ _
  refine wpAny_bind (wpAny_seqItems (H0.get (.head _)) rfl ?_)
  show wpAny _ A.in1 (tryCatch (pyNext (.ref it)) _ >>= _) _ _ _
  refine wpAny_bind (wpAny_tryCatch (nextK_item (c := c) (rem := r) k' (H0.get (.tail _ (.head _))) hD hkv fun t1 h1 o1 ho1 k1 hs1 => ?_))
  have H1 := At.upd [_] H0 (fun p hp => by rw [List.mem_singleton.mp hp]; exact Ne.symm hiS) (fun p hp => (hriS p hp).1) hs1 ho1
  show wpAny _ A.in1 (tryCatch (holding [.str c t1] (call (.ref f) [.str c t1])) _ >>= _) _ _ _
  refine wpAny_bind (wpAny_tryCatch (wpAny_holding (KO.call C1 H1 (fun p hp => .tail _ (.tail _ (hneed p hp))) (by omega) (by omega) (by rw [hks]; exact .head _) fun t2 h2 tk2 H2 => ?_)))
  have s1 := Heap.SameBut.update h2 s.heap.objs.size (Obj.mapSeq fun _ => #[.str c t1, .int (kf c) t2])
  obtain ⟨c2, hc2⟩ : ∃ c2, (h2.update s.heap.objs.size (Obj.mapSeq fun _ => #[.str c t1, .int (kf c) t2])).get? s.heap.objs.size = some (seqObj "list" #[.str c t1, .int (kf c) t2] c2) := ⟨_, get?_update_seq (H2.get (.head _)) fun _ => #[.str c t1, .int (kf c) t2]⟩
  show wpAny _ A.in1 (updateSeq s.heap.objs.size (fun _ => #[.str c t1, .int (kf c) t2]) >>= _) _ _ _
  refine wpAny_bind ?_
  refine wpAny_updateSeq (H2.get (.head _)) rfl ?_
  rw [hname]
  refine wpAny_pure ⟨plainId_quiet PySem.F.plain_max_loop _, maxLoop C (by omega) (by omega) Sr KO hneed hriS hiS h r [c] _ _ c t1 t2 c2 o1 (by rw [hks]; rfl) (.head _) (fun c' hc' => by rw [List.mem_singleton.mp hc']; omega) k1 (At.same H2 (offS o1) s1 hc2)⟩
end
end Mine
end
section
open PySem PySem.W PyProof.Rows PySem.Calls PyProof.Rows.LCg
namespace Mine
section
variable {w : World} {A : Around} {E : Value → Shared → Prop} {s : Shared} {g : Heap} {L : Addr} {l : List (Str × Value)} {news : List (Addr × Obj)} {env : Env} {fs : List Addr}

theorem CxE.turn {g' : Heap} (X : CxE w A L g env fs) (T : KtsTurn fs g g') : CxE w A L g' env fs := by
  obtain ⟨outer, A₀, base, hA, hf, hk, B, BO, hfs⟩ := X
  refine ⟨outer, A₀, base, hA, hf, hk, ⟨B.stack, fun b o e => T.other b o (B.stays b o e) fun hm => ?_, B.frames.of_keeps fun b o e _ => ?_⟩, BO, hfs⟩
  · rw [(B.frames.mem (hfs ▸ hm)).1] at e
    cases e
  · obtain ⟨sl, hs⟩ := T.up e
    exact ⟨_, hs, rfl⟩
theorem Cx.turn {g' : Heap} {d u : Nat} (C : Cx w A L g d u) (X : CxE w A L g env fs) (T : KtsTurn fs g g') : Cx w A L g' d u := Cx.of (X.turn T) C.depth C.units C.handled

theorem At.apart {h h' : Heap} {b : Addr} (a : At g L h l news) (hb : b ≠ L) (h2 : ∀ p ∈ news, p.1 ≠ b) (h0 : g.get? b = none) (hs : Heap.SameBut b h h') : At g L h' l news := by
  obtain ⟨m, F, hm⟩ := a.fr
  refine ⟨⟨m, F.change hs hb h0, hm⟩, fun p hp => ?_⟩
  have y := a.nw p hp
  exact ⟨(hs.2 p.1 (h2 p hp)).trans y.1, y.2⟩

/-- an exception that was noted: its object, its traceback -/
structure Held (h g : Heap) (L : Addr) (news : List (Addr × Obj)) (e tb : Addr) (X : String) : Prop where
  ex : ∃ oe vs, h.get? e = some oe ∧ oe.cls = .type X ∧ oe.data = .fields vs ∧ vs[1]? = some (.ref tb)
  tr : ∃ ot ts, h.get? tb = some ot ∧ ot.data = .fields ts ∧ 3 < ts.size
  ne : tb ≠ e
  nL : tb ≠ L
  nn : ∀ p ∈ news, p.1 ≠ tb
  ng : g.get? tb = none

theorem noteA {Q : Unit → Shared → Prop} {X : String} {e : Addr} {h : Heap} (CE : CxE w A L g env fs) (H : At g L h l news) (hx : Heap.NewExc h s.heap e X)
    (k : ∀ h' g' tb, KtsTurn fs g g' → At g' L h' l news → Held h' g' L news e tb X → Q () { s with heap := h' }) : wpAny (MM w) A (noteFrame (.ref e) env) Q E s := by
  obtain ⟨outer, A₀, base, hA, hf, hk, B, BO, hfs⟩ := CE
  obtain ⟨m, F, hm⟩ := H.fr
  have N := H.nw
  obtain ⟨ob, tp, he, hcls, hd⟩ := hx.there
  have K' := pushX B F hf hk
  have hin : ∀ env' ∈ (env :: outer), ∀ b, env'.frame = some b → b ∈ (env :: outer).filterMap (·.frame) := fun env' he' b hb => List.mem_filterMap.mpr ⟨env', he', hb⟩
  have hfl : (env :: outer).filterMap (·.frame) = L :: fs := by rw [List.filterMap_cons, hf, hfs]
  have ff0 := funFrames_hide K'.frames hin
  rw [hfl] at ff0
  have ff : s.heap.FunFrames (hideAll h (L :: fs)) (env :: outer) := ff0.of_keeps fun b o eb _ => ⟨o, hx.keeps b o eb, rfl⟩
  have hLg : g.get? L = none := kts_self F
  have hNf : ∀ p ∈ news, p.1 ∉ L :: fs := fun p hp hm' => by
    rcases List.mem_cons.mp hm' with z | z
    · exact (N p hp).2.1 z
    · obtain ⟨_, o, ho, _⟩ := B.frames.mem (hfs ▸ z)
      rw [(N p hp).2.2] at ho; cases ho
  unfold noteFrame
  simp only [hf]
  refine wpAny_bind (wpAny_field he hd (x := .none) rfl ?_)
  rw [if_neg (by decide)]
  refine wpAny_entryW (a0 := tp) hA ff hf he (fun b o eb => hx.keeps b o (of_hideAll _ eb)) ?_ hd (by show 1 < 6; decide) rfl fun h' hN => ?_
  · cases q : (hideAll h (L :: fs)).get? e with
    | none => rfl
    | some o => have := of_hideAll _ q; rw [hx.new] at this; cases this
  obtain ⟨k1, _, k3, k4⟩ := hN
  obtain ⟨oe, vs, T, oT, ts, he', ⟨hcl, _⟩, hd', h1, hnT, hTe, hT, hdT, h3⟩ := k3
  have keep : ∀ b o, b ∉ L :: fs → h.get? b = some o → h'.get? b = some o := fun b o hn ho => k1 b o (hideAll_get _ ho hn)
  obtain ⟨Tt, Ss⟩ := kts_turn_at (h := h') (fs := fs) (g := g)
    (fun b hb => by
      obtain ⟨_, o, ho, _⟩ := B.frames.mem (hfs ▸ hb)
      exact ⟨o, ho⟩)
    (fun b o eb nm => keep b o (fun hm' => by
      rcases List.mem_cons.mp hm' with z | z
      · rw [z, hLg] at eb; cases eb
      · exact nm z) (F.keep b o eb))
    (fun b o eb hm' => by
      obtain ⟨_, o', ho', hdd⟩ := B.frames.mem (hfs ▸ hm')
      rw [eb] at ho'
      cases ho'
      exact k4 b o (hx.keeps b o (F.keep b o eb)) hdd)
  have nsL : h'.Ns L m := Heap.UpToSlots.ns k4 (F.ns.at' fun o eo => hx.keeps L o eo)
  have H' : At (ktsHeap h' fs g) L h' l news := by
    refine ⟨⟨m, ⟨nsL, Ss, by rw [Tt.size]; exact F.above⟩, hm⟩, fun p hp => ?_⟩
    have z := N p hp
    exact ⟨keep _ _ (hNf p hp) z.1, z.2.1, Tt.none_ _ z.2.2⟩
  have hTL : T ≠ L := fun q => by
    obtain ⟨oL, es, ep, hL, hLd, _⟩ := nsL
    rw [q, hL] at hT
    cases hT
    rw [hLd] at hdT
    cases hdT
  have hTf : T ∉ fs := fun hm' => by
    obtain ⟨_, o', ho', hdd⟩ := B.frames.mem (hfs ▸ hm')
    obtain ⟨sl, hs⟩ := k4 T o' (hx.keeps T o' (F.keep T o' ho')) hdd
    rw [hT] at hs
    cases hs
    exact hdd ts hdT
  have hTh : h.get? T = none := by
    cases q : h.get? T with
    | none => rfl
    | some o =>
      rw [hideAll_get _ q (fun hm' => by
        rcases List.mem_cons.mp hm' with z | z
        · exact hTL z
        · exact hTf z)] at hnT
      cases hnT
  have hTg : g.get? T = none := kts_none F.keep hTh
  exact k h' _ T Tt H' ⟨⟨oe, vs, he', by rw [hcl, hcls], hd', h1⟩, ⟨oT, ts, hT, hdT, (Array.getElem?_eq_some_iff.mp h3).1⟩, hTe, hTL, (fun p hp q => by have := (N p hp).1; rw [q, hTh] at this; cases this), Tt.none_ _ hTg⟩

theorem flightA {Q : Unit → Shared → Prop} {X : String} {e tb : Addr} (H : At g L s.heap l news) (Hd : Held s.heap g L news e tb X)
    (k : ∀ h', At g L h' l news → Held h' g L news e tb X → Q () { s with heap := h' }) : wpAny (MM w) A (setFlight (.ref e) none) Q E s := by
  obtain ⟨⟨oe, vs, he, hc, hd, h1⟩, ⟨ot, ts, ht, hdt, hsz⟩, hne, hnL, hnn, hng⟩ := Hd
  refine wpAny_setFlight_none he hd h1 ht hdt hsz (k _ (H.apart hnL hnn hng (Heap.SameBut.update ..)) ⟨⟨oe, vs, ?_, hc, hd, h1⟩, ⟨_, _, Heap.get?_update_self _ ht (Obj.isFreed_of_fields (Obj.data_mapFields hdt _)), Obj.data_mapFields hdt _, by simpa using hsz⟩, hne, hnL, hnn, hng⟩)
  rw [Heap.get?_update_other _ _ hne]
  exact he

/-- except (TypeError, AttributeError): pass, met by a TypeError -/
theorem passA {Q : Flow → Shared → Prop} {cn : Str} {cs : Scope} {ccd : Value} {a e tb : Addr} {ec : List (Str × Addr)} {p1 p2 p3 p4 p5 : Pos} {n1 : Nat} {d u : Nat} (C : Cx w A L g d u) (H : At g L s.heap l news) (Hd : Held s.heap g L news e tb "TypeError")
    (hk : cs.kind = .function) (x1 : cs.names.lookup (Str.ofString "TypeError") = some .globalImplicit) (x2 : cs.names.lookup (Str.ofString "AttributeError") = some .globalImplicit)
    (k : ∀ h', At g L h' l news → Q .next { s with heap := h' }) :
    wpAny (MM w) A (handleBy (.ref e) (envX cn cs L a ccd ec) [.ExceptHandler (some (.Tuple [.Name (Str.ofString "TypeError") p1, .Name (Str.ofString "AttributeError") p2] n1 p3)) none [.Pass p4] p5]) Q E s := by
  refine wpAny_handleBy_cons (codeAny_handlers_test ?_) (by intro q; cases q)
  obtain ⟨m, F, _⟩ := id H.fr
  obtain ⟨p, lo, mean, mg, mb, T⟩ := C.top
  refine wpAny_Tuple ?_
  refine wpAny_items_cons (nameX_B F C.kin (topRead_of T) (by k_is) (by boot_by_name) (by decide) ?_ hk x1)
  refine wpAny_items_cons (nameX_B F C.kin (topRead_of T) (by k_is) (by boot_by_name) (by decide) ?_ hk x2)
  refine wpAny_items_nil ⟨by size_fits, ?_⟩
  have kp : ∀ q o, s.heap.get? q = some o → (s.heap.push { cls := .type "tuple", data := .seq [Value.type "TypeError", Value.type "AttributeError"].toArray }).get? q = some o := fun _ _ z => Heap.get?_push_of_some _ z
  obtain ⟨⟨oe, vs, he, hc, hd, h1⟩, ⟨ot, ts, ht, hdt, hsz⟩, hne, hnL, hnn, hng⟩ := Hd
  have LT : Looks (MM w) s.heap (typeOf (.ref e)) (.type "TypeError") := by
    rw [← hc]
    exact (Looks.ld he).andThen .now
  refine (exm_tup2 (b := true) ((C.kin.keeps F.keep).keeps kp) (LT.keeps kp) (Heap.get?_push_size s.heap rfl) (by first | rfl | with_unfolding_all rfl | kernel_rfl | decide +kernel)).here ?_
  dsimp only
  have H2 : At g L (s.heap.push { cls := .type "tuple", data := .seq [Value.type "TypeError", Value.type "AttributeError"].toArray }) l news := (H.push _).new fun p hp => .tail _ hp
  refine codeAny_handlers_suite (flightA H2 ⟨⟨oe, vs, kp _ _ he, hc, hd, h1⟩, ⟨ot, ts, kp _ _ ht, hdt, hsz⟩, hne, hnL, hnn, hng⟩ fun h3 H3 _ => ?_)
  exact wpAny_execs_cons (wpAny_Pass (wpAny_execs_nil (k h3 H3)))

theorem nolen_ki : typeLookup (.type "dict_keyiterator") "__len__" = pure none := by rw [typeLookup_type, builtinLookup_eq_fast]; kernel_rfl
/-- len of an iterator -/
theorem lenErr {Q : Value → Shared → Prop} {it : Addr} {o : Obj} (hh : A.handled = none) (ho : s.heap.get? it = some o) (hc : o.cls = .type "dict_keyiterator")
    (h : ∀ h' tk e, Heap.NewExc s.heap h' e "TypeError" → E (.ref e) { s with heap := h', toks := tk }) : wpAny (MM w) A (call (.builtin "len") [.ref it]) Q E s := by
  have hT : s.TypeIs (.ref it) "dict_keyiterator" := ⟨o, ho, hc⟩
  refine call_function_entry kind_len plain_len entry_len (args_len1 _) ?_
  unfold Builtin.«len»
  refine wpAny_bind (m := oneArg "len" _) (wpAny_pure ?_)
  show wpAny _ _ (callSpecial? (.ref it) (Str.ofString "__len__") >>= _) _ _ _
  refine wpAny_bind ?_
  simp only [callSpecial?]
  refine wpAny_bind (wpAny_specialOf hT nolen_ki ?_)
  dsimp only
  refine wpAny_pure ?_
  dsimp only
  refine wpAny_bind (wpAny_rule ?_)
  refine wpAny_bind (wpAny_typeNameOf_keyiter hT ?_)
  exact_raiseError plainExc_TypeError hh h
end
end Mine
end
section
open PySem PySem.W PyProof.Rows PySem.Calls PyProof.Rows.LCg
namespace Mine
theorem mro_object : mroOf (.type "object") = pure [.type "object"] := by rw [mroOf_type]; kernel_rfl
theorem lookup_object_new : typeLookup (.type "object") "__new__" = pure (some (.builtin "object.__new__")) := by rw [typeLookup_type, builtinLookup_eq_fast]; kernel_rfl
theorem sub_object : isSubtype (.type "object") (.type "object") = pure true := by rw [isSubtype_type]; kernel_rfl
theorem made_object : Bind.madeBy (.type "object") = pure (some "object.__new__") := madeBy_type mro_object lookup_object_new (by decide +kernel)
theorem called_object : TypeCalled "object" "object.__new__" "object.__init__" :=
  ⟨by decide +kernel, by decide +kernel, ⟨_, _, mro_object⟩, made_object, by decide +kernel, sub_object, PySem.F.slot_object_init⟩
theorem typeCall_object_0 : checkTypeCall "object" ⟨[], []⟩ = pure () := by kernel_rfl
theorem newCall_object_0 : checkBuiltinCall "object.__new__" ⟨[.type "object"], []⟩ = pure () := by kernel_rfl
theorem args_object_init_0 (obj : Value) : argsOk "object.__init__" ⟨[obj], []⟩ := by
  unfold argsOk; rw [signature?_of (id := "object.__init__") (n := ['_', '_', 't', 'i', 'n', 'i', '_', '_']) (o := ['t', 'c', 'e', 'j', 'b', 'o']) (by kernel_rfl) PySem.F.owner_object]; kernel_rfl
theorem base_object : Bind.staticBase (.type "object") = pure (.type "object") := by kernel_rfl
theorem madeHere_object : Bind.madeHere "object.__new__" (.type "object") = pure () := by
  unfold Bind.madeHere
  rw [base_object]
  simp only [pure_bind, made_object]
  rw [if_neg (by simp)]
theorem isType_object : isType (.type "object") = pure true := by kernel_rfl
abbrev objO : Obj := { cls := .type "object", dict := none, data := .plain }

section
variable {w : World} {A : Around} {E : Value → Shared → Prop} {s : Shared} {g : Heap} {L : Addr} {l : List (Str × Value)} {news : List (Addr × Obj)}

theorem meets_object_new : Meets (Builtin.«object.__new__» ⟨[.type "object"], []⟩) (fun _ R s => R (.ok (.ret (.ref s.heap.objs.size))) { s with heap := s.heap.push objO }) := by
  refine Meets.of_wp fun prog w A R s h => ?_
  unfold Builtin.«object.__new__»
  dsimp only
  refine wpAny_bind (wpAny_of_eq isType_object ?_)
  simp only [Bool.not_true, Bool.false_eq_true, if_false]
  rw [if_neg (by decide +kernel)]
  refine wpAny_bind (wpAny_of_eq madeHere_object ?_)
  simp only [List.isEmpty_nil, Bool.not_true, Bool.or_self, Bool.false_eq_true, if_false]
  rw [if_neg (by decide +kernel)]
  refine wpAny_bind (wpAny_pure ?_)
  refine wpAny_bind (wpAny_newObj_type ?_)
  rw [if_neg (by decide +kernel)]
  exact wpAny_pure ⟨_, rfl, h⟩

theorem objectA {Q : Value → Shared → Prop} (H : At g L s.heap l news) (h : ∀ o h', At g L h' l ((o, objO) :: news) → (∀ p ∈ news, p.1 < o) → Q (.ref o) { s with heap := h' }) :
    wpAny (MM w) A (call (.type "object") []) Q E s := by
  refine callType_meets (Q₁ := fun obj s₁ => s₁.TypeIs obj "object" ∧ Q obj s₁) called_object typeCall_object_0 newCall_object_0 PySem.F.entry_object_new PySem.F.entry_object_init meets_object_new ⟨⟨_, Heap.get?_push_size _ rfl, rfl⟩, h _ _ (H.push _) H.lt⟩ fun obj s₁ hq =>
    ⟨hq.1, args_object_init_0 obj, (fun _ R s => R (.ok (.ret .none)) s), Meets.of_wp fun prog w A R s hs => wpAny_pure ⟨_, rfl, hs⟩, rfl, hq.2⟩

theorem sliceA {value slice : PySem.Expr} {ℓ : Addr} {vs : List Value} {n : Nat} {vl vu vk : Value} {lo hi st : Option Int} {ops : List Value} {Q : Value → Shared → Prop} (H : At g L s.heap l news) (hm : (ℓ, listOf vs.toArray n) ∈ news)
    (pl : IsPart vl lo) (pu : IsPart vu hi) (pk : IsPart vk st) (h0 : st ≠ some 0) (hz : vs.length < 1000)
    (h : ∀ D h', At g L h' l ((D, listOf (slicePick vs.toArray lo hi st) 0) :: news) → (∀ p ∈ news, @LT.lt Nat _ p.1 D) → Q (.ref D) { s with heap := h' })
    (hs : subscripted slice false (.ref ℓ) (.ref s.heap.objs.size) = operate ops (getItem (.ref ℓ) (.ref s.heap.objs.size))) :
    wpAny (MM w) A (subscriptTail value slice (.ref ℓ) (.ref s.heap.objs.size)) Q E { s with heap := s.heap.push { cls := .type "slice", data := .fields #[vl, vu, vk] } } := by
  have H1 := H.push { cls := .type "slice", data := .fields #[vl, vu, vk] }
  have hl : (s.heap.push { cls := .type "slice", data := .fields #[vl, vu, vk] }).IsList ℓ vs.toArray := PySem.IsL.isList (n := n) (H1.get (.tail _ hm))
  refine tail_any (Heap.IsList.typeIs (s := { s with heap := s.heap.push { cls := .type "slice", data := .fields #[vl, vu, vk] } }) hl) list_getitem_lookup (wpAny_getItem_list_slice hl (Heap.IsSliceOf.new ..) pl pu pk h0 (h _ _ ((H1.push _).new fun p hp => ?_) fun p hp => H1.lt p (.tail _ hp)) (by rw [List.size_toArray, sizeLine_eq]; omega)) hs
  rcases List.mem_cons.mp hp with hp | hp
  · exact hp ▸ .head _
  · exact .tail _ (.tail _ hp)
end

theorem pick_upto (vs : List Value) {y : Int} (h : 0 ≤ y) : slicePick vs.toArray none (some y) none = (vs.take y.toNat).toArray := by
  have e : sliceBounds none (some y) none vs.toArray.size = (((0 : Nat) : Int), ((min y.toNat vs.toArray.size : Nat) : Int), 1) := by
    simp only [sliceBounds, Option.getD_none, show (1 : Int) > 0 by decide, if_true, if_neg (show ¬ (y < 0) by omega)]
    congr 1
    congr 1
    omega
  rw [kmk_pick_nat _ e]
  show (((vs.drop 0).take (min y.toNat vs.toArray.size - 0)).toArray) = _
  rw [List.drop_zero, Nat.sub_zero, List.size_toArray, kmk_take_min]
theorem strs_take : ∀ {vs : List Value} {ns : List Str}, StrsAre vs ns → ∀ k : Nat, StrsAre (vs.take k) (ns.take k)
  | _, _, _, 0 => .nil
  | _, _, .nil, _ + 1 => .nil
  | _, _, .cons n t h, k + 1 => .cons n t (strs_take h k)
theorem strs_rev {vs : List Value} {ns : List Str} (h : StrsAre vs ns) : StrsAre vs.reverse ns.reverse := by
  have h1 := strsAre_map vs.reverse (fun v hv => h.all v (List.mem_reverse.mp hv))
  rwa [List.map_reverse, h.strs] at h1
end Mine
end
section
open PySem PySem.W PyProof.Rows PySem.Calls
namespace Mine

/-- the values of S are compared as lt says wherever rest is laid -/
def CmpOk (w : World) (rest : List (Addr × Obj)) (lt : Value → Value → Bool) (S : List Value) : Prop :=
  ∀ x ∈ S, ∀ y ∈ S, ∀ (A : Around) (s : Shared) (Q : Value → Shared → Prop) (E : Value → Shared → Prop), A.units < cLine → (∀ p ∈ rest, s.heap.get? p.1 = some p.2) → Q (.bool (lt x y)) s → wpAny (MM w) A (compareOp .Lt x y) Q E s

theorem cmpA {w : World} {rest : List (Addr × Obj)} {lt : Value → Value → Bool} {S : List Value} {x y : Value} {A : Around} {s : Shared} {Q : Value → Shared → Prop} {E : Value → Shared → Prop} {g : Heap} {L : Addr} {l : List (Str × Value)} {p : Addr × Obj} {d u : Nat}
    (c : CmpOk w rest lt S) (C : Cx w A L g d u) (H : At g L s.heap l (p :: rest)) (hu : u < cLine) (hx : x ∈ S) (hy : y ∈ S) (h : Q (.bool (lt x y)) s) : wpAny (MM w) A (compareOp .Lt x y) Q E s :=
  c x hx y hy A s Q E (Nat.lt_of_le_of_lt C.units hu) (fun q hq => (H.nw q (.tail _ hq)).1) h

theorem fdiv_two (b : Nat) : (((b : Int) - 1).fdiv (2 ^ (1 : Int).toNat)) = ((b : Int) - 1) / 2 := by
  have : (2 : Int) ^ (1 : Int).toNat = 2 := by decide
  rw [this, Int.fdiv_eq_ediv_of_nonneg _ (by omega)]
theorem mem_set {α : Type} {S l : List α} {i : Nat} {v : α} (h : ∀ x ∈ l, x ∈ S) (hv : v ∈ S) : ∀ x ∈ l.set i v, x ∈ S := fun x hx => (List.mem_or_eq_of_mem_set hx).elim (h x) (fun e => e ▸ hv)

abbrev iI (n : Int) (t : Tok) : Value := .int n t

theorem siftdown_max_ok {w : World} {A : Around} {E : Value → Shared → Prop} {s : Shared} {g : Heap} {L : Addr} {l : List (Str × Value)} {rest : List (Addr × Obj)} {d u : Nat} {Q : Value → Shared → Prop} {ℓ : Addr} {vs : List Value} {n : Nat} {a b : Nat} {ta tb : Tok} {lt : Value → Value → Bool} {S : List Value}
    (C : Cx w A L g d u) (H : At g L s.heap l ((ℓ, listOf vs.toArray n) :: rest)) (hne : ∀ p ∈ rest, p.1 ≠ ℓ) (c : CmpOk w rest (fun x y => lt y x) S) (hS : ∀ v ∈ vs, v ∈ S) (hb : b < vs.length) (hlen : vs.length < 1000) (hd : d < 900) (hu : u < 9000)
    (h : ∀ h' tk, At g L h' l ((ℓ, listOf (siftdown lt a b vs).toArray n) :: rest) → Q .none { s with heap := h', toks := tk }) :
    wpAny (MM w) A (call (.ref 63) [.ref ℓ, .int a ta, .int b tb]) Q E s := by
  have hcl := cLine_is
  refine callA (f := 63) C H (by k_is) (by k_is) (by simp only [recursionLimit]; omega) (binds := [("heap", .ref ℓ), ("startpos", .int a ta), ("pos", .int b tb)]) (BindsTo.of_eq rfl) (locs rfl) ?_ rfl rfl rfl rfl (by decide)
  intro g' L' h₁ tk C' H' _
  replace H' : At g' L' h₁ [("pos", .int b tb), ("startpos", .int a ta), ("heap", .ref ℓ)] ((ℓ, listOf vs.toArray n) :: rest) := H'
  obtain ⟨x, hx⟩ : ∃ x, vs[b]? = some x := ⟨_, List.getElem?_eq_getElem hb⟩
  have hxS : x ∈ S := hS x (List.mem_of_getElem? hx)
  have hres : siftdown lt a b vs = sdF lt a x b b vs := by simp only [siftdown, hx]
  rw [hres] at h
  refine wpAny_execs_cons (wpAny_Assign_Name (Subscript_ (ldA H' rfl (ldA H' rfl (itemA H' (.head _) (by omega) (by omega) (v := x) (by simpa using hx) ?_)))) (by with_unfolding_all rfl))
  refine stA H' fun h₂ H₂ => ?_
  dsimp only
  replace H₂ : At g' L' h₂ [("newitem", x), ("pos", .int b tb), ("startpos", .int a ta), ("heap", .ref ℓ)] ((ℓ, listOf vs.toArray n) :: rest) := H₂
  refine wpAny_execs_cons (wpAny_mono (whileA (n := b) (Q := fun f s' => f = .next ∧ ∃ (h' : Heap) (tk : Nat) (vs' : List Value) (p : Nat) (tp : Tok), s' = { s with heap := h', toks := tk } ∧ At g' L' h' [("newitem", x), ("pos", .int p tp), ("heap", .ref ℓ)] ((ℓ, listOf vs'.toArray n) :: rest) ∧ p < vs'.length ∧ vs'.length < 1000 ∧ vs'.set p x = sdF lt a x b b vs)
    (fun k s' => ∃ (h' : Heap) (tk : Nat) (vs' : List Value) (p : Nat) (tp : Tok), s' = { s with heap := h', toks := tk } ∧ At g' L' h' [("newitem", x), ("pos", .int p tp), ("startpos", .int a ta), ("heap", .ref ℓ)] ((ℓ, listOf vs'.toArray n) :: rest) ∧
      p ≤ k ∧ p < vs'.length ∧ vs'.length < 1000 ∧ (∀ v ∈ vs', v ∈ S) ∧ sdF lt a x k p vs' = sdF lt a x b b vs) ?_ ⟨h₂, _, vs, b, tb, rfl, H₂, Nat.le_refl _, hb, hlen, hS, rfl⟩) ?_ (fun _ _ z => z))
  rotate_left
  · rintro f s' ⟨rfl, h', tk', vs', p, tp, rfl, H4, hp, hl4, e4⟩
    dsimp only
    refine wpAny_execs_cons (wpAny_Assign_Subscript (ldA H4 rfl (ldA H4 rfl (ldA H4 rfl (setA H4 hne (by omega) (by omega) (by omega) fun h5 H5 => ?_)))) (by with_unfolding_all rfl))
    refine wpAny_execs_nil ⟨_, _, H5, fun H6 => ?_⟩
    rw [Int.toNat_natCast, e4] at H6
    exact h _ _ H6
  rintro k s' ⟨h', tk', vs', p, tp, rfl, H3, hpk, hp, hl3, hS3, hR⟩
  refine wpAny_isTrue_Compare1 (ldA H3 rfl (ldA H3 rfl (gt_int (wpAny_truthy_bool ?_))))
  by_cases hap : a < p
  · refine WhlIf.yes (by simpa using hap) ?_
    obtain ⟨k, rfl⟩ : ∃ k', k = k' + 1 := ⟨k - 1, by omega⟩
    have hq : (p - 1) / 2 < vs'.length := by omega
    obtain ⟨y, hy⟩ : ∃ y, vs'[(p - 1) / 2]? = some y := ⟨_, List.getElem?_eq_getElem hq⟩
    have hyS : y ∈ S := hS3 y (List.mem_of_getElem? hy)
    have ei : ((p : Int) - 1) / 2 = (((p - 1) / 2 : Nat) : Int) := by omega
    simp only [sdF, hap, if_true, hy] at hR
    refine wpAny_execs_cons (wpAny_Assign_Name (wpAny_BinOp (wpAny_BinOp (ldA H3 rfl (wpAny_Constant_int (sub_int (wpAny_Constant_int (rshift_int (by omega) ?_)))))) ) (by with_unfolding_all rfl))
    rw [fdiv_two, ei]
    refine stA H3 fun h₄ H4 => ?_
    dsimp only
    replace H4 : At g' L' h₄ [("parentpos", .int ((p - 1) / 2 : Nat) _), ("newitem", x), ("pos", .int p tp), ("startpos", .int a ta), ("heap", .ref ℓ)] ((ℓ, listOf vs'.toArray n) :: rest) := H4
    refine wpAny_execs_cons (wpAny_Assign_Name (Subscript_ (ldA H4 rfl (ldA H4 rfl (itemA H4 (.head _) (by omega) (by omega) (v := y) (by rw [Int.toNat_natCast]; exact hy) ?_)))) (by with_unfolding_all rfl))
    refine stA H4 fun h₅ H5 => ?_
    dsimp only
    replace H5 : At g' L' h₅ [("parent", y), ("parentpos", .int ((p - 1) / 2 : Nat) _), ("newitem", x), ("pos", .int p tp), ("startpos", .int a ta), ("heap", .ref ℓ)] ((ℓ, listOf vs'.toArray n) :: rest) := H5
    refine wpAny_execs_cons (wpAny_If (wpAny_isTrue_Compare1 (ldA H5 rfl (ldA H5 rfl (cmpA c C' H5 (by omega) hyS hxS (wpAny_truthy_bool ?_))))))
    cases hlt : lt x y with
    | true =>
      rw [hlt, if_pos rfl] at hR
      rw [if_pos rfl]
      refine wpAny_execs_cons (wpAny_Assign_Subscript (ldA H5 rfl (ldA H5 rfl (ldA H5 rfl (setA H5 hne (by omega) (by omega) (by omega) fun h6 H6 => ?_)))) (by with_unfolding_all rfl))
      dsimp only
      refine wpAny_execs_cons (wpAny_Assign_Name (ldA H6 rfl ?_) (by with_unfolding_all rfl))
      refine stA H6 fun h7 H7 => ?_
      dsimp only
      refine wpAny_execs_cons (wpAny_Continue ?_)
      rw [Int.toNat_natCast] at H7
      refine' ⟨k, Nat.lt_succ_self _, _, _, vs'.set p y, (p - 1) / 2, _, rfl, At.sel H7 ["newitem", "pos", "startpos", "heap"], by omega, by rw [List.length_set]; omega, by rw [List.length_set]; omega, mem_set hS3 hyS, hR⟩
    | false =>
      rw [hlt, if_neg Bool.false_ne_true] at hR
      rw [if_neg Bool.false_ne_true]
      refine wpAny_execs_nil ?_
      dsimp only
      refine wpAny_execs_cons (wpAny_Break ?_)
      exact ⟨rfl, _, _, vs', p, tp, rfl, At.sel H5 ["newitem", "pos", "heap"], hp, hl3, hR⟩
  · refine WhlIf.no (by simpa using hap) ?_
    refine ⟨rfl, _, _, vs', p, tp, rfl, At.sel H3 ["newitem", "pos", "heap"], hp, hl3, ?_⟩
    rw [← hR]
    cases k with
    | zero => rfl
    | succ k => simp only [sdF, hap, if_false]

theorem siftdown_ok {w : World} {A : Around} {E : Value → Shared → Prop} {s : Shared} {g : Heap} {L : Addr} {l : List (Str × Value)} {rest : List (Addr × Obj)} {d u : Nat} {Q : Value → Shared → Prop} {ℓ : Addr} {vs : List Value} {n : Nat} {a b : Nat} {ta tb : Tok} {lt : Value → Value → Bool} {S : List Value}
    (C : Cx w A L g d u) (H : At g L s.heap l ((ℓ, listOf vs.toArray n) :: rest)) (hne : ∀ p ∈ rest, p.1 ≠ ℓ) (c : CmpOk w rest lt S) (hS : ∀ v ∈ vs, v ∈ S) (hb : b < vs.length) (hlen : vs.length < 1000) (hd : d < 900) (hu : u < 9000)
    (h : ∀ h' tk, At g L h' l ((ℓ, listOf (siftdown lt a b vs).toArray n) :: rest) → Q .none { s with heap := h', toks := tk }) :
    wpAny (MM w) A (call (.ref 49) [.ref ℓ, .int a ta, .int b tb]) Q E s := by
  have hcl := cLine_is
  refine callA (f := 49) C H (by k_is) (by k_is) (by simp only [recursionLimit]; omega) (binds := [("heap", .ref ℓ), ("startpos", .int a ta), ("pos", .int b tb)]) (BindsTo.of_eq rfl) (locs rfl) ?_ rfl rfl rfl rfl (by decide)
  intro g' L' h₁ tk C' H' _
  replace H' : At g' L' h₁ [("pos", .int b tb), ("startpos", .int a ta), ("heap", .ref ℓ)] ((ℓ, listOf vs.toArray n) :: rest) := H'
  obtain ⟨x, hx⟩ : ∃ x, vs[b]? = some x := ⟨_, List.getElem?_eq_getElem hb⟩
  have hxS : x ∈ S := hS x (List.mem_of_getElem? hx)
  have hres : siftdown lt a b vs = sdF lt a x b b vs := by simp only [siftdown, hx]
  rw [hres] at h
  refine wpAny_execs_cons (wpAny_Assign_Name (Subscript_ (ldA H' rfl (ldA H' rfl (itemA H' (.head _) (by omega) (by omega) (v := x) (by simpa using hx) ?_)))) (by with_unfolding_all rfl))
  refine stA H' fun h₂ H₂ => ?_
  dsimp only
  replace H₂ : At g' L' h₂ [("newitem", x), ("pos", .int b tb), ("startpos", .int a ta), ("heap", .ref ℓ)] ((ℓ, listOf vs.toArray n) :: rest) := H₂
  refine wpAny_execs_cons (wpAny_mono (whileA (n := b) (Q := fun f s' => f = .next ∧ ∃ (h' : Heap) (tk : Nat) (vs' : List Value) (p : Nat) (tp : Tok), s' = { s with heap := h', toks := tk } ∧ At g' L' h' [("newitem", x), ("pos", .int p tp), ("heap", .ref ℓ)] ((ℓ, listOf vs'.toArray n) :: rest) ∧ p < vs'.length ∧ vs'.length < 1000 ∧ vs'.set p x = sdF lt a x b b vs)
    (fun k s' => ∃ (h' : Heap) (tk : Nat) (vs' : List Value) (p : Nat) (tp : Tok), s' = { s with heap := h', toks := tk } ∧ At g' L' h' [("newitem", x), ("pos", .int p tp), ("startpos", .int a ta), ("heap", .ref ℓ)] ((ℓ, listOf vs'.toArray n) :: rest) ∧
      p ≤ k ∧ p < vs'.length ∧ vs'.length < 1000 ∧ (∀ v ∈ vs', v ∈ S) ∧ sdF lt a x k p vs' = sdF lt a x b b vs) ?_ ⟨h₂, _, vs, b, tb, rfl, H₂, Nat.le_refl _, hb, hlen, hS, rfl⟩) ?_ (fun _ _ z => z))
  rotate_left
  · rintro f s' ⟨rfl, h', tk', vs', p, tp, rfl, H4, hp, hl4, e4⟩
    dsimp only
    refine wpAny_execs_cons (wpAny_Assign_Subscript (ldA H4 rfl (ldA H4 rfl (ldA H4 rfl (setA H4 hne (by omega) (by omega) (by omega) fun h5 H5 => ?_)))) (by with_unfolding_all rfl))
    refine wpAny_execs_nil ⟨_, _, H5, fun H6 => ?_⟩
    rw [Int.toNat_natCast, e4] at H6
    exact h _ _ H6
  rintro k s' ⟨h', tk', vs', p, tp, rfl, H3, hpk, hp, hl3, hS3, hR⟩
  refine wpAny_isTrue_Compare1 (ldA H3 rfl (ldA H3 rfl (gt_int (wpAny_truthy_bool ?_))))
  by_cases hap : a < p
  · refine WhlIf.yes (by simpa using hap) ?_
    obtain ⟨k, rfl⟩ : ∃ k', k = k' + 1 := ⟨k - 1, by omega⟩
    have hq : (p - 1) / 2 < vs'.length := by omega
    obtain ⟨y, hy⟩ : ∃ y, vs'[(p - 1) / 2]? = some y := ⟨_, List.getElem?_eq_getElem hq⟩
    have hyS : y ∈ S := hS3 y (List.mem_of_getElem? hy)
    have ei : ((p : Int) - 1) / 2 = (((p - 1) / 2 : Nat) : Int) := by omega
    simp only [sdF, hap, if_true, hy] at hR
    refine wpAny_execs_cons (wpAny_Assign_Name (wpAny_BinOp (wpAny_BinOp (ldA H3 rfl (wpAny_Constant_int (sub_int (wpAny_Constant_int (rshift_int (by omega) ?_)))))) ) (by with_unfolding_all rfl))
    rw [fdiv_two, ei]
    refine stA H3 fun h₄ H4 => ?_
    dsimp only
    replace H4 : At g' L' h₄ [("parentpos", .int ((p - 1) / 2 : Nat) _), ("newitem", x), ("pos", .int p tp), ("startpos", .int a ta), ("heap", .ref ℓ)] ((ℓ, listOf vs'.toArray n) :: rest) := H4
    refine wpAny_execs_cons (wpAny_Assign_Name (Subscript_ (ldA H4 rfl (ldA H4 rfl (itemA H4 (.head _) (by omega) (by omega) (v := y) (by rw [Int.toNat_natCast]; exact hy) ?_)))) (by with_unfolding_all rfl))
    refine stA H4 fun h₅ H5 => ?_
    dsimp only
    replace H5 : At g' L' h₅ [("parent", y), ("parentpos", .int ((p - 1) / 2 : Nat) _), ("newitem", x), ("pos", .int p tp), ("startpos", .int a ta), ("heap", .ref ℓ)] ((ℓ, listOf vs'.toArray n) :: rest) := H5
    refine wpAny_execs_cons (wpAny_If (wpAny_isTrue_Compare1 (ldA H5 rfl (ldA H5 rfl (cmpA c C' H5 (by omega) hxS hyS (wpAny_truthy_bool ?_))))))
    cases hlt : lt x y with
    | true =>
      rw [hlt, if_pos rfl] at hR
      rw [if_pos rfl]
      refine wpAny_execs_cons (wpAny_Assign_Subscript (ldA H5 rfl (ldA H5 rfl (ldA H5 rfl (setA H5 hne (by omega) (by omega) (by omega) fun h6 H6 => ?_)))) (by with_unfolding_all rfl))
      dsimp only
      refine wpAny_execs_cons (wpAny_Assign_Name (ldA H6 rfl ?_) (by with_unfolding_all rfl))
      refine stA H6 fun h7 H7 => ?_
      dsimp only
      refine wpAny_execs_cons (wpAny_Continue ?_)
      rw [Int.toNat_natCast] at H7
      refine' ⟨k, Nat.lt_succ_self _, _, _, vs'.set p y, (p - 1) / 2, _, rfl, At.sel H7 ["newitem", "pos", "startpos", "heap"], by omega, by rw [List.length_set]; omega, by rw [List.length_set]; omega, mem_set hS3 hyS, hR⟩
    | false =>
      rw [hlt, if_neg Bool.false_ne_true] at hR
      rw [if_neg Bool.false_ne_true]
      refine wpAny_execs_nil ?_
      dsimp only
      refine wpAny_execs_cons (wpAny_Break ?_)
      exact ⟨rfl, _, _, vs', p, tp, rfl, At.sel H5 ["newitem", "pos", "heap"], hp, hl3, hR⟩
  · refine WhlIf.no (by simpa using hap) ?_
    refine ⟨rfl, _, _, vs', p, tp, rfl, At.sel H3 ["newitem", "pos", "heap"], hp, hl3, ?_⟩
    rw [← hR]
    cases k with
    | zero => rfl
    | succ k => simp only [sdF, hap, if_false]
end Mine
end
section
open PySem PySem.W PyProof.Rows PySem.Calls
namespace Mine

theorem lenA {w : World} {A : Around} {E : Value → Shared → Prop} {s : Shared} {g : Heap} {L : Addr} {l : List (Str × Value)} {news : List (Addr × Obj)} {d : Addr} {vs : List Value} {n : Nat} {Q : Value → Shared → Prop}
    (H : At g L s.heap l news) (hm : (d, listOf vs.toArray n) ∈ news) (hn : vs.length < 1000) (h : Q (.int vs.length (s.toks + 1)) { s with toks := s.toks + 1 + 1 }) : wpAny (MM w) A (call (.builtin "len") [.ref d]) Q E s := by
  refine len_list (PySem.IsL.isList (n := n) (H.get hm)) (by simp; omega) ?_
  simpa using h
theorem upC_lt {α : Type} {lt : α → α → Bool} {l : List α} {p : Nat} (h : 2 * p + 1 < l.length) : upC lt l p < l.length := by
  unfold upC
  split
  · rename_i e
    have := (Bool.and_eq_true_iff.mp e).1
    exact of_decide_eq_true this
  · exact h
theorem upC_gt {α : Type} {lt : α → α → Bool} {l : List α} {p : Nat} : p < upC lt l p := by
  unfold upC
  split <;> omega
theorem suF_len {α : Type} {lt : α → α → Bool} : ∀ (k p : Nat) (l : List α), (suF lt k p l).1.length = l.length
  | 0, _, _ => rfl
  | k + 1, p, l => by
    unfold suF
    split
    · split
      · rw [suF_len k, List.length_set]
      · rfl
    · rfl

theorem siftup_max_ok {w : World} {A : Around} {E : Value → Shared → Prop} {s : Shared} {g : Heap} {L : Addr} {l : List (Str × Value)} {rest : List (Addr × Obj)} {d u : Nat} {Q : Value → Shared → Prop} {ℓ : Addr} {vs : List Value} {n : Nat} {b : Nat} {tb : Tok} {lt : Value → Value → Bool} {S : List Value}
    (C : Cx w A L g d u) (H : At g L s.heap l ((ℓ, listOf vs.toArray n) :: rest)) (hne : ∀ p ∈ rest, p.1 ≠ ℓ) (c : CmpOk w rest (fun x y => lt y x) S) (hS : ∀ v ∈ vs, v ∈ S) (hb : b < vs.length) (hlen : vs.length < 1000) (hd : d < 800) (hu : u < 8000)
    (h : ∀ h' tk, At g L h' l ((ℓ, listOf (siftup lt b vs).toArray n) :: rest) → Q .none { s with heap := h', toks := tk }) :
    wpAny (MM w) A (call (.ref 70) [.ref ℓ, .int b tb]) Q E s := by
  have hcl := cLine_is
  refine callA (f := 70) C H (by k_is) (by k_is) (by simp only [recursionLimit]; omega) (binds := [("heap", .ref ℓ), ("pos", .int b tb)]) (BindsTo.of_eq rfl) (locs rfl) ?_ rfl rfl rfl rfl (by decide)
  intro g' L' h₁ tk C' H' _
  replace H' : At g' L' h₁ [("pos", .int b tb), ("heap", .ref ℓ)] ((ℓ, listOf vs.toArray n) :: rest) := H'
  obtain ⟨x, hx⟩ : ∃ x, vs[b]? = some x := ⟨_, List.getElem?_eq_getElem hb⟩
  have hxS : x ∈ S := hS x (List.mem_of_getElem? hx)
  have hres : siftup lt b vs = siftdown lt b (suF lt (vs.length - b) b vs).2 ((suF lt (vs.length - b) b vs).1.set (suF lt (vs.length - b) b vs).2 x) := by simp only [siftup, hx]
  rw [hres] at h
  -- endpos = len(heap)
  refine wpAny_execs_cons (wpAny_Assign_Name (Call_ (ldB C' H' (by k_is) (by boot_by_name) (by decide) (PyProof.Rows.callWith_builtin1 (spliced_more (ldA H' rfl (spliced_none (lenA H' (.head _) hlen ?_))) rfl) rfl rfl)) rfl) (by with_unfolding_all rfl))
  refine stA H' fun h₂ H2 => ?_
  dsimp only
  replace H2 : At g' L' h₂ [("endpos", .int vs.length _), ("pos", .int b tb), ("heap", .ref ℓ)] ((ℓ, listOf vs.toArray n) :: rest) := H2
  -- startpos = pos
  refine wpAny_execs_cons (wpAny_Assign_Name (ldA H2 rfl ?_) (by with_unfolding_all rfl))
  refine stA H2 fun h₃ H3 => ?_
  dsimp only
  replace H3 : At g' L' h₃ [("startpos", .int b tb), ("endpos", .int vs.length _), ("pos", .int b tb), ("heap", .ref ℓ)] ((ℓ, listOf vs.toArray n) :: rest) := H3
  -- newitem = heap[pos]
  refine wpAny_execs_cons (wpAny_Assign_Name (Subscript_ (ldA H3 rfl (ldA H3 rfl (itemA H3 (.head _) (by omega) (by omega) (v := x) (by rw [Int.toNat_natCast]; exact hx) ?_)))) (by with_unfolding_all rfl))
  refine stA H3 fun h₄ H4 => ?_
  dsimp only
  replace H4 : At g' L' h₄ [("newitem", x), ("startpos", .int b tb), ("endpos", .int vs.length _), ("pos", .int b tb), ("heap", .ref ℓ)] ((ℓ, listOf vs.toArray n) :: rest) := H4
  -- childpos = 2 * pos + 1
  refine wpAny_execs_cons (wpAny_Assign_Name (wpAny_BinOp (wpAny_BinOp (wpAny_Constant_int (ldA H4 rfl (mul_int (wpAny_Constant_int (add_int ?_)) (IntMulOk.of_left (by decide))))))) (by with_unfolding_all rfl))
  refine stA H4 fun h₅ H5 => ?_
  dsimp only
  replace H5 : At g' L' h₅ [("childpos", .int (2 * b + 1) _), ("newitem", x), ("startpos", .int b tb), ("endpos", .int vs.length _), ("pos", .int b tb), ("heap", .ref ℓ)] ((ℓ, listOf vs.toArray n) :: rest) := H5
  -- the loop
  refine wpAny_execs_cons (wpAny_mono (whileA (n := vs.length - b) (Q := fun f s' => f = .next ∧ ∃ (h' : Heap) (tk : Nat) (vs' : List Value) (p : Nat) (tp : Tok), s' = { s with heap := h', toks := tk } ∧ At g' L' h' [("newitem", x), ("startpos", .int b tb), ("pos", .int p tp), ("heap", .ref ℓ)] ((ℓ, listOf vs'.toArray n) :: rest) ∧ p < vs.length ∧ vs'.length = vs.length ∧ (∀ v ∈ vs', v ∈ S) ∧ (vs', p) = suF lt (vs.length - b) b vs)
    (fun k s' => ∃ (h' : Heap) (tk : Nat) (vs' : List Value) (p : Nat) (tp tc te : Tok), s' = { s with heap := h', toks := tk } ∧ At g' L' h' [("childpos", .int (2 * p + 1) tc), ("newitem", x), ("startpos", .int b tb), ("endpos", .int vs.length te), ("pos", .int p tp), ("heap", .ref ℓ)] ((ℓ, listOf vs'.toArray n) :: rest) ∧
      vs.length ≤ k + p ∧ p < vs.length ∧ vs'.length = vs.length ∧ (∀ v ∈ vs', v ∈ S) ∧ suF lt k p vs' = suF lt (vs.length - b) b vs) ?_ ⟨h₅, _, vs, b, tb, _, _, rfl, H5, by omega, hb, rfl, hS, rfl⟩) ?_ (fun _ _ z => z))
  rotate_left
  · rintro f s' ⟨rfl, h', tk', vs', p, tp, rfl, H6, hp, hl6, hS6, e6⟩
    dsimp only
    refine wpAny_execs_cons (wpAny_Assign_Subscript (ldA H6 rfl (ldA H6 rfl (ldA H6 rfl (setA H6 hne (by omega) (by omega) (by omega) fun h7 H7 => ?_)))) (by with_unfolding_all rfl))
    dsimp only
    rw [Int.toNat_natCast] at H7
    have e1 : (suF lt (vs.length - b) b vs).1 = vs' := by rw [← e6]
    have e2 : (suF lt (vs.length - b) b vs).2 = p := by rw [← e6]
    rw [e1, e2] at h
    refine wpAny_execs_cons (wpAny_Expr_any (Call_ (ldK C' H7 (by k_is) (callWith_K C'.kin (by k_is) (spliced_more (ldA H7 rfl (spliced_more (ldA H7 rfl (spliced_more (ldA H7 rfl (spliced_none ⟨?_, ?_⟩)) rfl)) rfl)) rfl) rfl rfl)) rfl) rfl (by with_unfolding_all rfl))
    · obtain ⟨m, F, _⟩ := H7.fr
      exact C'.kin.keeps F.keep
    · refine siftdown_max_ok (a := b) (b := p) C' H7 hne c (mem_set hS6 hxS) (by rw [List.length_set]; omega) (by rw [List.length_set]; omega) (by omega) (by omega) fun h8 tk8 H8 => ?_
      refine wpAny_execs_nil ⟨_, _, H8, fun H9 => ?_⟩
      exact h _ _ H9
  rintro k s' ⟨h', tk', vs', p, tp, tc, te, rfl, H6, hk, hp, hl6, hS6, hR⟩
  refine wpAny_isTrue_Compare1 (ldA H6 rfl (ldA H6 rfl (lt_int (wpAny_truthy_bool ?_))))
  by_cases hc : 2 * p + 1 < vs.length
  · refine WhlIf.yes (decide_eq_true (by omega)) ?_
    obtain ⟨k, rfl⟩ : ∃ k', k = k' + 1 := ⟨k - 1, by omega⟩
    have hq : upC lt vs' p < vs'.length := upC_lt (by omega)
    obtain ⟨y, hy⟩ : ∃ y, vs'[upC lt vs' p]? = some y := ⟨_, List.getElem?_eq_getElem hq⟩
    have hyS : y ∈ S := hS6 y (List.mem_of_getElem? hy)
    have hgt : p < upC lt vs' p := upC_gt
    have hcl6 : 2 * p + 1 < vs'.length := by omega
    rw [suF, if_pos hcl6, hy] at hR
    dsimp only at hR
    obtain ⟨z1, hz1⟩ : ∃ z, vs'[2 * p + 1]? = some z := ⟨_, List.getElem?_eq_getElem hcl6⟩
    have hz1S : z1 ∈ S := hS6 z1 (List.mem_of_getElem? hz1)
    -- rightpos = childpos + 1
    refine wpAny_execs_cons (wpAny_Assign_Name (wpAny_BinOp (ldA H6 rfl (wpAny_Constant_int (add_int ?_)))) (by with_unfolding_all rfl))
    refine stA H6 fun h₇ H7 => ?_
    dsimp only
    replace H7 : At g' L' h₇ [("rightpos", .int (2 * p + 1 + 1) _), ("childpos", .int (2 * p + 1) tc), ("newitem", x), ("startpos", .int b tb), ("endpos", .int vs.length te), ("pos", .int p tp), ("heap", .ref ℓ)] ((ℓ, listOf vs'.toArray n) :: rest) := H7
    -- the child that goes up
    refine wpAny_execs_cons (wpAny_mono (Q := fun f s' => f = .next ∧ ∃ (h' : Heap) (tk : Nat) (tc : Tok), s' = { s with heap := h', toks := tk } ∧ At g' L' h' [("childpos", .int (upC lt vs' p) tc), ("newitem", x), ("startpos", .int b tb), ("endpos", .int vs.length te), ("pos", .int p tp), ("heap", .ref ℓ)] ((ℓ, listOf vs'.toArray n) :: rest)) ?_ ?_ (fun _ _ z => z))
    · have stay : upC lt vs' p = 2 * p + 1 → ∃ (h' : Heap) (tk : Nat) (tc : Tok), ({ s with heap := h₇, toks := tk' + 1 + 1 + 1 } : Shared) = { s with heap := h', toks := tk } ∧ At g' L' h' [("childpos", .int (upC lt vs' p) tc), ("newitem", x), ("startpos", .int b tb), ("endpos", .int vs.length te), ("pos", .int p tp), ("heap", .ref ℓ)] ((ℓ, listOf vs'.toArray n) :: rest) := by
        intro e
        rw [e]
        exact ⟨_, _, tc, rfl, At.sel H7 ["childpos", "newitem", "startpos", "endpos", "pos", "heap"]⟩
      refine wpAny_If (isTrue_and (wpAny_isTrue_Compare1 (ldA H7 rfl (ldA H7 rfl (lt_int (wpAny_truthy_bool ?_))))))
      by_cases hr : 2 * p + 2 < vs.length
      · rw [if_pos (decide_eq_true (by omega))]
        have hr6 : 2 * p + 2 < vs'.length := by omega
        obtain ⟨z2, hz2⟩ : ∃ z, vs'[2 * p + 2]? = some z := ⟨_, List.getElem?_eq_getElem hr6⟩
        have hz2S : z2 ∈ S := hS6 z2 (List.mem_of_getElem? hz2)
        have hup : upC lt vs' p = if lt z1 z2 then 2 * p + 1 else 2 * p + 2 := by
          unfold upC ltAt
          rw [hz1, hz2, decide_eq_true hr6]
          show (if (true && !(lt z1 z2)) = true then _ else _) = _
          cases lt z1 z2 <;> rfl
        refine isTrue_and (isTrue_not (wpAny_isTrue_Compare1 (Subscript_ (ldA H7 rfl (ldA H7 rfl (itemA H7 (.head _) (by omega) (by omega) (v := z2) ?_ (Subscript_ (ldA H7 rfl (ldA H7 rfl (itemA H7 (.head _) (by omega) (by omega) (v := z1) ?_ (cmpA c C' H7 (by omega) hz2S hz1S (wpAny_truthy_bool ?_))))))))))))
        case refine_2 => rw [show ((2 * (p : Int) + 1).toNat) = 2 * p + 1 by omega]; exact hz1
        case refine_1 => rw [show ((2 * (p : Int) + 1 + 1).toNat) = 2 * p + 2 by omega]; exact hz2
        cases hlt : lt z1 z2 with
        | true =>
          rw [hlt, if_pos rfl] at hup
          rw [if_neg (by decide), if_neg (by decide)]
          exact wpAny_execs_nil ⟨rfl, stay hup⟩
        | false =>
          rw [hlt, if_neg (by decide)] at hup
          rw [if_pos (by decide)]
          refine isTrue_and_nil ?_
          rw [if_pos rfl]
          refine wpAny_execs_cons (wpAny_Assign_Name (ldA H7 rfl ?_) (by with_unfolding_all rfl))
          refine stA H7 fun h₈ H8 => ?_
          dsimp only
          refine wpAny_execs_nil ⟨rfl, ?_⟩
          rw [hup]
          have e2 : (2 * (p : Int) + 1 + 1) = ((2 * p + 2 : Nat) : Int) := by omega
          rw [e2] at H8
          exact ⟨_, _, _, rfl, At.sel H8 ["childpos", "newitem", "startpos", "endpos", "pos", "heap"]⟩
      · rw [if_neg (by simp; omega), if_neg (by decide)]
        refine wpAny_execs_nil ⟨rfl, stay ?_⟩
        unfold upC
        rw [decide_eq_false (by omega)]
        rfl
    · rintro f s' ⟨rfl, h8, tk8, tc8, rfl, H8⟩
      dsimp only
      -- heap[pos] = heap[childpos]
      refine wpAny_execs_cons (wpAny_Assign_Subscript (Subscript_ (ldA H8 rfl (ldA H8 rfl (itemA H8 (.head _) (by omega) (by omega) (v := y) (by rw [Int.toNat_natCast]; exact hy) (ldA H8 rfl (ldA H8 rfl (setA H8 hne (by omega) (by omega) (by omega) fun h9 H9 => ?_))))))) (by with_unfolding_all rfl))
      dsimp only
      rw [Int.toNat_natCast] at H9
      refine wpAny_execs_cons (wpAny_Assign_Name (ldA H9 rfl ?_) (by with_unfolding_all rfl))
      refine stA H9 fun h10 H10 => ?_
      dsimp only
      replace H10 : At g' L' h10 [("pos", .int (upC lt vs' p) tc8), ("childpos", .int (upC lt vs' p) tc8), ("newitem", x), ("startpos", .int b tb), ("endpos", .int vs.length te), ("heap", .ref ℓ)] ((ℓ, listOf (vs'.set p y).toArray n) :: rest) := H10
      refine wpAny_execs_cons (wpAny_Assign_Name (wpAny_BinOp (wpAny_BinOp (wpAny_Constant_int (ldA H10 rfl (mul_int (wpAny_Constant_int (add_int ?_)) (IntMulOk.of_left (by decide))))))) (by with_unfolding_all rfl))
      refine stA H10 fun h11 H11 => ?_
      dsimp only
      refine wpAny_execs_nil ?_
      refine' ⟨k, Nat.lt_succ_self _, _, _, vs'.set p y, upC lt vs' p, _, _, _, rfl, At.sel H11 ["childpos", "newitem", "startpos", "endpos", "pos", "heap"], by omega, by omega, by rw [List.length_set]; omega, mem_set hS6 hyS, hR⟩
  · refine WhlIf.no (decide_eq_false (by omega)) ?_
    refine ⟨rfl, _, _, vs', p, tp, rfl, At.sel H6 ["newitem", "startpos", "pos", "heap"], hp, hl6, hS6, ?_⟩
    rw [← hR]
    cases k with
    | zero => rfl
    | succ k => rw [suF, if_neg (by omega)]

theorem siftup_ok {w : World} {A : Around} {E : Value → Shared → Prop} {s : Shared} {g : Heap} {L : Addr} {l : List (Str × Value)} {rest : List (Addr × Obj)} {d u : Nat} {Q : Value → Shared → Prop} {ℓ : Addr} {vs : List Value} {n : Nat} {b : Nat} {tb : Tok} {lt : Value → Value → Bool} {S : List Value}
    (C : Cx w A L g d u) (H : At g L s.heap l ((ℓ, listOf vs.toArray n) :: rest)) (hne : ∀ p ∈ rest, p.1 ≠ ℓ) (c : CmpOk w rest lt S) (hS : ∀ v ∈ vs, v ∈ S) (hb : b < vs.length) (hlen : vs.length < 1000) (hd : d < 800) (hu : u < 8000)
    (h : ∀ h' tk, At g L h' l ((ℓ, listOf (siftup lt b vs).toArray n) :: rest) → Q .none { s with heap := h', toks := tk }) :
    wpAny (MM w) A (call (.ref 56) [.ref ℓ, .int b tb]) Q E s := by
  have hcl := cLine_is
  refine callA (f := 56) C H (by k_is) (by k_is) (by simp only [recursionLimit]; omega) (binds := [("heap", .ref ℓ), ("pos", .int b tb)]) (BindsTo.of_eq rfl) (locs rfl) ?_ rfl rfl rfl rfl (by decide)
  intro g' L' h₁ tk C' H' _
  replace H' : At g' L' h₁ [("pos", .int b tb), ("heap", .ref ℓ)] ((ℓ, listOf vs.toArray n) :: rest) := H'
  obtain ⟨x, hx⟩ : ∃ x, vs[b]? = some x := ⟨_, List.getElem?_eq_getElem hb⟩
  have hxS : x ∈ S := hS x (List.mem_of_getElem? hx)
  have hres : siftup lt b vs = siftdown lt b (suF lt (vs.length - b) b vs).2 ((suF lt (vs.length - b) b vs).1.set (suF lt (vs.length - b) b vs).2 x) := by simp only [siftup, hx]
  rw [hres] at h
  -- endpos = len(heap)
  refine wpAny_execs_cons (wpAny_Assign_Name (Call_ (ldB C' H' (by k_is) (by boot_by_name) (by decide) (PyProof.Rows.callWith_builtin1 (spliced_more (ldA H' rfl (spliced_none (lenA H' (.head _) hlen ?_))) rfl) rfl rfl)) rfl) (by with_unfolding_all rfl))
  refine stA H' fun h₂ H2 => ?_
  dsimp only
  replace H2 : At g' L' h₂ [("endpos", .int vs.length _), ("pos", .int b tb), ("heap", .ref ℓ)] ((ℓ, listOf vs.toArray n) :: rest) := H2
  -- startpos = pos
  refine wpAny_execs_cons (wpAny_Assign_Name (ldA H2 rfl ?_) (by with_unfolding_all rfl))
  refine stA H2 fun h₃ H3 => ?_
  dsimp only
  replace H3 : At g' L' h₃ [("startpos", .int b tb), ("endpos", .int vs.length _), ("pos", .int b tb), ("heap", .ref ℓ)] ((ℓ, listOf vs.toArray n) :: rest) := H3
  -- newitem = heap[pos]
  refine wpAny_execs_cons (wpAny_Assign_Name (Subscript_ (ldA H3 rfl (ldA H3 rfl (itemA H3 (.head _) (by omega) (by omega) (v := x) (by rw [Int.toNat_natCast]; exact hx) ?_)))) (by with_unfolding_all rfl))
  refine stA H3 fun h₄ H4 => ?_
  dsimp only
  replace H4 : At g' L' h₄ [("newitem", x), ("startpos", .int b tb), ("endpos", .int vs.length _), ("pos", .int b tb), ("heap", .ref ℓ)] ((ℓ, listOf vs.toArray n) :: rest) := H4
  -- childpos = 2 * pos + 1
  refine wpAny_execs_cons (wpAny_Assign_Name (wpAny_BinOp (wpAny_BinOp (wpAny_Constant_int (ldA H4 rfl (mul_int (wpAny_Constant_int (add_int ?_)) (IntMulOk.of_left (by decide))))))) (by with_unfolding_all rfl))
  refine stA H4 fun h₅ H5 => ?_
  dsimp only
  replace H5 : At g' L' h₅ [("childpos", .int (2 * b + 1) _), ("newitem", x), ("startpos", .int b tb), ("endpos", .int vs.length _), ("pos", .int b tb), ("heap", .ref ℓ)] ((ℓ, listOf vs.toArray n) :: rest) := H5
  -- the loop
  refine wpAny_execs_cons (wpAny_mono (whileA (n := vs.length - b) (Q := fun f s' => f = .next ∧ ∃ (h' : Heap) (tk : Nat) (vs' : List Value) (p : Nat) (tp : Tok), s' = { s with heap := h', toks := tk } ∧ At g' L' h' [("newitem", x), ("startpos", .int b tb), ("pos", .int p tp), ("heap", .ref ℓ)] ((ℓ, listOf vs'.toArray n) :: rest) ∧ p < vs.length ∧ vs'.length = vs.length ∧ (∀ v ∈ vs', v ∈ S) ∧ (vs', p) = suF lt (vs.length - b) b vs)
    (fun k s' => ∃ (h' : Heap) (tk : Nat) (vs' : List Value) (p : Nat) (tp tc te : Tok), s' = { s with heap := h', toks := tk } ∧ At g' L' h' [("childpos", .int (2 * p + 1) tc), ("newitem", x), ("startpos", .int b tb), ("endpos", .int vs.length te), ("pos", .int p tp), ("heap", .ref ℓ)] ((ℓ, listOf vs'.toArray n) :: rest) ∧
      vs.length ≤ k + p ∧ p < vs.length ∧ vs'.length = vs.length ∧ (∀ v ∈ vs', v ∈ S) ∧ suF lt k p vs' = suF lt (vs.length - b) b vs) ?_ ⟨h₅, _, vs, b, tb, _, _, rfl, H5, by omega, hb, rfl, hS, rfl⟩) ?_ (fun _ _ z => z))
  rotate_left
  · rintro f s' ⟨rfl, h', tk', vs', p, tp, rfl, H6, hp, hl6, hS6, e6⟩
    dsimp only
    refine wpAny_execs_cons (wpAny_Assign_Subscript (ldA H6 rfl (ldA H6 rfl (ldA H6 rfl (setA H6 hne (by omega) (by omega) (by omega) fun h7 H7 => ?_)))) (by with_unfolding_all rfl))
    dsimp only
    rw [Int.toNat_natCast] at H7
    have e1 : (suF lt (vs.length - b) b vs).1 = vs' := by rw [← e6]
    have e2 : (suF lt (vs.length - b) b vs).2 = p := by rw [← e6]
    rw [e1, e2] at h
    refine wpAny_execs_cons (wpAny_Expr_any (Call_ (ldK C' H7 (by k_is) (callWith_K C'.kin (by k_is) (spliced_more (ldA H7 rfl (spliced_more (ldA H7 rfl (spliced_more (ldA H7 rfl (spliced_none ⟨?_, ?_⟩)) rfl)) rfl)) rfl) rfl rfl)) rfl) rfl (by with_unfolding_all rfl))
    · obtain ⟨m, F, _⟩ := H7.fr
      exact C'.kin.keeps F.keep
    · refine siftdown_ok (a := b) (b := p) C' H7 hne c (mem_set hS6 hxS) (by rw [List.length_set]; omega) (by rw [List.length_set]; omega) (by omega) (by omega) fun h8 tk8 H8 => ?_
      refine wpAny_execs_nil ⟨_, _, H8, fun H9 => ?_⟩
      exact h _ _ H9
  rintro k s' ⟨h', tk', vs', p, tp, tc, te, rfl, H6, hk, hp, hl6, hS6, hR⟩
  refine wpAny_isTrue_Compare1 (ldA H6 rfl (ldA H6 rfl (lt_int (wpAny_truthy_bool ?_))))
  by_cases hc : 2 * p + 1 < vs.length
  · refine WhlIf.yes (decide_eq_true (by omega)) ?_
    obtain ⟨k, rfl⟩ : ∃ k', k = k' + 1 := ⟨k - 1, by omega⟩
    have hq : upC lt vs' p < vs'.length := upC_lt (by omega)
    obtain ⟨y, hy⟩ : ∃ y, vs'[upC lt vs' p]? = some y := ⟨_, List.getElem?_eq_getElem hq⟩
    have hyS : y ∈ S := hS6 y (List.mem_of_getElem? hy)
    have hgt : p < upC lt vs' p := upC_gt
    have hcl6 : 2 * p + 1 < vs'.length := by omega
    rw [suF, if_pos hcl6, hy] at hR
    dsimp only at hR
    obtain ⟨z1, hz1⟩ : ∃ z, vs'[2 * p + 1]? = some z := ⟨_, List.getElem?_eq_getElem hcl6⟩
    have hz1S : z1 ∈ S := hS6 z1 (List.mem_of_getElem? hz1)
    -- rightpos = childpos + 1
    refine wpAny_execs_cons (wpAny_Assign_Name (wpAny_BinOp (ldA H6 rfl (wpAny_Constant_int (add_int ?_)))) (by with_unfolding_all rfl))
    refine stA H6 fun h₇ H7 => ?_
    dsimp only
    replace H7 : At g' L' h₇ [("rightpos", .int (2 * p + 1 + 1) _), ("childpos", .int (2 * p + 1) tc), ("newitem", x), ("startpos", .int b tb), ("endpos", .int vs.length te), ("pos", .int p tp), ("heap", .ref ℓ)] ((ℓ, listOf vs'.toArray n) :: rest) := H7
    -- the child that goes up
    refine wpAny_execs_cons (wpAny_mono (Q := fun f s' => f = .next ∧ ∃ (h' : Heap) (tk : Nat) (tc : Tok), s' = { s with heap := h', toks := tk } ∧ At g' L' h' [("childpos", .int (upC lt vs' p) tc), ("newitem", x), ("startpos", .int b tb), ("endpos", .int vs.length te), ("pos", .int p tp), ("heap", .ref ℓ)] ((ℓ, listOf vs'.toArray n) :: rest)) ?_ ?_ (fun _ _ z => z))
    · have stay : upC lt vs' p = 2 * p + 1 → ∃ (h' : Heap) (tk : Nat) (tc : Tok), ({ s with heap := h₇, toks := tk' + 1 + 1 + 1 } : Shared) = { s with heap := h', toks := tk } ∧ At g' L' h' [("childpos", .int (upC lt vs' p) tc), ("newitem", x), ("startpos", .int b tb), ("endpos", .int vs.length te), ("pos", .int p tp), ("heap", .ref ℓ)] ((ℓ, listOf vs'.toArray n) :: rest) := by
        intro e
        rw [e]
        exact ⟨_, _, tc, rfl, At.sel H7 ["childpos", "newitem", "startpos", "endpos", "pos", "heap"]⟩
      refine wpAny_If (isTrue_and (wpAny_isTrue_Compare1 (ldA H7 rfl (ldA H7 rfl (lt_int (wpAny_truthy_bool ?_))))))
      by_cases hr : 2 * p + 2 < vs.length
      · rw [if_pos (decide_eq_true (by omega))]
        have hr6 : 2 * p + 2 < vs'.length := by omega
        obtain ⟨z2, hz2⟩ : ∃ z, vs'[2 * p + 2]? = some z := ⟨_, List.getElem?_eq_getElem hr6⟩
        have hz2S : z2 ∈ S := hS6 z2 (List.mem_of_getElem? hz2)
        have hup : upC lt vs' p = if lt z1 z2 then 2 * p + 1 else 2 * p + 2 := by
          unfold upC ltAt
          rw [hz1, hz2, decide_eq_true hr6]
          show (if (true && !(lt z1 z2)) = true then _ else _) = _
          cases lt z1 z2 <;> rfl
        refine isTrue_and (isTrue_not (wpAny_isTrue_Compare1 (Subscript_ (ldA H7 rfl (ldA H7 rfl (itemA H7 (.head _) (by omega) (by omega) (v := z1) ?_ (Subscript_ (ldA H7 rfl (ldA H7 rfl (itemA H7 (.head _) (by omega) (by omega) (v := z2) ?_ (cmpA c C' H7 (by omega) hz1S hz2S (wpAny_truthy_bool ?_))))))))))))
        case refine_1 => rw [show ((2 * (p : Int) + 1).toNat) = 2 * p + 1 by omega]; exact hz1
        case refine_2 => rw [show ((2 * (p : Int) + 1 + 1).toNat) = 2 * p + 2 by omega]; exact hz2
        cases hlt : lt z1 z2 with
        | true =>
          rw [hlt, if_pos rfl] at hup
          rw [if_neg (by decide), if_neg (by decide)]
          exact wpAny_execs_nil ⟨rfl, stay hup⟩
        | false =>
          rw [hlt, if_neg (by decide)] at hup
          rw [if_pos (by decide)]
          refine isTrue_and_nil ?_
          rw [if_pos rfl]
          refine wpAny_execs_cons (wpAny_Assign_Name (ldA H7 rfl ?_) (by with_unfolding_all rfl))
          refine stA H7 fun h₈ H8 => ?_
          dsimp only
          refine wpAny_execs_nil ⟨rfl, ?_⟩
          rw [hup]
          have e2 : (2 * (p : Int) + 1 + 1) = ((2 * p + 2 : Nat) : Int) := by omega
          rw [e2] at H8
          exact ⟨_, _, _, rfl, At.sel H8 ["childpos", "newitem", "startpos", "endpos", "pos", "heap"]⟩
      · rw [if_neg (by simp; omega), if_neg (by decide)]
        refine wpAny_execs_nil ⟨rfl, stay ?_⟩
        unfold upC
        rw [decide_eq_false (by omega)]
        rfl
    · rintro f s' ⟨rfl, h8, tk8, tc8, rfl, H8⟩
      dsimp only
      -- heap[pos] = heap[childpos]
      refine wpAny_execs_cons (wpAny_Assign_Subscript (Subscript_ (ldA H8 rfl (ldA H8 rfl (itemA H8 (.head _) (by omega) (by omega) (v := y) (by rw [Int.toNat_natCast]; exact hy) (ldA H8 rfl (ldA H8 rfl (setA H8 hne (by omega) (by omega) (by omega) fun h9 H9 => ?_))))))) (by with_unfolding_all rfl))
      dsimp only
      rw [Int.toNat_natCast] at H9
      refine wpAny_execs_cons (wpAny_Assign_Name (ldA H9 rfl ?_) (by with_unfolding_all rfl))
      refine stA H9 fun h10 H10 => ?_
      dsimp only
      replace H10 : At g' L' h10 [("pos", .int (upC lt vs' p) tc8), ("childpos", .int (upC lt vs' p) tc8), ("newitem", x), ("startpos", .int b tb), ("endpos", .int vs.length te), ("heap", .ref ℓ)] ((ℓ, listOf (vs'.set p y).toArray n) :: rest) := H10
      refine wpAny_execs_cons (wpAny_Assign_Name (wpAny_BinOp (wpAny_BinOp (wpAny_Constant_int (ldA H10 rfl (mul_int (wpAny_Constant_int (add_int ?_)) (IntMulOk.of_left (by decide))))))) (by with_unfolding_all rfl))
      refine stA H10 fun h11 H11 => ?_
      dsimp only
      refine wpAny_execs_nil ?_
      refine' ⟨k, Nat.lt_succ_self _, _, _, vs'.set p y, upC lt vs' p, _, _, _, rfl, At.sel H11 ["childpos", "newitem", "startpos", "endpos", "pos", "heap"], by omega, by omega, by rw [List.length_set]; omega, mem_set hS6 hyS, hR⟩
  · refine WhlIf.no (decide_eq_false (by omega)) ?_
    refine ⟨rfl, _, _, vs', p, tp, rfl, At.sel H6 ["newitem", "startpos", "pos", "heap"], hp, hl6, hS6, ?_⟩
    rw [← hR]
    cases k with
    | zero => rfl
    | succ k => rw [suF, if_neg (by omega)]
end Mine
end
section
open PySem PySem.W PyProof.Rows PySem.Calls
namespace Mine
theorem CmpOk.mono {w : World} {rest rest' : List (Addr × Obj)} {lt : Value → Value → Bool} {S : List Value} (c : CmpOk w rest lt S) (h : ∀ p ∈ rest, p ∈ rest') : CmpOk w rest' lt S :=
  fun x hx y hy A s Q E hu hl hq => c x hx y hy A s Q E hu (fun p hp => hl p (h p hp)) hq
theorem sdF_len {α : Type} {lt : α → α → Bool} {a : Nat} {x : α} : ∀ (k p : Nat) (l : List α), (sdF lt a x k p l).length = l.length
  | 0, _, _ => by simp [sdF]
  | k + 1, p, l => by
    unfold sdF
    split
    · split
      · split
        · rw [sdF_len k, List.length_set]
        · rw [List.length_set]
      · rw [List.length_set]
    · rw [List.length_set]
theorem siftdown_len {α : Type} {lt : α → α → Bool} {a p : Nat} {l : List α} : (siftdown lt a p l).length = l.length := by
  unfold siftdown
  split
  · exact sdF_len _ _ _
  · rfl
theorem siftup_len {α : Type} {lt : α → α → Bool} {p : Nat} {l : List α} : (siftup lt p l).length = l.length := by
  unfold siftup
  split
  · rw [siftdown_len, List.length_set, suF_len]
  · rfl
theorem sdF_sub {α : Type} {lt : α → α → Bool} {a : Nat} {x : α} {S : List α} (hx : x ∈ S) : ∀ (k p : Nat) (l : List α), (∀ v ∈ l, v ∈ S) → ∀ v ∈ sdF lt a x k p l, v ∈ S
  | 0, _, _, h => mem_set h hx
  | k + 1, p, l, h => by
    unfold sdF
    split
    · split
      · rename_i y hy
        split
        · exact sdF_sub hx k _ _ (mem_set h (h y (List.mem_of_getElem? hy)))
        · exact mem_set h hx
      · exact mem_set h hx
    · exact mem_set h hx
theorem siftdown_sub {α : Type} {lt : α → α → Bool} {a p : Nat} {l S : List α} (h : ∀ v ∈ l, v ∈ S) : ∀ v ∈ siftdown lt a p l, v ∈ S := by
  unfold siftdown
  split
  · rename_i x hx
    exact sdF_sub (h x (List.mem_of_getElem? hx)) _ _ _ h
  · exact h
theorem suF_sub {α : Type} {lt : α → α → Bool} {S : List α} : ∀ (k p : Nat) (l : List α), (∀ v ∈ l, v ∈ S) → ∀ v ∈ (suF lt k p l).1, v ∈ S
  | 0, _, _, h => h
  | k + 1, p, l, h => by
    unfold suF
    split
    · split
      · rename_i y hy
        exact suF_sub k _ _ (mem_set h (h y (List.mem_of_getElem? hy)))
      · exact h
    · exact h
theorem siftup_sub {α : Type} {lt : α → α → Bool} {p : Nat} {l S : List α} (h : ∀ v ∈ l, v ∈ S) : ∀ v ∈ siftup lt p l, v ∈ S := by
  unfold siftup
  split
  · rename_i x hx
    exact siftdown_sub (mem_set (suF_sub _ _ _ h) (h x (List.mem_of_getElem? hx)))
  · exact h

theorem lookup_put {l : List (Str × Value)} {x y : Str} {v u : Value} (hne : x ≠ y) (h : l.lookup x = some v) : (put l y u).lookup x = some v := by
  unfold put
  rw [List.lookup_cons]
  have : (x == y) = false := beq_eq_false_iff_ne.mpr hne
  rw [this]
  dsimp only
  induction l with
  | nil => cases h
  | cons p r ih =>
    obtain ⟨px, pv⟩ := p
    rw [List.lookup_cons] at h
    by_cases e : (x == px) = true
    · rw [e] at h
      have ex := beq_iff_eq.mp e
      subst ex
      rw [List.filter_cons]
      simp only [this, Bool.not_false, if_true]
      rw [List.lookup_cons, e]
      exact h
    · have e' : (x == px) = false := by simpa using e
      rw [e'] at h
      rw [List.filter_cons]
      split
      · rw [List.lookup_cons, e']
        exact ih h
      · exact ih h

theorem heapreplace_max_ok {w : World} {A : Around} {E : Value → Shared → Prop} {s : Shared} {g : Heap} {L : Addr} {l : List (Str × Value)} {rest : List (Addr × Obj)} {d u : Nat} {Q : Value → Shared → Prop} {ℓ : Addr} {vs : List Value} {n : Nat} {y : Value} {lt : Value → Value → Bool} {S : List Value}
    (C : Cx w A L g d u) (H : At g L s.heap l ((ℓ, listOf vs.toArray n) :: rest)) (hne : ∀ p ∈ rest, p.1 ≠ ℓ) (c : CmpOk w rest (fun x y => lt y x) S) (hS : ∀ v ∈ vs, v ∈ S) (hy : y ∈ S) (hb : 0 < vs.length) (hlen : vs.length < 1000) (hd : d < 700) (hu : u < 7000)
    (h : ∀ v h' tk, At g L h' l ((ℓ, listOf (hreplace lt vs y).toArray n) :: rest) → Q v { s with heap := h', toks := tk }) :
    wpAny (MM w) A (call (.ref 35) [.ref ℓ, y]) Q E s := by
  have hcl := cLine_is
  refine callA (f := 35) C H (by k_is) (by k_is) (by simp only [recursionLimit]; omega) (binds := [("heap", .ref ℓ), ("item", y)]) (BindsTo.of_eq rfl) (locs rfl) ?_ rfl rfl rfl rfl (by decide)
  intro g' L' h₁ tk C' H' _
  replace H' : At g' L' h₁ [("item", y), ("heap", .ref ℓ)] ((ℓ, listOf vs.toArray n) :: rest) := H'
  obtain ⟨x, hx⟩ : ∃ x, vs[0]? = some x := ⟨_, List.getElem?_eq_getElem hb⟩
  refine wpAny_execs_cons (wpAny_Assign_Name (Subscript_ (ldA H' rfl (wpAny_Constant_int (itemA H' (.head _) (by omega) (by omega) (v := x) hx ?_)))) (by with_unfolding_all rfl))
  refine stA H' fun h₂ H2 => ?_
  dsimp only
  refine wpAny_execs_cons (wpAny_Assign_Subscript (ldA H2 rfl (ldA H2 rfl (wpAny_Constant_int (setA H2 hne (by omega) (by omega) (by omega) fun h3 H3 => ?_)))) (by with_unfolding_all rfl))
  dsimp only
  replace H3 : At g' L' h3 [("returnitem", x), ("item", y), ("heap", .ref ℓ)] ((ℓ, listOf (vs.set 0 y).toArray n) :: rest) := H3
  refine wpAny_execs_cons (wpAny_Expr_any (Call_ (ldK C' H3 (by k_is) (callWith_K C'.kin (by k_is) (spliced_more (ldA H3 rfl (spliced_more (wpAny_Constant_int (spliced_none ⟨?_, ?_⟩)) rfl)) rfl) rfl rfl)) rfl) rfl (by with_unfolding_all rfl))
  · obtain ⟨m, F, _⟩ := H3.fr
    exact C'.kin.keeps F.keep
  · refine siftup_max_ok (b := 0) C' H3 hne c (mem_set hS hy) (by rw [List.length_set]; omega) (by rw [List.length_set]; omega) (by omega) (by omega) fun h4 tk4 H4 => ?_
    dsimp only
    refine wpAny_execs_cons (wpAny_Return_some (ldA H4 rfl ?_))
    exact ⟨_, _, H4, fun H5 => h _ _ _ H5⟩

theorem heapify_max_ok {w : World} {A : Around} {E : Value → Shared → Prop} {s : Shared} {g : Heap} {L : Addr} {l : List (Str × Value)} {rest : List (Addr × Obj)} {d u : Nat} {Q : Value → Shared → Prop} {ℓ : Addr} {vs : List Value} {n : Nat} {lt : Value → Value → Bool} {S : List Value}
    (C : Cx w A L g d u) (H : At g L s.heap l ((ℓ, listOf vs.toArray n) :: rest)) (hne : ∀ p ∈ rest, p.1 ≠ ℓ) (c : CmpOk w rest (fun x y => lt y x) S) (hS : ∀ v ∈ vs, v ∈ S) (hlen : vs.length < 1000) (hd : d < 700) (hu : u < 7000)
    (h : ∀ h' tk, At g L h' l ((ℓ, listOf (heapifyF lt (vs.length / 2) vs).toArray n) :: rest) → Q .none { s with heap := h', toks := tk }) :
    wpAny (MM w) A (call (.ref 42) [.ref ℓ]) Q E s := by
  have hcl := cLine_is
  refine callA (f := 42) C H (by k_is) (by k_is) (by simp only [recursionLimit]; omega) (binds := [("x", .ref ℓ)]) (BindsTo.of_eq rfl) (locs rfl) ?_ rfl rfl rfl rfl (by decide)
  intro g' L' h₁ tk C' H' _
  replace H' : At g' L' h₁ [("x", .ref ℓ)] ((ℓ, listOf vs.toArray n) :: rest) := H'
  refine wpAny_execs_cons (wpAny_Assign_Name (Call_ (ldB C' H' (by k_is) (by boot_by_name) (by decide) (PyProof.Rows.callWith_builtin1 (spliced_more (ldA H' rfl (spliced_none (lenA H' (.head _) hlen ?_))) rfl) rfl rfl)) rfl) (by with_unfolding_all rfl))
  refine stA H' fun h₂ H2 => ?_
  dsimp only
  replace H2 : At g' L' h₂ [("n", .int vs.length _), ("x", .ref ℓ)] ((ℓ, listOf vs.toArray n) :: rest) := H2
  have ediv : ((vs.length : Int).fdiv 2) = ((vs.length / 2 : Nat) : Int) := by rw [Int.fdiv_eq_ediv_of_nonneg _ (by omega)]; omega
  refine wpAny_execs_cons (forA ?_)
  refine Call_ (ldB C' H2 (by k_is) (by boot_by_name) (by decide) (PyProof.Rows.callWith_type1 (spliced_more ?_ rfl) rfl rfl)) rfl
  refine Call_ (ldB C' H2 (by k_is) (by boot_by_name) (by decide) (PyProof.Rows.callWith_type1 (spliced_more (wpAny_BinOp (ldA H2 rfl (wpAny_Constant_int (floordiv_int (by decide) ?_)))) rfl) rfl rfl)) rfl
  rw [ediv]
  refine spliced_none (rangeA H2 fun r h3 t3 u3 v3 tk3 H3 lt3 => ?_)
  refine spliced_none (revA H3 (.head _) (by omega) (by omega) fun it h4 H4 lt4 => ?_)
  refine wpAny_pyIter_rangeiter (H4.get (.head _)) ?_
  have hit : ∀ p ∈ (ℓ, listOf vs.toArray n) :: rest, p.1 ≠ it := fun p hp => Nat.ne_of_lt (lt4 p (.tail _ hp))
  have hitr : ∀ p ∈ rest, p.1 ≠ it := fun p hp => hit p (.tail _ hp)
  have hitl : ℓ ≠ it := hit _ (.head _)
  refine ⟨fun k s' => ∃ (h' : Heap) (tk : Nat) (vs' : List Value), s' = { s with heap := h', toks := tk } ∧ At g' L' h' [("x", .ref ℓ)] ((it, riObj ((k : Int) - 1) k (-1)) :: (ℓ, listOf vs'.toArray n) :: rest) ∧
      k ≤ vs.length ∧ vs'.length = vs.length ∧ (∀ v ∈ vs', v ∈ S) ∧ heapifyF lt k vs' = heapifyF lt (vs.length / 2) vs, vs.length / 2, ⟨_, _, vs, rfl, (H4.sel ["x"]).new (fun p hp => ?_), by omega, rfl, hS, rfl⟩, ?_⟩
  · rcases List.mem_cons.mp hp with rfl | hp
    · exact .head _
    · exact .tail _ (.tail _ hp)
  rintro k s' ⟨h', tk', vs', rfl, H5, hk, hl5, hS5, hR⟩
  have hd5 : ∀ p ∈ (ℓ, listOf vs'.toArray n) :: rest, p.1 ≠ it := fun p hp => by
    rcases List.mem_cons.mp hp with rfl | hp
    · exact hitl
    · exact hitr p hp
  cases k with
  | zero =>
    refine nextRend C'.handled H5 hd5 (by omega) fun h6 H6 => ?_
    dsimp only
    refine wpAny_execs_nil ⟨_, _, H6, fun H7 => ?_⟩
    have : vs' = heapifyF lt (vs.length / 2) vs := hR
    rw [this] at H7
    exact h _ _ H7
  | succ k =>
    refine nextR H5 hd5 (by omega) fun h6 H6 => ?_
    dsimp only
    refine goN (wpAny_assign_Name (stA H6 fun h7 H7 => ?_))
    dsimp only
    rw [show ((k + 1 : Nat) : Int) - 1 = (k : Int) by omega] at H7
    have H8 : At g' L' h7 [("i", .int k tk'), ("x", .ref ℓ)] ((ℓ, listOf vs'.toArray n) :: (it, riObj ((k : Int) - 1) k (-1)) :: rest) := by
      refine At.new H7 fun p hp => ?_
      rcases List.mem_cons.mp hp with rfl | hp
      · exact .tail _ (.head _)
      · rcases List.mem_cons.mp hp with rfl | hp
        · exact .head _
        · exact .tail _ (.tail _ hp)
    refine wpAny_execs_cons (wpAny_Expr_any (Call_ (ldK C' H8 (by k_is) (callWith_K C'.kin (by k_is) (spliced_more (ldA H8 rfl (spliced_more (ldA H8 rfl (spliced_none ⟨?_, ?_⟩)) rfl)) rfl) rfl rfl)) rfl) rfl (by with_unfolding_all rfl))
    · obtain ⟨m, F, _⟩ := H8.fr
      exact C'.kin.keeps F.keep
    · refine siftup_max_ok (b := k) C' H8 (fun p hp => ?_) (c.mono fun p hp => .tail _ hp) hS5 (by omega) (by omega) (by omega) (by omega) fun h9 tk9 H9 => ?_
      · rcases List.mem_cons.mp hp with rfl | hp
        · exact fun e => hitl e.symm
        · exact hne p hp
      · dsimp only
        refine wpAny_execs_nil ⟨k, Nat.lt_succ_self _, _, _, siftup lt k vs', rfl, At.new (At.sel H9 ["x"]) fun p hp => ?_, by omega, siftup_len.trans hl5, siftup_sub hS5, hR⟩
        rcases List.mem_cons.mp hp with rfl | hp
        · exact .tail _ (.head _)
        · rcases List.mem_cons.mp hp with rfl | hp
          · exact .head _
          · exact .tail _ (.tail _ hp)

theorem heapreplace_ok {w : World} {A : Around} {E : Value → Shared → Prop} {s : Shared} {g : Heap} {L : Addr} {l : List (Str × Value)} {rest : List (Addr × Obj)} {d u : Nat} {Q : Value → Shared → Prop} {ℓ : Addr} {vs : List Value} {n : Nat} {y : Value} {lt : Value → Value → Bool} {S : List Value}
    (C : Cx w A L g d u) (H : At g L s.heap l ((ℓ, listOf vs.toArray n) :: rest)) (hne : ∀ p ∈ rest, p.1 ≠ ℓ) (c : CmpOk w rest lt S) (hS : ∀ v ∈ vs, v ∈ S) (hy : y ∈ S) (hb : 0 < vs.length) (hlen : vs.length < 1000) (hd : d < 700) (hu : u < 7000)
    (h : ∀ v h' tk, At g L h' l ((ℓ, listOf (hreplace lt vs y).toArray n) :: rest) → Q v { s with heap := h', toks := tk }) :
    wpAny (MM w) A (call (.ref 21) [.ref ℓ, y]) Q E s := by
  have hcl := cLine_is
  refine callA (f := 21) C H (by k_is) (by k_is) (by simp only [recursionLimit]; omega) (binds := [("heap", .ref ℓ), ("item", y)]) (BindsTo.of_eq rfl) (locs rfl) ?_ rfl rfl rfl rfl (by decide)
  intro g' L' h₁ tk C' H' _
  replace H' : At g' L' h₁ [("item", y), ("heap", .ref ℓ)] ((ℓ, listOf vs.toArray n) :: rest) := H'
  obtain ⟨x, hx⟩ : ∃ x, vs[0]? = some x := ⟨_, List.getElem?_eq_getElem hb⟩
  refine wpAny_execs_cons (wpAny_Assign_Name (Subscript_ (ldA H' rfl (wpAny_Constant_int (itemA H' (.head _) (by omega) (by omega) (v := x) hx ?_)))) (by with_unfolding_all rfl))
  refine stA H' fun h₂ H2 => ?_
  dsimp only
  refine wpAny_execs_cons (wpAny_Assign_Subscript (ldA H2 rfl (ldA H2 rfl (wpAny_Constant_int (setA H2 hne (by omega) (by omega) (by omega) fun h3 H3 => ?_)))) (by with_unfolding_all rfl))
  dsimp only
  replace H3 : At g' L' h3 [("returnitem", x), ("item", y), ("heap", .ref ℓ)] ((ℓ, listOf (vs.set 0 y).toArray n) :: rest) := H3
  refine wpAny_execs_cons (wpAny_Expr_any (Call_ (ldK C' H3 (by k_is) (callWith_K C'.kin (by k_is) (spliced_more (ldA H3 rfl (spliced_more (wpAny_Constant_int (spliced_none ⟨?_, ?_⟩)) rfl)) rfl) rfl rfl)) rfl) rfl (by with_unfolding_all rfl))
  · obtain ⟨m, F, _⟩ := H3.fr
    exact C'.kin.keeps F.keep
  · refine siftup_ok (b := 0) C' H3 hne c (mem_set hS hy) (by rw [List.length_set]; omega) (by rw [List.length_set]; omega) (by omega) (by omega) fun h4 tk4 H4 => ?_
    dsimp only
    refine wpAny_execs_cons (wpAny_Return_some (ldA H4 rfl ?_))
    exact ⟨_, _, H4, fun H5 => h _ _ _ H5⟩

theorem heapify_ok {w : World} {A : Around} {E : Value → Shared → Prop} {s : Shared} {g : Heap} {L : Addr} {l : List (Str × Value)} {rest : List (Addr × Obj)} {d u : Nat} {Q : Value → Shared → Prop} {ℓ : Addr} {vs : List Value} {n : Nat} {lt : Value → Value → Bool} {S : List Value}
    (C : Cx w A L g d u) (H : At g L s.heap l ((ℓ, listOf vs.toArray n) :: rest)) (hne : ∀ p ∈ rest, p.1 ≠ ℓ) (c : CmpOk w rest lt S) (hS : ∀ v ∈ vs, v ∈ S) (hlen : vs.length < 1000) (hd : d < 700) (hu : u < 7000)
    (h : ∀ h' tk, At g L h' l ((ℓ, listOf (heapifyF lt (vs.length / 2) vs).toArray n) :: rest) → Q .none { s with heap := h', toks := tk }) :
    wpAny (MM w) A (call (.ref 28) [.ref ℓ]) Q E s := by
  have hcl := cLine_is
  refine callA (f := 28) C H (by k_is) (by k_is) (by simp only [recursionLimit]; omega) (binds := [("x", .ref ℓ)]) (BindsTo.of_eq rfl) (locs rfl) ?_ rfl rfl rfl rfl (by decide)
  intro g' L' h₁ tk C' H' _
  replace H' : At g' L' h₁ [("x", .ref ℓ)] ((ℓ, listOf vs.toArray n) :: rest) := H'
  refine wpAny_execs_cons (wpAny_Assign_Name (Call_ (ldB C' H' (by k_is) (by boot_by_name) (by decide) (PyProof.Rows.callWith_builtin1 (spliced_more (ldA H' rfl (spliced_none (lenA H' (.head _) hlen ?_))) rfl) rfl rfl)) rfl) (by with_unfolding_all rfl))
  refine stA H' fun h₂ H2 => ?_
  dsimp only
  replace H2 : At g' L' h₂ [("n", .int vs.length _), ("x", .ref ℓ)] ((ℓ, listOf vs.toArray n) :: rest) := H2
  have ediv : ((vs.length : Int).fdiv 2) = ((vs.length / 2 : Nat) : Int) := by rw [Int.fdiv_eq_ediv_of_nonneg _ (by omega)]; omega
  refine wpAny_execs_cons (forA ?_)
  refine Call_ (ldB C' H2 (by k_is) (by boot_by_name) (by decide) (PyProof.Rows.callWith_type1 (spliced_more ?_ rfl) rfl rfl)) rfl
  refine Call_ (ldB C' H2 (by k_is) (by boot_by_name) (by decide) (PyProof.Rows.callWith_type1 (spliced_more (wpAny_BinOp (ldA H2 rfl (wpAny_Constant_int (floordiv_int (by decide) ?_)))) rfl) rfl rfl)) rfl
  rw [ediv]
  refine spliced_none (rangeA H2 fun r h3 t3 u3 v3 tk3 H3 lt3 => ?_)
  refine spliced_none (revA H3 (.head _) (by omega) (by omega) fun it h4 H4 lt4 => ?_)
  refine wpAny_pyIter_rangeiter (H4.get (.head _)) ?_
  have hit : ∀ p ∈ (ℓ, listOf vs.toArray n) :: rest, p.1 ≠ it := fun p hp => Nat.ne_of_lt (lt4 p (.tail _ hp))
  have hitr : ∀ p ∈ rest, p.1 ≠ it := fun p hp => hit p (.tail _ hp)
  have hitl : ℓ ≠ it := hit _ (.head _)
  refine ⟨fun k s' => ∃ (h' : Heap) (tk : Nat) (vs' : List Value), s' = { s with heap := h', toks := tk } ∧ At g' L' h' [("x", .ref ℓ)] ((it, riObj ((k : Int) - 1) k (-1)) :: (ℓ, listOf vs'.toArray n) :: rest) ∧
      k ≤ vs.length ∧ vs'.length = vs.length ∧ (∀ v ∈ vs', v ∈ S) ∧ heapifyF lt k vs' = heapifyF lt (vs.length / 2) vs, vs.length / 2, ⟨_, _, vs, rfl, (H4.sel ["x"]).new (fun p hp => ?_), by omega, rfl, hS, rfl⟩, ?_⟩
  · rcases List.mem_cons.mp hp with rfl | hp
    · exact .head _
    · exact .tail _ (.tail _ hp)
  rintro k s' ⟨h', tk', vs', rfl, H5, hk, hl5, hS5, hR⟩
  have hd5 : ∀ p ∈ (ℓ, listOf vs'.toArray n) :: rest, p.1 ≠ it := fun p hp => by
    rcases List.mem_cons.mp hp with rfl | hp
    · exact hitl
    · exact hitr p hp
  cases k with
  | zero =>
    refine nextRend C'.handled H5 hd5 (by omega) fun h6 H6 => ?_
    dsimp only
    refine wpAny_execs_nil ⟨_, _, H6, fun H7 => ?_⟩
    have : vs' = heapifyF lt (vs.length / 2) vs := hR
    rw [this] at H7
    exact h _ _ H7
  | succ k =>
    refine nextR H5 hd5 (by omega) fun h6 H6 => ?_
    dsimp only
    refine goN (wpAny_assign_Name (stA H6 fun h7 H7 => ?_))
    dsimp only
    rw [show ((k + 1 : Nat) : Int) - 1 = (k : Int) by omega] at H7
    have H8 : At g' L' h7 [("i", .int k tk'), ("x", .ref ℓ)] ((ℓ, listOf vs'.toArray n) :: (it, riObj ((k : Int) - 1) k (-1)) :: rest) := by
      refine At.new H7 fun p hp => ?_
      rcases List.mem_cons.mp hp with rfl | hp
      · exact .tail _ (.head _)
      · rcases List.mem_cons.mp hp with rfl | hp
        · exact .head _
        · exact .tail _ (.tail _ hp)
    refine wpAny_execs_cons (wpAny_Expr_any (Call_ (ldK C' H8 (by k_is) (callWith_K C'.kin (by k_is) (spliced_more (ldA H8 rfl (spliced_more (ldA H8 rfl (spliced_none ⟨?_, ?_⟩)) rfl)) rfl) rfl rfl)) rfl) rfl (by with_unfolding_all rfl))
    · obtain ⟨m, F, _⟩ := H8.fr
      exact C'.kin.keeps F.keep
    · refine siftup_ok (b := k) C' H8 (fun p hp => ?_) (c.mono fun p hp => .tail _ hp) hS5 (by omega) (by omega) (by omega) (by omega) fun h9 tk9 H9 => ?_
      · rcases List.mem_cons.mp hp with rfl | hp
        · exact fun e => hitl e.symm
        · exact hne p hp
      · dsimp only
        refine wpAny_execs_nil ⟨k, Nat.lt_succ_self _, _, _, siftup lt k vs', rfl, At.new (At.sel H9 ["x"]) fun p hp => ?_, by omega, siftup_len.trans hl5, siftup_sub hS5, hR⟩
        rcases List.mem_cons.mp hp with rfl | hp
        · exact .tail _ (.head _)
        · rcases List.mem_cons.mp hp with rfl | hp
          · exact .head _
          · exact .tail _ (.tail _ hp)
end Mine
end
section
open PySem PySem.W PyProof.Rows PySem.Calls PyProof.Rows.LCg
namespace Mine
/-- tuples of the ledger: address and sign -/
structure Tab (kf : Str → Int) (tups : List (Addr × Obj)) (T : List (Addr × Str)) : Prop where
  tup : ∀ p ∈ T, ∃ t i u v, (p.1, tupOf [.int (kf p.2) t, .int i u, .str p.2 v]) ∈ tups
  nd : (T.map (·.1)).Nodup
  lt : ∀ p ∈ T, ∃ o, (p.1, o) ∈ tups
theorem Tab.nil {kf : Str → Int} : Tab kf [] [] := ⟨fun _ h => (nomatch h), .nil, fun _ h => (nomatch h)⟩
theorem Tab.add {kf : Str → Int} {tups : List (Addr × Obj)} {T : List (Addr × Str)} {a : Addr} {c : Str} {t u v : Tok} {i : Int} (X : Tab kf tups T) (hf : ∀ p ∈ tups, p.1 ≠ a) : Tab kf ((a, tupOf [.int (kf c) t, .int i u, .str c v]) :: tups) (T ++ [(a, c)]) := by
  refine ⟨fun p hp => ?_, ?_, fun p hp => ?_⟩
  · rcases List.mem_append.mp hp with hp | hp
    · obtain ⟨t, i, u, v, h⟩ := X.tup p hp
      exact ⟨t, i, u, v, .tail _ h⟩
    · rw [List.mem_singleton.mp hp]
      exact ⟨_, _, _, _, .head _⟩
  · rw [List.map_append, List.nodup_append]
    refine ⟨X.nd, by simp, ?_⟩
    intro x hx y hy
    simp only [List.map_cons, List.map_nil, List.mem_singleton] at hy
    obtain ⟨p, hp, rfl⟩ := List.mem_map.mp hx
    obtain ⟨o, ho⟩ := X.lt p hp
    rw [hy]
    exact hf _ ho
  · rcases List.mem_append.mp hp with hp | hp
    · obtain ⟨o, ho⟩ := X.lt p hp
      exact ⟨o, .tail _ ho⟩
    · rw [List.mem_singleton.mp hp]
      exact ⟨_, .head _⟩

abbrev refs (T : List (Addr × Str)) : List Value := T.map fun p => .ref p.1

section
variable {w : World} {A : Around} {E : Value → Shared → Prop} {s : Shared} {g : Heap} {L : Addr} {l : List (Str × Value)} {rest : List (Addr × Obj)} {d u : Nat} {it dct f cK : Addr} {oI oK : Obj} {ks rem : List Str} {ep : Nat} {kf : Str → Int} {need : List (Addr × Obj)}

theorem keyComp {iter : PySem.Expr} {scope cs : Scope} {cn : Str} {ccd : Value} {a : Addr} {p1 p2 p3 p4 p5 p6 p7 p8 p9 p10 py spos : Pos} {n1 n2 : Nat} {x0 left0 step : Int} {Q : Flow → Shared → Prop}
    (C : Cx w A L g d u) (hd : d < 800) (hu : u < 8000) (KO : KeyOk w f need kf ks) (hneed : ∀ p ∈ need, p ∈ rest) (S : Src w rest dct ks ep) (hrem : ∀ c ∈ rem, c ∈ ks) (hlen : rem.length < 1000)
    (hK : (cK, oK) ∈ rest) (hKd : oK.data = .cell (some (.ref f))) (hlt : ∀ p ∈ rest, p.1 ≠ it)
    (hsw : swapsWith (.ListComp (.Tuple [.Call (.Name (Str.ofString "key") p1) [.Name (Str.ofString "elem") p2] [] p3, .Name (Str.ofString "i") p4, .Name (Str.ofString "elem") p5] n1 p6) [⟨.Tuple [.Name (Str.ofString "i") p7, .Name (Str.ofString "elem") p8] n2 p9, iter, [], 0⟩] scope p10) (some (.Name (Str.ofString "result") py)) spos.line (envX cn cs L a ccd [(Str.ofString "key", cK)]) = pure true)
    (hclos : closureFor scope (envX cn cs L a ccd [(Str.ofString "key", cK)]) = pure [(Str.ofString "key", cK)]) (hkind : scope.kind = .function) (hsc : scope.names = [(Str.ofString ".0", .local), (Str.ofString "i", .local), (Str.ofString "elem", .local), (Str.ofString "key", .free)]) (hke : cs.kind = .function) (hkk : cs.names.lookup (Str.ofString "key") = some .cell) (hre : cs.names.lookup (Str.ofString "result") = some .local)
    (h : wpAny (MM w) A (eval iter (envX cn cs L a ccd [(Str.ofString "key", cK)])) (fun v s₁ => ∃ z TI TO i1 h' tk, v = .ref z ∧ s₁ = { s with heap := h', toks := tk } ∧ At g L h' l ((z, zipO .none TI TO) :: (TI, prO (.ref i1) (.ref it)) :: (TO, prO .none .none) :: (i1, riObj x0 left0 step) :: (it, oI) :: rest) ∧ KIt oI dct ks ep rem ∧ Zap z TI TO i1 it rest ∧
      ∀ D h' tk T tups oI', KIt oI' dct ks ep (rem.drop (min left0.toNat rem.length)) → Tab kf tups T → T.map (·.2) = rem.take (min left0.toNat rem.length) → At g L h' (put l (Str.ofString "result") (.ref D)) ((D, lst (refs T)) :: (it, oI') :: (tups ++ rest)) → (∀ p ∈ tups, @LT.lt Nat _ D p.1) → (∀ p ∈ rest, @LT.lt Nat _ p.1 D) → @LT.lt Nat _ it D → Q .next { s with heap := h', toks := tk }) (fun _ _ => False) s)
    (hs : ∀ x, foldedSetIterable iter (envX cn cs L a ccd [(Str.ofString "key", cK)]) x = pure x := by intro _; rfl) :
    wpAny (MM w) A (exec (.Assign [.Name (Str.ofString "result") py] (.ListComp (.Tuple [.Call (.Name (Str.ofString "key") p1) [.Name (Str.ofString "elem") p2] [] p3, .Name (Str.ofString "i") p4, .Name (Str.ofString "elem") p5] n1 p6) [⟨.Tuple [.Name (Str.ofString "i") p7, .Name (Str.ofString "elem") p8] n2 p9, iter, [], 0⟩] scope p10) spos) (envX cn cs L a ccd [(Str.ofString "key", cK)])) Q E s := by
  generalize henv : envX cn cs L a ccd [(Str.ofString "key", cK)] = env at *
  have hke' : env.scope.kind = .function := by rw [← henv]; exact hke
  have hkk' : env.kindOf (Str.ofString "key") = some .cell := by rw [← henv]; exact hkk
  have hh := C.handled
  have nl : ∀ y, y = Str.ofString "i" ∨ y = Str.ofString "elem" → scope.names.lookup y = some .local := by
    rw [hsc]
    rintro y (rfl | rfl) <;> decide
  have hck : ∀ Cc, (compEnvC scope [(Str.ofString "key", cK)] Cc env).kindOf (Str.ofString "key") = some .cell := fun Cc => by
    show (relabel scope env).names.lookup (Str.ofString "key") = _
    unfold relabel
    rw [hsc]
    simp only [List.map_cons, List.map_nil, hke', hkk', show (NameKind.local == NameKind.free) = false from rfl, Bool.false_and, Bool.false_eq_true, if_false, show (NameKind.free == NameKind.free && ScopeKind.function == ScopeKind.function && some NameKind.cell == some NameKind.cell) = true from rfl, if_true]
    decide
  subst henv
  refine compS (g := g) (L := L) (l := l) hsw hclos (by rw [hsc]; decide) hkind (by rw [hsc]; decide) hke hre (wpAny_mono h (fun v s₁ h₁ => ?_) fun _ _ z => z) hs
  generalize henv : envX cn cs L a ccd [(Str.ofString "key", cK)] = env at *
  obtain ⟨z, TI, TO, i1, h₁, tk₁, rfl, rfl, H₁, k₁, Z, fin⟩ := h₁
  refine wpAny_pyIter_zip (f0 := .none) (H₁.get (.head _)) ?_
  have hz5 := H₁.lt
  refine ⟨_, fun n ys nw => ∃ tups T oI' p q, nw = (z, zipO .none TI TO) :: (TI, prO (.ref i1) (.ref it)) :: (TO, prO p q) :: (i1, riObj (x0 + ys.length * step) (left0 - ys.length) step) :: (it, oI') :: (tups ++ rest) ∧
      KIt oI' dct ks ep (rem.drop ys.length) ∧ Tab kf tups T ∧ ys = refs T ∧ T.map (·.2) = rem.take ys.length ∧ ys.length ≤ rem.length ∧ ys.length ≤ left0.toNat ∧ n = rem.length + 1 - ys.length ∧ (∀ p ∈ tups, @LT.lt Nat _ h₁.objs.size p.1), rem.length + 1, H₁,
    ⟨[], [], oI, .none, .none, by simp, by simpa using k₁, Tab.nil, rfl, by simp, Nat.zero_le _, Nat.zero_le _, rfl, fun _ h => (nomatch h)⟩, fun s' Q' E' H' q' => wpAny_pyIter_zip (f0 := .none) (H'.get (.head _)) q', ?_⟩
  intro n ys nw Cc oC lc D h' tk' hDe hltD hDC hP hCT H' off
  obtain ⟨tups, T, oI', p, q, rfl, k', X, hys, hes, hyl, hyl2, hn, htl⟩ := hP
  have hDz : @LT.lt Nat _ z D := hltD _ (.head _)
  have hDr : ∀ p ∈ rest, @LT.lt Nat _ p.1 D := fun p hp => hltD p (.tail _ (.tail _ (.tail _ (.tail _ (.tail _ hp)))))
  have hDit : @LT.lt Nat _ it D := hltD (it, oI) (.tail _ (.tail _ (.tail _ (.tail _ (.head _)))))
  have hDC' : @LT.lt Nat _ D Cc := hDC
  have hz1 : @LT.lt Nat _ z h₁.objs.size := hz5 _ (.head _)
  obtain ⟨a1, a2, a3, a4, zoff⟩ := id Z
  have offt : ∀ p ∈ tups, p.1 ≠ Cc ∧ p.1 ≠ D := fun p hp => off p (.tail _ (.tail _ (.tail _ (.tail _ (.tail _ (List.mem_append_left _ hp))))))
  have offr : ∀ p ∈ rest, p.1 ≠ Cc ∧ p.1 ≠ D := fun p hp => off p (.tail _ (.tail _ (.tail _ (.tail _ (.tail _ (List.mem_append_right _ hp))))))
  -- the zip's five ahead
  have Zn : ∀ oC', Zap z TI TO i1 it ((Cc, oC') :: (D, lst ys) :: (tups ++ rest)) := fun oC' => ⟨a1, a2, a3, a4, fun p hp => by
    simp only [List.mem_cons, List.mem_append] at hp
    rcases hp with rfl | rfl | hp | hp
    · exact ⟨Nat.ne_of_gt (by omega), Nat.ne_of_gt (by omega), Nat.ne_of_gt (by omega), Nat.ne_of_gt (by omega), Nat.ne_of_gt (by omega)⟩
    · exact ⟨Nat.ne_of_gt (by omega), Nat.ne_of_gt (by omega), Nat.ne_of_gt (by omega), Nat.ne_of_gt (by omega), Nat.ne_of_gt (by omega)⟩
    · have := htl p hp
      exact ⟨Nat.ne_of_gt (by omega), Nat.ne_of_gt (by omega), Nat.ne_of_gt (by omega), Nat.ne_of_gt (by omega), Nat.ne_of_gt (by omega)⟩
    · exact zoff p hp⟩
  have H2 : At g L h' l ((z, zipO .none TI TO) :: (TI, prO (.ref i1) (.ref it)) :: (TO, prO p q) :: (i1, riObj (x0 + ys.length * step) (left0 - ys.length) step) :: (it, oI') :: ((Cc, oC) :: (D, lst ys) :: (tups ++ rest))) := H'.new fun p hp => by
    simp only [List.mem_cons] at hp ⊢
    rcases hp with hp | hp | hp | hp | hp | hp | hp | hp
    · exact .inr (.inr (.inl hp))
    · exact .inr (.inr (.inr (.inl hp)))
    · exact .inr (.inr (.inr (.inr (.inl hp))))
    · exact .inr (.inr (.inr (.inr (.inr (.inl hp)))))
    · exact .inr (.inr (.inr (.inr (.inr (.inr (.inl hp))))))
    · exact .inl hp
    · exact .inr (.inl hp)
    · exact .inr (.inr (.inr (.inr (.inr (.inr (.inr hp))))))
  have S' : ∀ p ∈ rest, p ∈ (Cc, oC) :: (D, lst ys) :: (tups ++ rest) := fun p hp => .tail _ (.tail _ (List.mem_append_right _ hp))
  by_cases hend : left0 - ys.length ≤ 0 ∨ rem.drop ys.length = []
  · refine zipN_end C S S' (Zn oC) H2 k' hend fun h3 tk3 oI3 k3 H3 => ?_
    have hj : ys.length = min left0.toNat rem.length := by
      rcases hend with q | q
      · omega
      · have := congrArg List.length q
        simp at this
        omega
    rw [hj] at k3 hes
    refine ⟨h3, tk3, (it, oI3) :: (tups ++ rest), rfl, H3.new fun p hp => ?_, fun p hp => ?_, fun h4 tk4 H4 => fin D h4 tk4 T tups oI3 k3 X hes (hys ▸ H4) (fun p hp => ?_) hDr hDit⟩
    · simp only [List.mem_cons] at hp ⊢
      rcases hp with hp | hp | hp | hp
      · exact .inr (.inl hp)
      · exact .inr (.inr (.inl hp))
      · exact .inl hp
      · exact .inr (.inr (.inr hp))
    · simp only [List.mem_cons, List.mem_append] at hp
      rcases hp with rfl | hp | hp
      · exact ⟨Nat.ne_of_lt (by omega), Nat.ne_of_lt (by omega)⟩
      · exact offt p hp
      · exact offr p hp
    · rw [hDe]
      exact htl p hp
  · obtain ⟨hleft, hne⟩ := not_or.mp hend
    obtain ⟨c, rem', hrem'⟩ : ∃ c r, rem.drop ys.length = c :: r := by
      cases e : rem.drop ys.length with
      | nil => exact absurd e hne
      | cons c r => exact ⟨c, r, rfl⟩
    rw [hrem'] at k'
    have hcm : c ∈ rem := List.mem_of_mem_drop (by rw [hrem']; exact .head _)
    have hcks : c ∈ ks := hrem c hcm
    have hys1 : ys.length < rem.length := by
      have := congrArg List.length hrem'
      simp at this
      omega
    refine zipN_item C S S' (Zn oC) H2 k' (by omega) fun TT h3 t3 u3 tk3 oI3 k3 H3 hzT hnT hsz => ?_
    dsimp only
    refine zipGo (Zn oC) hzT H3 fun h4 H4 => ?_
    have ht4 : h4.IsTuple TT #[.int (x0 + ys.length * step) t3, .str c u3] := ⟨_, H4.get (.head _), rfl, 0, rfl⟩
    refine wpAny_assign_Tuple hh ht4 rfl rfl fun h5 he5 => ?_
    have H5 : At g L h5 l ((Cc, oC) :: (D, lst ys) :: (z, zipO .none TI TO) :: (TI, prO (.ref i1) (.ref it)) :: (TO, prO (.int (x0 + ys.length * step) t3) (.str c u3)) :: (i1, riObj (x0 + ys.length * step + step) (left0 - ys.length - 1) step) :: (it, oI3) :: (tups ++ rest)) :=
      (H4.keeps fun b o e => he5 b o (Nat.ne_of_lt (Heap.lt_size e)) e).new fun p hp => by
        simp only [List.mem_cons] at hp ⊢
        rcases hp with hp | hp | hp | hp | hp | hp | hp | hp
        · exact .inr (.inr (.inr (.inr (.inr (.inr (.inl hp))))))
        · exact .inr (.inr (.inr (.inr (.inr (.inr (.inr (.inl hp)))))))
        · exact .inr (.inl hp)
        · exact .inr (.inr (.inl hp))
        · exact .inr (.inr (.inr (.inl hp)))
        · exact .inr (.inr (.inr (.inr (.inl hp))))
        · exact .inr (.inr (.inr (.inr (.inr (.inl hp)))))
        · exact .inr (.inr (.inr (.inr (.inr (.inr (.inr (.inr hp)))))))
    have offC : ∀ p ∈ (D, lst ys) :: (z, zipO .none TI TO) :: (TI, prO (.ref i1) (.ref it)) :: (TO, prO (.int (x0 + ys.length * step) t3) (.str c u3)) :: (i1, riObj (x0 + ys.length * step + step) (left0 - ys.length - 1) step) :: (it, oI3) :: (tups ++ rest), p.1 ≠ Cc := fun p hp => by
      simp only [List.mem_cons, List.mem_append] at hp
      rcases hp with rfl | rfl | rfl | rfl | rfl | rfl | hp | hp
      · exact Nat.ne_of_lt (by omega)
      · exact Nat.ne_of_lt (by omega)
      · exact Nat.ne_of_lt (by omega)
      · exact Nat.ne_of_lt (by omega)
      · exact Nat.ne_of_lt (by omega)
      · exact Nat.ne_of_lt (by omega)
      · exact (offt p hp).1
      · exact (offr p hp).1
    show wpAny _ _ (assignInOrder [assign (.Name (Str.ofString "i") p7) (compEnvC scope [(Str.ofString "key", cK)] Cc env), assign (.Name (Str.ofString "elem") p8) (compEnvC scope [(Str.ofString "key", cK)] Cc env)] [.int (x0 + ys.length * step) t3, .str c u3]) _ _ _
    refine assignInOrder_cons (wpAny_assign_Name (stC [] H5 (fun _ q => nomatch q) offC hCT (fun h6 oC6 hC6 H6 => ?_) hkind (nl _ (.inl rfl))))
    refine assignInOrder_cons (wpAny_assign_Name (stC [] H6 (fun _ q => nomatch q) offC hC6 (fun h7 oC7 hC7 H7 => ?_) hkind (nl _ (.inr rfl))))
    refine assignInOrder_nil ?_
    have lke : (put (put lc (Str.ofString "i") (.int (x0 + ys.length * step) t3)) (Str.ofString "elem") (.str c u3)).lookup (Str.ofString "elem") = some (.str c u3) := by
      unfold put; simp
    have lki : (put (put lc (Str.ofString "i") (.int (x0 + ys.length * step) t3)) (Str.ofString "elem") (.str c u3)).lookup (Str.ofString "i") = some (.int (x0 + ys.length * step) t3) :=
      lookup_put (by decide) (by unfold put; simp)
    have inR : ∀ p ∈ rest, p ∈ ([] ++ (Cc, oC7) :: (D, lst ys) :: (z, zipO .none TI TO) :: (TI, prO (.ref i1) (.ref it)) :: (TO, prO (.int (x0 + ys.length * step) t3) (.str c u3)) :: (i1, riObj (x0 + ys.length * step + step) (left0 - ys.length - 1) step) :: (it, oI3) :: (tups ++ rest) : List (Addr × Obj)) := fun p hp =>
      .tail _ (.tail _ (.tail _ (.tail _ (.tail _ (.tail _ (.tail _ (List.mem_append_right _ hp)))))))
    refine Tuple_ (spliced_more ?_ rfl)
    refine Call_ (ldCell H7 (by simp) (inR _ hK) hKd ?_ hkind (hck Cc)) rfl
    refine callWith_F (KO.fn H7 fun p hp => inR p (hneed p hp)) (spliced_more (ldC H7 (.head _) hC7 lke ?_ hkind (nl _ (.inr rfl))) rfl) rfl rfl
    refine spliced_none ⟨KO.fn H7 fun p hp => inR p (hneed p hp), ?_⟩
    refine KO.call C H7 (fun p hp => inR p (hneed p hp)) hd hu hcks fun t8 h8 tk8 H8 => ?_
    refine spliced_more (ldC H8 (.head _) hC7 lki ?_ hkind (nl _ (.inl rfl))) rfl
    refine spliced_more (ldC H8 (.head _) hC7 lke ?_ hkind (nl _ (.inr rfl))) rfl
    refine spliced_none ?_
    refine wpAny_newObj_type ?_ (by size_fits)
    have H9 := H8.push (tupOf [.int (kf c) t8, .int (x0 + ys.length * step) t3, .str c u3])
    have lt8 := H8.lt
    have hC8 : @LT.lt Nat _ Cc h8.objs.size := lt8 _ (.head _)
    have hes' : (T ++ [(h8.objs.size, c)]).map (·.2) = rem.take (ys.length + 1) := by
      rw [List.map_append, hes, List.take_add_one]
      congr 1
      have : rem[ys.length]? = some c := by
        have := congrArg (fun l : List Str => l[0]?) hrem'
        simpa [List.getElem?_drop] using this
      rw [this]
      rfl
    have hdr : rem' = rem.drop (ys.length + 1) := by
      have := congrArg List.tail hrem'
      simpa [List.tail_drop] using this.symm
    have hlen' : (ys ++ [Value.ref h8.objs.size]).length = ys.length + 1 := by simp
    refine ⟨_, _, oC7, _, (z, zipO .none TI TO) :: (TI, prO (.ref i1) (.ref it)) :: (TO, prO (.int (x0 + ys.length * step) t3) (.str c u3)) :: (i1, riObj (x0 + (ys ++ [Value.ref h8.objs.size]).length * step) (left0 - (ys ++ [Value.ref h8.objs.size]).length) step) :: (it, oI3) :: (((h8.objs.size, tupOf [.int (kf c) t8, .int (x0 + ys.length * step) t3, .str c u3]) :: tups) ++ rest), n - 1, rfl, by omega, by omega, hC7, H9.new fun p hp => ?_, fun p hp => ?_, ⟨(h8.objs.size, tupOf [.int (kf c) t8, .int (x0 + ys.length * step) t3, .str c u3]) :: tups, T ++ [(h8.objs.size, c)], oI3, .int (x0 + ys.length * step) t3, .str c u3, rfl, ?_, X.add fun p hp => Nat.ne_of_lt (lt8 p ?_), ?_, ?_, ?_, ?_, ?_, ?_⟩⟩
    · rw [hlen'] at hp
      simp only [List.mem_cons, List.cons_append, List.nil_append] at hp ⊢
      rcases hp with hp | hp | hp | hp | hp | hp | hp | hp | hp
      · exact .inr (.inl hp)
      · exact .inr (.inr (.inl hp))
      · exact .inr (.inr (.inr (.inl hp)))
      · exact .inr (.inr (.inr (.inr (.inl hp))))
      · exact .inr (.inr (.inr (.inr (.inr (.inl hp)))))
      · refine .inr (.inr (.inr (.inr (.inr (.inr (.inl ?_))))))
        rw [hp]
        congr 2
        · rw [show ((ys.length + 1 : Nat) : Int) = ys.length + 1 by omega, Int.add_mul, Int.one_mul, Int.add_assoc]
        · omega
      · exact .inr (.inr (.inr (.inr (.inr (.inr (.inr (.inl hp)))))))
      · exact .inl hp
      · exact .inr (.inr (.inr (.inr (.inr (.inr (.inr (.inr hp)))))))
    · simp only [List.mem_cons, List.cons_append, List.mem_append] at hp
      rcases hp with rfl | rfl | rfl | rfl | rfl | rfl | hp | hp
      · exact ⟨Nat.ne_of_lt (by omega), Nat.ne_of_lt (by omega)⟩
      · exact ⟨Nat.ne_of_lt (by omega), Nat.ne_of_lt (by omega)⟩
      · exact ⟨Nat.ne_of_lt (by omega), Nat.ne_of_lt (by omega)⟩
      · exact ⟨Nat.ne_of_lt (by omega), Nat.ne_of_lt (by omega)⟩
      · exact ⟨Nat.ne_of_lt (by omega), Nat.ne_of_lt (by omega)⟩
      · exact ⟨Nat.ne_of_gt (by omega), Nat.ne_of_gt (by omega)⟩
      · exact offt p hp
      · exact offr p hp
    · rw [hlen', ← hdr]; exact k3
    · exact .tail _ (.tail _ (.tail _ (.tail _ (.tail _ (.tail _ (.tail _ (List.mem_append_left _ hp)))))))
    · rw [hys]; simp [refs]
    · rw [hlen']; exact hes'
    · rw [hlen']; omega
    · rw [hlen']; omega
    · rw [hlen']; omega
    · intro p hp
      rcases List.mem_cons.mp hp with rfl | hp
      · show @LT.lt Nat _ h₁.objs.size h8.objs.size
        rw [← hDe]; omega
      · exact htl p hp
end
end Mine
end
section
open PySem PySem.W PyProof.Rows PySem.Calls PyProof.Rows.LCg
namespace Mine
/-- the sign of a tuple's address -/
def fT (T : List (Addr × Str)) : Value → Str
  | .ref a => (T.lookup a).getD (Str.ofString "")
  | _ => Str.ofString ""
theorem lookup_nd {T : List (Addr × Str)} (nd : (T.map (·.1)).Nodup) {a : Addr} {c : Str} (h : (a, c) ∈ T) : T.lookup a = some c := by
  induction T with
  | nil => cases h
  | cons p r ih =>
    obtain ⟨b, e⟩ := p
    rw [List.map_cons, List.nodup_cons] at nd
    rw [List.lookup_cons]
    rcases List.mem_cons.mp h with q | q
    · cases q
      simp
    · have : (a == b) = false := beq_eq_false_iff_ne.mpr fun e => nd.1 (e ▸ List.mem_map_of_mem (f := (·.1)) q)
      rw [this]
      exact ih nd.2 q
theorem fT_of {T : List (Addr × Str)} (nd : (T.map (·.1)).Nodup) {a : Addr} {c : Str} (h : (a, c) ∈ T) : fT T (.ref a) = c := by
  show (T.lookup a).getD _ = c
  rw [lookup_nd nd h]
  rfl
theorem fT_refs {T : List (Addr × Str)} (nd : (T.map (·.1)).Nodup) : (refs T).map (fT T) = T.map (·.2) := by
  unfold refs
  rw [List.map_map]
  exact List.map_congr_left fun p hp => fT_of nd hp
theorem fT_add {T : List (Addr × Str)} {a : Addr} {c : Str} {v : Value} (nd : ((T ++ [(a, c)]).map (·.1)).Nodup) (hv : v ∈ refs T) : fT (T ++ [(a, c)]) v = fT T v := by
  obtain ⟨p, hp, rfl⟩ := List.mem_map.mp hv
  have nd' : (T.map (·.1)).Nodup := by
    rw [List.map_append, List.nodup_append] at nd
    exact nd.1
  rw [fT_of nd (List.mem_append_left _ hp), fT_of nd' hp]
theorem refs_mem {T : List (Addr × Str)} (nd : (T.map (·.1)).Nodup) {v : Value} (hv : v ∈ refs T) : ∃ a, v = .ref a ∧ (a, fT T v) ∈ T := by
  obtain ⟨p, hp, rfl⟩ := List.mem_map.mp hv
  exact ⟨p.1, rfl, by rw [fT_of nd hp]; exact hp⟩

/-- the tuples are compared by their keys -/
theorem tab_cmp {w : World} {kf : Str → Int} {tups rest : List (Addr × Obj)} {T : List (Addr × Str)} (X : Tab kf tups T) (hs : ∀ p ∈ tups, p ∈ rest) (inj : ∀ a b, a ∈ T.map (·.2) → b ∈ T.map (·.2) → kf a = kf b → a = b) (hnd : (T.map (·.2)).Nodup) {b : Value → Value → Bool} (hb : ∀ x y, b x y = decide (kf (fT T x) < kf (fT T y))) : CmpOk w rest b (refs T) := by
  intro x hx y hy A s Q E hu hl h
  obtain ⟨a, rfl, ha⟩ := refs_mem X.nd hx
  obtain ⟨c, rfl, hc⟩ := refs_mem X.nd hy
  rw [hb] at h
  obtain ⟨t, i, u, v, m1⟩ := X.tup _ ha
  obtain ⟨t', i', u', v', m2⟩ := X.tup _ hc
  have g1 := hl _ (hs _ m1)
  have g2 := hl _ (hs _ m2)
  dsimp only at g1 g2 m1 m2
  by_cases e : kf (fT T (.ref a)) = kf (fT T (.ref c))
  · have es := inj _ _ (List.mem_map_of_mem (f := (·.2)) ha) (List.mem_map_of_mem (f := (·.2)) hc) e
    have eac : a = c := by
      have h1 : ∀ {T : List (Addr × Str)}, (T.map (·.2)).Nodup → ∀ {a c : Addr} {z : Str}, (a, z) ∈ T → (c, z) ∈ T → a = c := by
        intro T
        induction T with
        | nil => intro _ a c z h; cases h
        | cons p r ih =>
          intro nd a c z h1 h2
          rw [List.map_cons, List.nodup_cons] at nd
          rcases List.mem_cons.mp h1 with q1 | q1
          · rcases List.mem_cons.mp h2 with q2 | q2
            · rw [← q2] at q1; exact (Prod.mk.inj q1).1
            · rw [← q1] at nd
              exact absurd (List.mem_map_of_mem (f := (·.2)) q2) nd.1
          · rcases List.mem_cons.mp h2 with q2 | q2
            · rw [← q2] at nd
              exact absurd (List.mem_map_of_mem (f := (·.2)) q1) nd.1
            · exact ih nd.2 q1 q2
      rw [es] at ha
      exact h1 hnd ha hc
    subst eac
    refine tup_lt_self hu g1 ?_
    simpa using h
  · exact tup_lt hu g1 g2 e h

/-- the names that the def keeps for itself -/
def LocN (cs : Scope) : Prop := cs.kind = .function ∧ ∀ x ∈ (["n", "it", "result", "top", "order", "_heapreplace", "elem", "k", "_order", "_elem"] : List Str), cs.names.lookup x = some .local

section
variable {w : World} {A : Around} {E : Value → Shared → Prop} {s : Shared} {g : Heap} {L a : Addr} {rest : List (Addr × Obj)} {d u : Nat} {it dct f cK ℓ : Addr} {oI oK : Obj} {ks rem seen : List Str} {ep m : Nat} {kf : Str → Int} {need tups : List (Addr × Obj)} {T : List (Addr × Str)} {vs : List Value}

theorem loop_min {cn : Str} {cs : Scope} {ccd : Value} {p1 p2 p3 p4 p5 p6 p7 p8 p9 p10 p11 p12 p13 p14 p15 p16 p17 p18 p19 p20 p21 p22 p23 p24 p25 p26 p27 p28 p29 p30 p31 : Pos} {n1 n2 n3 n4 : Nat} {top : Str} {er : List Str} {tt to : Tok} {ord : Int} {Q : Flow → Shared → Prop}
    (C : Cx w A L g d u) (hd : d < 600) (hu : u < 6000) (LN : LocN cs) (hkc : cs.names.lookup (Str.ofString "key") = some .cell) (KO : KeyOk w f need kf ks) (hneed : ∀ p ∈ need, p ∈ rest) (S : Src w rest dct ks ep)
    (hK : (cK, oK) ∈ rest) (hKd : oK.data = .cell (some (.ref f)))
    (inj : ∀ a b, a ∈ ks → b ∈ ks → kf a = kf b → a = b) (hsk : (seen ++ rem).Perm ks) (hnd : ks.Nodup)
    (X : Tab kf tups T) (hT : ∀ c ∈ T.map (·.2), c ∈ seen) (hTn : (T.map (·.2)).Nodup) (hvs : ∀ v ∈ vs, v ∈ refs T) (B : Best (fun c => -(kf c)) (vs.map (fT T)) seen) (hve : vs.map (fT T) = top :: er) (k : KIt oI dct ks ep rem) (hlen : vs.length < 900)
    (hℓ : ∀ p ∈ tups, @LT.lt Nat _ ℓ p.1) (hrℓ : ∀ p ∈ rest, @LT.lt Nat _ p.1 ℓ) (hiℓ : @LT.lt Nat _ it ℓ) (hri : ∀ p ∈ rest, p.1 ≠ it)
    (H : At g L s.heap [(Str.ofString "_heapreplace", .ref 35), (Str.ofString "order", .int ord to), (Str.ofString "top", .int (kf top) tt), (Str.ofString "result", .ref ℓ), (Str.ofString "it", .ref it)] ((ℓ, listOf vs.toArray m) :: (it, oI) :: (tups ++ rest)))
    (h : ∀ (h' : Heap) (tk : Nat) (vs' : List Value) (T' : List (Addr × Str)) (tups' : List (Addr × Obj)), Tab kf tups' T' → (∀ v ∈ vs', v ∈ refs T') → (∀ c ∈ T'.map (·.2), c ∈ ks) → (T'.map (·.2)).Nodup → Best (fun c => -(kf c)) (vs'.map (fT T')) (seen ++ rem) → vs'.length = vs.length → (∀ p ∈ tups', @LT.lt Nat _ ℓ p.1) →
      At g L h' [(Str.ofString "result", .ref ℓ)] ((ℓ, listOf vs'.toArray m) :: (tups' ++ rest)) → Q .next { s with heap := h', toks := tk }) :
    wpAny (MM w) A (exec (.For (.Name (Str.ofString "elem") p1) (.Name (Str.ofString "it") p2)
      [.Assign [.Name (Str.ofString "k") p3] (.Call (.Name (Str.ofString "key") p4) [.Name (Str.ofString "elem") p5] [] p6) p7,
       .If (.Compare (.Name (Str.ofString "k") p8) [.Lt] [.Name (Str.ofString "top") p9] p10)
        [.Expr (.Call (.Name (Str.ofString "_heapreplace") p11) [.Name (Str.ofString "result") p12, .Tuple [.Name (Str.ofString "k") p13, .Name (Str.ofString "order") p14, .Name (Str.ofString "elem") p15] n1 p16] [] p17) p18,
         .Assign [.Tuple [.Name (Str.ofString "top") p19, .Name (Str.ofString "_order") p20, .Name (Str.ofString "_elem") p21] n2 p22] (.Subscript (.Name (Str.ofString "result") p23) (.Constant (.int 0) n3 p24) p25) p26,
         .AugAssign (.Name (Str.ofString "order") p27) .Add (.Constant (.int 1) n4 p28) p29] [] p30] [] p31) (envX cn cs L a ccd [(Str.ofString "key", cK)])) Q E s := by
  obtain ⟨hk, loc⟩ := LN
  have lo : ∀ x, x ∈ (["n", "it", "result", "top", "order", "_heapreplace", "elem", "k", "_order", "_elem"] : List Str) → (envX cn cs L a ccd [(Str.ofString "key", cK)]).kindOf x = some .local := fun x hx => loc x hx
  have hint : interactive (envX cn cs L a ccd [(Str.ofString "key", cK)]) = false := by
    show (cs.kind == .module && _) = false
    rw [hk]
    rfl
  have hcl := cLine_is
  refine forA ?_ (by intro _; with_unfolding_all rfl)
  refine ldA H rfl ?_ hk (lo _ (by decide))
  refine iterK k (H.get (.tail _ (.head _))) ?_
  refine ⟨fun n s' => ∃ h' tk vs' T' tups' oI' seen' rem' top' er' ord' tt' to', s' = { s with heap := h', toks := tk } ∧ seen' ++ rem' = seen ++ rem ∧ rem'.length = n ∧ Tab kf tups' T' ∧ (∀ c ∈ T'.map (·.2), c ∈ seen') ∧ (T'.map (·.2)).Nodup ∧ (∀ v ∈ vs', v ∈ refs T') ∧ Best (fun c => -(kf c)) (vs'.map (fT T')) seen' ∧ vs'.map (fT T') = top' :: er' ∧ KIt oI' dct ks ep rem' ∧ vs'.length = vs.length ∧ (∀ p ∈ tups', @LT.lt Nat _ ℓ p.1) ∧
      At g L h' [(Str.ofString "_heapreplace", .ref 35), (Str.ofString "order", .int ord' to'), (Str.ofString "top", .int (kf top') tt'), (Str.ofString "result", .ref ℓ), (Str.ofString "it", .ref it)] ((ℓ, listOf vs'.toArray m) :: (it, oI') :: (tups' ++ rest)), rem.length,
    ⟨s.heap, s.toks, vs, T, tups, oI, seen, rem, top, er, ord, tt, to, rfl, rfl, rfl, X, hT, hTn, hvs, B, hve, k, rfl, hℓ, H⟩, ?_⟩
  rintro n s' ⟨h', tk', vs', T', tups', oI', seen', rem', top', er', ord', tt', to', rfl, hse, hrn, X', hT', hTn', hvs', B', hve', k', hlen', hℓ', H'⟩
  have offi : ∀ p ∈ tups' ++ rest, p.1 ≠ it := fun p hp => by
    rcases List.mem_append.mp hp with hp | hp
    · have := hℓ' p hp
      exact Nat.ne_of_gt (by omega)
    · exact hri p hp
  have offl : ∀ p ∈ tups' ++ rest, p.1 ≠ ℓ := fun p hp => by
    rcases List.mem_append.mp hp with hp | hp
    · exact Nat.ne_of_gt (hℓ' p hp)
    · exact Nat.ne_of_lt (hrℓ p hp)
  obtain ⟨kvs, hD, hkv⟩ := S.at C H' fun p hp => .tail _ (.tail _ (List.mem_append_right _ hp))
  cases hr : rem' with
  | nil =>
    rw [hr] at k' hse
    refine nextK_end C.handled k' (H'.get (.tail _ (.head _))) hD hkv fun h3 o3 he3 ho3 k3 => ?_
    have H3 := At.extd [_] H' (fun p hp => by rw [List.mem_singleton.mp hp]; exact Nat.ne_of_gt hiℓ) offi he3 ho3
    refine h _ _ vs' T' tups' X' hvs' (fun c hc => hsk.mem_iff.mp ?_) hTn' (by rw [List.append_nil] at hse; rw [← hse]; exact B') hlen' hℓ' ((At.sel H3 ["result"]).new fun p hp => ?_)
    · rw [← hse, List.append_nil]; exact hT' c hc
    · rcases List.mem_cons.mp hp with hp | hp
      · exact hp ▸ .head _
      · exact .tail _ (.tail _ hp)
  | cons c r =>
    subst hr
    have hcks : c ∈ ks := hsk.mem_iff.mp (by rw [← hse]; simp)
    have hcn : c ∉ seen' := fun hc => by
      have nd : (seen' ++ c :: r).Nodup := by rw [hse]; exact hsk.nodup_iff.mpr hnd
      rw [List.nodup_append] at nd
      exact nd.2.2 c hc c (.head _) rfl
    refine nextK_item k' (H'.get (.tail _ (.head _))) hD hkv fun t3 h3 o3 ho3 k3 hs3 => ?_
    have H3 : At g L h3 _ ([(ℓ, listOf vs'.toArray m)] ++ (it, o3) :: (tups' ++ rest)) := At.upd [_] H' (fun p hp => by rw [List.mem_singleton.mp hp]; exact Nat.ne_of_gt hiℓ) offi hs3 ho3
    dsimp only
    refine goN (wpAny_assign_Name (stA H3 (fun h4 H4 => ?_) hk (lo _ (by decide))))
    have inR : ∀ p ∈ rest, p ∈ ([(ℓ, listOf vs'.toArray m)] ++ (it, o3) :: (tups' ++ rest) : List (Addr × Obj)) := fun p hp => .tail _ (.tail _ (List.mem_append_right _ hp))
    refine wpAny_execs_cons (wpAny_Assign_Name (Call_ (ldX H4 (by simp) (inR _ hK) hKd ?_ hk hkc) rfl) (by with_unfolding_all rfl))
    refine callWith_F (KO.fn H4 fun p hp => inR p (hneed p hp)) (spliced_more (ldA H4 rfl ?_ hk (lo _ (by decide))) rfl) rfl rfl
    refine spliced_none ⟨KO.fn H4 fun p hp => inR p (hneed p hp), ?_⟩
    refine KO.call C H4 (fun p hp => inR p (hneed p hp)) (by omega) (by omega) hcks fun t5 h5 tk5 H5 => ?_
    refine stA H5 (fun h6 H6 => ?_) hk (lo _ (by decide))
    dsimp only
    replace H6 : At g L h6 [(Str.ofString "k", .int (kf c) t5), (Str.ofString "elem", .str c t3), (Str.ofString "_heapreplace", .ref 35), (Str.ofString "order", .int ord' to'), (Str.ofString "top", .int (kf top') tt'), (Str.ofString "result", .ref ℓ), (Str.ofString "it", .ref it)] ((ℓ, listOf vs'.toArray m) :: (it, o3) :: (tups' ++ rest)) := H6
    refine wpAny_execs_cons (wpAny_If (wpAny_isTrue_Compare1 (ldA H6 rfl (ldA H6 rfl (lt_int (wpAny_truthy_bool ?_)) hk (lo _ (by decide))) hk (lo _ (by decide))) (by with_unfolding_all rfl)))
    by_cases hlt : kf c < kf top'
    · rw [if_pos (decide_eq_true hlt)]
      have hkin : (Mine.hd0.heap_1 w.params).In h6 := by
        obtain ⟨mm, FF, _⟩ := H6.fr
        exact C.kin.keeps FF.keep
      refine wpAny_execs_cons (wpAny_Expr_any (Call_ (ldA H6 rfl ?_ hk (lo _ (by decide))) rfl) hint (by with_unfolding_all rfl))
      refine callWith_K C.kin (by k_is) (spliced_more (ldA H6 rfl ?_ hk (lo _ (by decide))) rfl) rfl rfl
      refine spliced_more (Tuple_ (spliced_more (ldA H6 rfl (spliced_more (ldA H6 rfl (spliced_more (ldA H6 rfl (spliced_none ?_) hk (lo _ (by decide))) rfl) hk (lo _ (by decide))) rfl) hk (lo _ (by decide))) rfl)) rfl
      refine wpAny_newObj_type ?_ (by size_fits)
      have H7 := H6.push (tupOf [.int (kf c) t5, .int ord' to', .str c t3])
      have lt6 := H6.lt
      have hℓ6 : @LT.lt Nat _ ℓ h6.objs.size := lt6 _ (.head _)
      have hi6 : @LT.lt Nat _ it h6.objs.size := lt6 _ (.tail _ (.head _))
      have ht6 : ∀ p ∈ tups', @LT.lt Nat _ p.1 h6.objs.size := fun p hp => lt6 p (.tail _ (.tail _ (List.mem_append_left _ hp)))
      have X7 := X'.add (c := c) (t := t5) (i := ord') (u := to') (v := t3) (fun p hp => Nat.ne_of_lt (ht6 p hp))
      have H8 : At g L (h6.push (tupOf [.int (kf c) t5, .int ord' to', .str c t3])) [(Str.ofString "k", .int (kf c) t5), (Str.ofString "elem", .str c t3), (Str.ofString "_heapreplace", .ref 35), (Str.ofString "order", .int ord' to'), (Str.ofString "top", .int (kf top') tt'), (Str.ofString "result", .ref ℓ), (Str.ofString "it", .ref it)]
          ((ℓ, listOf vs'.toArray m) :: (it, o3) :: (((h6.objs.size, tupOf [.int (kf c) t5, .int ord' to', .str c t3]) :: tups') ++ rest)) := H7.new fun p hp => by
        simp only [List.mem_cons, List.cons_append] at hp ⊢
        rcases hp with hp | hp | hp | hp
        · exact .inr (.inl hp)
        · exact .inr (.inr (.inl hp))
        · exact .inl hp
        · exact .inr (.inr (.inr hp))
      have X8 : Tab kf ((h6.objs.size, tupOf [.int (kf c) t5, .int ord' to', .str c t3]) :: tups') (T' ++ [(h6.objs.size, c)]) := X7
      have hℓ8 : ∀ p ∈ (h6.objs.size, tupOf [.int (kf c) t5, .int ord' to', .str c t3]) :: tups', @LT.lt Nat _ ℓ p.1 := fun p hp => by
        rcases List.mem_cons.mp hp with rfl | hp
        · exact hℓ6
        · exact hℓ' p hp
      generalize htu : (h6.objs.size, tupOf [.int (kf c) t5, .int ord' to', .str c t3]) :: tups' = tups8 at H8 X8 hℓ8
      have hT8 : ∀ c' ∈ (T' ++ [(h6.objs.size, c)]).map (·.2), c' ∈ seen' ++ [c] := fun c' hc' => by
        rw [List.map_append, List.mem_append] at hc'
        rcases hc' with q | q
        · exact List.mem_append_left _ (hT' c' q)
        · exact List.mem_append_right _ (by simpa using q)
      have hTn8 : ((T' ++ [(h6.objs.size, c)]).map (·.2)).Nodup := by
        rw [List.map_append, List.nodup_append]
        refine ⟨hTn', by simp, fun x hx y hy => ?_⟩
        have : y = c := by simpa using hy
        rw [this]
        exact fun e => hcn (e ▸ hT' x hx)
      have hsub : ∀ v ∈ refs T', v ∈ refs (T' ++ [(h6.objs.size, c)]) := fun v hv => by
        unfold refs
        rw [List.map_append]
        exact List.mem_append_left _ hv
      have hsk' : ∀ c' ∈ seen' ++ [c], c' ∈ ks := fun c' hc' => hsk.mem_iff.mp (by
        rw [← hse]
        rcases List.mem_append.mp hc' with q | q
        · exact List.mem_append_left _ q
        · rw [List.mem_singleton.mp q]; simp)
      have hfc : fT (T' ++ [(h6.objs.size, c)]) (.ref h6.objs.size) = c := fT_of X8.nd (by simp)
      have hfv : vs'.map (fT (T' ++ [(h6.objs.size, c)])) = top' :: er' := by
        rw [← hve']
        exact List.map_congr_left fun v hv => fT_add X8.nd (hvs' v hv)
      have cmp : CmpOk w ((it, o3) :: (tups8 ++ rest)) (fun x y => ltk (fun c => -(kf c)) (fT (T' ++ [(h6.objs.size, c)]) y) (fT (T' ++ [(h6.objs.size, c)]) x)) (refs (T' ++ [(h6.objs.size, c)])) :=
        tab_cmp X8 (fun p hp => .tail _ (List.mem_append_left _ hp)) (fun a b ha hb e => inj a b (hsk' a (hT8 a ha)) (hsk' b (hT8 b hb)) e) hTn8 (fun x y => by exact decide_eq_decide.mpr (by show -(kf _) < -(kf _) ↔ _; omega))
      generalize hT8e : T' ++ [(h6.objs.size, c)] = T8 at *
      have hvl : 0 < vs'.length := by
        have := congrArg List.length hve'
        simp at this
        omega
      have hkin8 : (Mine.hd0.heap_1 w.params).In (h6.push (tupOf [.int (kf c) t5, .int ord' to', .str c t3])) := by
        obtain ⟨mm, FF, _⟩ := H8.fr
        exact C.kin.keeps FF.keep
      refine spliced_none ⟨hkin8, ?_⟩
      refine heapreplace_max_ok (lt := fun x y => ltk (fun c => -(kf c)) (fT T8 x) (fT T8 y)) C H8 (fun p hp => ?_) cmp (fun v hv => hsub v (hvs' v hv)) (y := .ref h6.objs.size) (by rw [← hT8e]; unfold refs; simp) hvl (by omega) (by omega) (by omega) fun v9 h9 tk9 H9 => ?_
      · rcases List.mem_cons.mp hp with rfl | hp
        · exact Nat.ne_of_lt hiℓ
        · rcases List.mem_append.mp hp with hp | hp
          · exact Nat.ne_of_gt (hℓ8 p hp)
          · exact Nat.ne_of_lt (hrℓ p hp)
      dsimp only
      have hmap : (hreplace (fun x y => ltk (fun c => -(kf c)) (fT T8 x) (fT T8 y)) vs' (.ref h6.objs.size)).map (fT T8) = hreplace (ltk (fun c => -(kf c))) (top' :: er') c := by
        rw [hreplace_map (fT T8) (ltk (fun c => -(kf c))), hfv, hfc]
      have hsub9 : ∀ v ∈ hreplace (fun x y => ltk (fun c => -(kf c)) (fT T8 x) (fT T8 y)) vs' (.ref h6.objs.size), v ∈ refs T8 :=
        siftup_sub (mem_set (fun v hv => hsub v (hvs' v hv)) (by rw [← hT8e]; unfold refs; simp))
      rw [hve'] at B'
      have B9 : Best (fun c => -(kf c)) (hreplace (ltk (fun c => -(kf c))) (top' :: er') c) (seen' ++ [c]) := B'.take rfl (by omega)
      have hl9 : (hreplace (fun x y => ltk (fun c => -(kf c)) (fT T8 x) (fT T8 y)) vs' (.ref h6.objs.size)).length = vs.length := by
        unfold hreplace
        rw [siftup_len, List.length_set, hlen']
      generalize hreplace (fun x y => ltk (fun c => -(kf c)) (fT T8 x) (fT T8 y)) vs' (.ref h6.objs.size) = vs9 at H9 hmap hsub9 hl9
      obtain ⟨x9, r9, hv9⟩ : ∃ x r, vs9 = x :: r := by
        cases vs9 with
        | nil => simp at hl9; omega
        | cons x r => exact ⟨x, r, rfl⟩
      obtain ⟨a9, ha9, hm9⟩ := refs_mem X8.nd (hsub9 x9 (by rw [hv9]; exact .head _))
      obtain ⟨t10, i10, u10, v10, hmt⟩ := X8.tup _ hm9
      dsimp only at hmt
      refine wpAny_execs_cons (Assign_Tuple (Subscript_ (ldA H9 rfl (wpAny_Constant_int (itemA H9 (.head _) (by omega) (by omega) (v := .ref a9) (by rw [hv9, ha9]; rfl) ?_)) hk (lo _ (by decide)))) (by with_unfolding_all rfl) (by with_unfolding_all rfl))
      have ht10 : h9.IsTuple a9 #[.int (kf (fT T8 x9)) t10, .int i10 u10, .str (fT T8 x9) v10] := ⟨_, H9.get (.tail _ (.tail _ (List.mem_append_left _ hmt))), rfl, 0, rfl⟩
      refine wpAny_assign_Tuple C.handled ht10 (by with_unfolding_all rfl) (by with_unfolding_all rfl) fun h10 he10 => ?_
      have H10 := H9.keeps fun b o e => he10 b o (Nat.ne_of_lt (Heap.lt_size e)) e
      show wpAny _ _ (assignInOrder [assign (.Name (Str.ofString "top") p19) _, assign (.Name (Str.ofString "_order") p20) _, assign (.Name (Str.ofString "_elem") p21) _] [.int (kf (fT T8 x9)) t10, .int i10 u10, .str (fT T8 x9) v10]) _ _ _
      refine assignInOrder_cons (wpAny_assign_Name (stA H10 (fun h11 H11 => ?_) hk (lo _ (by decide))))
      refine assignInOrder_cons (wpAny_assign_Name (stA H11 (fun h12 H12 => ?_) hk (lo _ (by decide))))
      refine assignInOrder_cons (wpAny_assign_Name (stA H12 (fun h13 H13 => ?_) hk (lo _ (by decide))))
      refine assignInOrder_nil ?_
      dsimp only
      obtain ⟨mm, F13, hm13⟩ := id H13.fr
      refine wpAny_execs_cons (wpAny_AugAssign_Name (wpAny_loadName_local hk (lo _ (by decide)) F13.ns (hm13 (Str.ofString "order", .int ord' to') (mem_of_lookup rfl)) (wpAny_Constant_int (iadd_int (stA H13 (fun h14 H14 => ?_) hk (lo _ (by decide)))))))
      dsimp only
      refine wpAny_execs_nil (wpAny_execs_nil ?_)
      refine' ⟨r.length, by rw [← hrn]; exact Nat.lt_succ_self _, _, _, vs9, T8, tups8, o3, seen' ++ [c], r, fT T8 x9, r9.map (fT T8), _, _, _, rfl, by rw [← hse]; simp, rfl, X8, hT8, hTn8, hsub9, by rw [hmap]; exact B9, by rw [hv9]; rfl, k3, hl9, hℓ8, At.sel H14 ["_heapreplace", "order", "top", "result", "it"]⟩
    · rw [if_neg (by simpa using hlt)]
      refine wpAny_execs_nil (wpAny_execs_nil ?_)
      refine ⟨r.length, by rw [← hrn]; exact Nat.lt_succ_self _, _, _, vs', T', tups', o3, seen' ++ [c], r, top', er', ord', tt', to', rfl, by rw [← hse]; simp, rfl, X', fun c' hc' => List.mem_append_left _ (hT' c' hc'), hTn', hvs', B'.skip hve' (by omega), hve', k3, hlen', hℓ', At.sel H6 ["_heapreplace", "order", "top", "result", "it"]⟩
end
section
variable {w : World} {A : Around} {E : Value → Shared → Prop} {s : Shared} {g : Heap} {L a : Addr} {rest : List (Addr × Obj)} {d u : Nat} {it dct f cK ℓ : Addr} {oI oK : Obj} {ks rem seen : List Str} {ep m : Nat} {kf : Str → Int} {need tups : List (Addr × Obj)} {T : List (Addr × Str)} {vs : List Value}

theorem loop_max {cn : Str} {cs : Scope} {ccd : Value} {p1 p2 p3 p4 p5 p6 p7 p8 p9 p10 p11 p12 p13 p14 p15 p16 p17 p18 p19 p20 p21 p22 p23 p24 p25 p26 p27 p28 p29 p30 p31 : Pos} {n1 n2 n3 n4 : Nat} {top : Str} {er : List Str} {tt to : Tok} {ord : Int} {Q : Flow → Shared → Prop}
    (C : Cx w A L g d u) (hd : d < 600) (hu : u < 6000) (LN : LocN cs) (hkc : cs.names.lookup (Str.ofString "key") = some .cell) (KO : KeyOk w f need kf ks) (hneed : ∀ p ∈ need, p ∈ rest) (S : Src w rest dct ks ep)
    (hK : (cK, oK) ∈ rest) (hKd : oK.data = .cell (some (.ref f)))
    (inj : ∀ a b, a ∈ ks → b ∈ ks → kf a = kf b → a = b) (hsk : (seen ++ rem).Perm ks) (hnd : ks.Nodup)
    (X : Tab kf tups T) (hT : ∀ c ∈ T.map (·.2), c ∈ seen) (hTn : (T.map (·.2)).Nodup) (hvs : ∀ v ∈ vs, v ∈ refs T) (B : Best kf (vs.map (fT T)) seen) (hve : vs.map (fT T) = top :: er) (k : KIt oI dct ks ep rem) (hlen : vs.length < 900)
    (hℓ : ∀ p ∈ tups, @LT.lt Nat _ ℓ p.1) (hrℓ : ∀ p ∈ rest, @LT.lt Nat _ p.1 ℓ) (hiℓ : @LT.lt Nat _ it ℓ) (hri : ∀ p ∈ rest, p.1 ≠ it)
    (H : At g L s.heap [(Str.ofString "_heapreplace", .ref 21), (Str.ofString "order", .int ord to), (Str.ofString "top", .int (kf top) tt), (Str.ofString "result", .ref ℓ), (Str.ofString "it", .ref it)] ((ℓ, listOf vs.toArray m) :: (it, oI) :: (tups ++ rest)))
    (h : ∀ (h' : Heap) (tk : Nat) (vs' : List Value) (T' : List (Addr × Str)) (tups' : List (Addr × Obj)), Tab kf tups' T' → (∀ v ∈ vs', v ∈ refs T') → (∀ c ∈ T'.map (·.2), c ∈ ks) → (T'.map (·.2)).Nodup → Best kf (vs'.map (fT T')) (seen ++ rem) → vs'.length = vs.length → (∀ p ∈ tups', @LT.lt Nat _ ℓ p.1) →
      At g L h' [(Str.ofString "result", .ref ℓ)] ((ℓ, listOf vs'.toArray m) :: (tups' ++ rest)) → Q .next { s with heap := h', toks := tk }) :
    wpAny (MM w) A (exec (.For (.Name (Str.ofString "elem") p1) (.Name (Str.ofString "it") p2)
      [.Assign [.Name (Str.ofString "k") p3] (.Call (.Name (Str.ofString "key") p4) [.Name (Str.ofString "elem") p5] [] p6) p7,
       .If (.Compare (.Name (Str.ofString "top") p8) [.Lt] [.Name (Str.ofString "k") p9] p10)
        [.Expr (.Call (.Name (Str.ofString "_heapreplace") p11) [.Name (Str.ofString "result") p12, .Tuple [.Name (Str.ofString "k") p13, .Name (Str.ofString "order") p14, .Name (Str.ofString "elem") p15] n1 p16] [] p17) p18,
         .Assign [.Tuple [.Name (Str.ofString "top") p19, .Name (Str.ofString "_order") p20, .Name (Str.ofString "_elem") p21] n2 p22] (.Subscript (.Name (Str.ofString "result") p23) (.Constant (.int 0) n3 p24) p25) p26,
         .AugAssign (.Name (Str.ofString "order") p27) .Sub (.Constant (.int 1) n4 p28) p29] [] p30] [] p31) (envX cn cs L a ccd [(Str.ofString "key", cK)])) Q E s := by
  obtain ⟨hk, loc⟩ := LN
  have lo : ∀ x, x ∈ (["n", "it", "result", "top", "order", "_heapreplace", "elem", "k", "_order", "_elem"] : List Str) → (envX cn cs L a ccd [(Str.ofString "key", cK)]).kindOf x = some .local := fun x hx => loc x hx
  have hint : interactive (envX cn cs L a ccd [(Str.ofString "key", cK)]) = false := by
    show (cs.kind == .module && _) = false
    rw [hk]
    rfl
  have hcl := cLine_is
  refine forA ?_ (by intro _; with_unfolding_all rfl)
  refine ldA H rfl ?_ hk (lo _ (by decide))
  refine iterK k (H.get (.tail _ (.head _))) ?_
  refine ⟨fun n s' => ∃ h' tk vs' T' tups' oI' seen' rem' top' er' ord' tt' to', s' = { s with heap := h', toks := tk } ∧ seen' ++ rem' = seen ++ rem ∧ rem'.length = n ∧ Tab kf tups' T' ∧ (∀ c ∈ T'.map (·.2), c ∈ seen') ∧ (T'.map (·.2)).Nodup ∧ (∀ v ∈ vs', v ∈ refs T') ∧ Best kf (vs'.map (fT T')) seen' ∧ vs'.map (fT T') = top' :: er' ∧ KIt oI' dct ks ep rem' ∧ vs'.length = vs.length ∧ (∀ p ∈ tups', @LT.lt Nat _ ℓ p.1) ∧
      At g L h' [(Str.ofString "_heapreplace", .ref 21), (Str.ofString "order", .int ord' to'), (Str.ofString "top", .int (kf top') tt'), (Str.ofString "result", .ref ℓ), (Str.ofString "it", .ref it)] ((ℓ, listOf vs'.toArray m) :: (it, oI') :: (tups' ++ rest)), rem.length,
    ⟨s.heap, s.toks, vs, T, tups, oI, seen, rem, top, er, ord, tt, to, rfl, rfl, rfl, X, hT, hTn, hvs, B, hve, k, rfl, hℓ, H⟩, ?_⟩
  rintro n s' ⟨h', tk', vs', T', tups', oI', seen', rem', top', er', ord', tt', to', rfl, hse, hrn, X', hT', hTn', hvs', B', hve', k', hlen', hℓ', H'⟩
  have offi : ∀ p ∈ tups' ++ rest, p.1 ≠ it := fun p hp => by
    rcases List.mem_append.mp hp with hp | hp
    · have := hℓ' p hp
      exact Nat.ne_of_gt (by omega)
    · exact hri p hp
  have offl : ∀ p ∈ tups' ++ rest, p.1 ≠ ℓ := fun p hp => by
    rcases List.mem_append.mp hp with hp | hp
    · exact Nat.ne_of_gt (hℓ' p hp)
    · exact Nat.ne_of_lt (hrℓ p hp)
  obtain ⟨kvs, hD, hkv⟩ := S.at C H' fun p hp => .tail _ (.tail _ (List.mem_append_right _ hp))
  cases hr : rem' with
  | nil =>
    rw [hr] at k' hse
    refine nextK_end C.handled k' (H'.get (.tail _ (.head _))) hD hkv fun h3 o3 he3 ho3 k3 => ?_
    have H3 := At.extd [_] H' (fun p hp => by rw [List.mem_singleton.mp hp]; exact Nat.ne_of_gt hiℓ) offi he3 ho3
    refine h _ _ vs' T' tups' X' hvs' (fun c hc => hsk.mem_iff.mp ?_) hTn' (by rw [List.append_nil] at hse; rw [← hse]; exact B') hlen' hℓ' ((At.sel H3 ["result"]).new fun p hp => ?_)
    · rw [← hse, List.append_nil]; exact hT' c hc
    · rcases List.mem_cons.mp hp with hp | hp
      · exact hp ▸ .head _
      · exact .tail _ (.tail _ hp)
  | cons c r =>
    subst hr
    have hcks : c ∈ ks := hsk.mem_iff.mp (by rw [← hse]; simp)
    have hcn : c ∉ seen' := fun hc => by
      have nd : (seen' ++ c :: r).Nodup := by rw [hse]; exact hsk.nodup_iff.mpr hnd
      rw [List.nodup_append] at nd
      exact nd.2.2 c hc c (.head _) rfl
    refine nextK_item k' (H'.get (.tail _ (.head _))) hD hkv fun t3 h3 o3 ho3 k3 hs3 => ?_
    have H3 : At g L h3 _ ([(ℓ, listOf vs'.toArray m)] ++ (it, o3) :: (tups' ++ rest)) := At.upd [_] H' (fun p hp => by rw [List.mem_singleton.mp hp]; exact Nat.ne_of_gt hiℓ) offi hs3 ho3
    dsimp only
    refine goN (wpAny_assign_Name (stA H3 (fun h4 H4 => ?_) hk (lo _ (by decide))))
    have inR : ∀ p ∈ rest, p ∈ ([(ℓ, listOf vs'.toArray m)] ++ (it, o3) :: (tups' ++ rest) : List (Addr × Obj)) := fun p hp => .tail _ (.tail _ (List.mem_append_right _ hp))
    refine wpAny_execs_cons (wpAny_Assign_Name (Call_ (ldX H4 (by simp) (inR _ hK) hKd ?_ hk hkc) rfl) (by with_unfolding_all rfl))
    refine callWith_F (KO.fn H4 fun p hp => inR p (hneed p hp)) (spliced_more (ldA H4 rfl ?_ hk (lo _ (by decide))) rfl) rfl rfl
    refine spliced_none ⟨KO.fn H4 fun p hp => inR p (hneed p hp), ?_⟩
    refine KO.call C H4 (fun p hp => inR p (hneed p hp)) (by omega) (by omega) hcks fun t5 h5 tk5 H5 => ?_
    refine stA H5 (fun h6 H6 => ?_) hk (lo _ (by decide))
    dsimp only
    replace H6 : At g L h6 [(Str.ofString "k", .int (kf c) t5), (Str.ofString "elem", .str c t3), (Str.ofString "_heapreplace", .ref 21), (Str.ofString "order", .int ord' to'), (Str.ofString "top", .int (kf top') tt'), (Str.ofString "result", .ref ℓ), (Str.ofString "it", .ref it)] ((ℓ, listOf vs'.toArray m) :: (it, o3) :: (tups' ++ rest)) := H6
    refine wpAny_execs_cons (wpAny_If (wpAny_isTrue_Compare1 (ldA H6 rfl (ldA H6 rfl (lt_int (wpAny_truthy_bool ?_)) hk (lo _ (by decide))) hk (lo _ (by decide))) (by with_unfolding_all rfl)))
    by_cases hlt : kf top' < kf c
    · rw [if_pos (decide_eq_true hlt)]
      have hkin : (Mine.hd0.heap_1 w.params).In h6 := by
        obtain ⟨mm, FF, _⟩ := H6.fr
        exact C.kin.keeps FF.keep
      refine wpAny_execs_cons (wpAny_Expr_any (Call_ (ldA H6 rfl ?_ hk (lo _ (by decide))) rfl) hint (by with_unfolding_all rfl))
      refine callWith_K C.kin (by k_is) (spliced_more (ldA H6 rfl ?_ hk (lo _ (by decide))) rfl) rfl rfl
      refine spliced_more (Tuple_ (spliced_more (ldA H6 rfl (spliced_more (ldA H6 rfl (spliced_more (ldA H6 rfl (spliced_none ?_) hk (lo _ (by decide))) rfl) hk (lo _ (by decide))) rfl) hk (lo _ (by decide))) rfl)) rfl
      refine wpAny_newObj_type ?_ (by size_fits)
      have H7 := H6.push (tupOf [.int (kf c) t5, .int ord' to', .str c t3])
      have lt6 := H6.lt
      have hℓ6 : @LT.lt Nat _ ℓ h6.objs.size := lt6 _ (.head _)
      have hi6 : @LT.lt Nat _ it h6.objs.size := lt6 _ (.tail _ (.head _))
      have ht6 : ∀ p ∈ tups', @LT.lt Nat _ p.1 h6.objs.size := fun p hp => lt6 p (.tail _ (.tail _ (List.mem_append_left _ hp)))
      have X7 := X'.add (c := c) (t := t5) (i := ord') (u := to') (v := t3) (fun p hp => Nat.ne_of_lt (ht6 p hp))
      have H8 : At g L (h6.push (tupOf [.int (kf c) t5, .int ord' to', .str c t3])) [(Str.ofString "k", .int (kf c) t5), (Str.ofString "elem", .str c t3), (Str.ofString "_heapreplace", .ref 21), (Str.ofString "order", .int ord' to'), (Str.ofString "top", .int (kf top') tt'), (Str.ofString "result", .ref ℓ), (Str.ofString "it", .ref it)]
          ((ℓ, listOf vs'.toArray m) :: (it, o3) :: (((h6.objs.size, tupOf [.int (kf c) t5, .int ord' to', .str c t3]) :: tups') ++ rest)) := H7.new fun p hp => by
        simp only [List.mem_cons, List.cons_append] at hp ⊢
        rcases hp with hp | hp | hp | hp
        · exact .inr (.inl hp)
        · exact .inr (.inr (.inl hp))
        · exact .inl hp
        · exact .inr (.inr (.inr hp))
      have X8 : Tab kf ((h6.objs.size, tupOf [.int (kf c) t5, .int ord' to', .str c t3]) :: tups') (T' ++ [(h6.objs.size, c)]) := X7
      have hℓ8 : ∀ p ∈ (h6.objs.size, tupOf [.int (kf c) t5, .int ord' to', .str c t3]) :: tups', @LT.lt Nat _ ℓ p.1 := fun p hp => by
        rcases List.mem_cons.mp hp with rfl | hp
        · exact hℓ6
        · exact hℓ' p hp
      generalize htu : (h6.objs.size, tupOf [.int (kf c) t5, .int ord' to', .str c t3]) :: tups' = tups8 at H8 X8 hℓ8
      have hT8 : ∀ c' ∈ (T' ++ [(h6.objs.size, c)]).map (·.2), c' ∈ seen' ++ [c] := fun c' hc' => by
        rw [List.map_append, List.mem_append] at hc'
        rcases hc' with q | q
        · exact List.mem_append_left _ (hT' c' q)
        · exact List.mem_append_right _ (by simpa using q)
      have hTn8 : ((T' ++ [(h6.objs.size, c)]).map (·.2)).Nodup := by
        rw [List.map_append, List.nodup_append]
        refine ⟨hTn', by simp, fun x hx y hy => ?_⟩
        have : y = c := by simpa using hy
        rw [this]
        exact fun e => hcn (e ▸ hT' x hx)
      have hsub : ∀ v ∈ refs T', v ∈ refs (T' ++ [(h6.objs.size, c)]) := fun v hv => by
        unfold refs
        rw [List.map_append]
        exact List.mem_append_left _ hv
      have hsk' : ∀ c' ∈ seen' ++ [c], c' ∈ ks := fun c' hc' => hsk.mem_iff.mp (by
        rw [← hse]
        rcases List.mem_append.mp hc' with q | q
        · exact List.mem_append_left _ q
        · rw [List.mem_singleton.mp q]; simp)
      have hfc : fT (T' ++ [(h6.objs.size, c)]) (.ref h6.objs.size) = c := fT_of X8.nd (by simp)
      have hfv : vs'.map (fT (T' ++ [(h6.objs.size, c)])) = top' :: er' := by
        rw [← hve']
        exact List.map_congr_left fun v hv => fT_add X8.nd (hvs' v hv)
      have cmp : CmpOk w ((it, o3) :: (tups8 ++ rest)) (fun x y => ltk kf (fT (T' ++ [(h6.objs.size, c)]) x) (fT (T' ++ [(h6.objs.size, c)]) y)) (refs (T' ++ [(h6.objs.size, c)])) :=
        tab_cmp X8 (fun p hp => .tail _ (List.mem_append_left _ hp)) (fun a b ha hb e => inj a b (hsk' a (hT8 a ha)) (hsk' b (hT8 b hb)) e) hTn8 (fun x y => by rfl)
      generalize hT8e : T' ++ [(h6.objs.size, c)] = T8 at *
      have hvl : 0 < vs'.length := by
        have := congrArg List.length hve'
        simp at this
        omega
      have hkin8 : (Mine.hd0.heap_1 w.params).In (h6.push (tupOf [.int (kf c) t5, .int ord' to', .str c t3])) := by
        obtain ⟨mm, FF, _⟩ := H8.fr
        exact C.kin.keeps FF.keep
      refine spliced_none ⟨hkin8, ?_⟩
      refine heapreplace_ok (lt := fun x y => ltk kf (fT T8 x) (fT T8 y)) C H8 (fun p hp => ?_) cmp (fun v hv => hsub v (hvs' v hv)) (y := .ref h6.objs.size) (by rw [← hT8e]; unfold refs; simp) hvl (by omega) (by omega) (by omega) fun v9 h9 tk9 H9 => ?_
      · rcases List.mem_cons.mp hp with rfl | hp
        · exact Nat.ne_of_lt hiℓ
        · rcases List.mem_append.mp hp with hp | hp
          · exact Nat.ne_of_gt (hℓ8 p hp)
          · exact Nat.ne_of_lt (hrℓ p hp)
      dsimp only
      have hmap : (hreplace (fun x y => ltk kf (fT T8 x) (fT T8 y)) vs' (.ref h6.objs.size)).map (fT T8) = hreplace (ltk kf) (top' :: er') c := by
        rw [hreplace_map (fT T8) (ltk kf), hfv, hfc]
      have hsub9 : ∀ v ∈ hreplace (fun x y => ltk kf (fT T8 x) (fT T8 y)) vs' (.ref h6.objs.size), v ∈ refs T8 :=
        siftup_sub (mem_set (fun v hv => hsub v (hvs' v hv)) (by rw [← hT8e]; unfold refs; simp))
      rw [hve'] at B'
      have B9 : Best kf (hreplace (ltk kf) (top' :: er') c) (seen' ++ [c]) := B'.take rfl (by omega)
      have hl9 : (hreplace (fun x y => ltk kf (fT T8 x) (fT T8 y)) vs' (.ref h6.objs.size)).length = vs.length := by
        unfold hreplace
        rw [siftup_len, List.length_set, hlen']
      generalize hreplace (fun x y => ltk kf (fT T8 x) (fT T8 y)) vs' (.ref h6.objs.size) = vs9 at H9 hmap hsub9 hl9
      obtain ⟨x9, r9, hv9⟩ : ∃ x r, vs9 = x :: r := by
        cases vs9 with
        | nil => simp at hl9; omega
        | cons x r => exact ⟨x, r, rfl⟩
      obtain ⟨a9, ha9, hm9⟩ := refs_mem X8.nd (hsub9 x9 (by rw [hv9]; exact .head _))
      obtain ⟨t10, i10, u10, v10, hmt⟩ := X8.tup _ hm9
      dsimp only at hmt
      refine wpAny_execs_cons (Assign_Tuple (Subscript_ (ldA H9 rfl (wpAny_Constant_int (itemA H9 (.head _) (by omega) (by omega) (v := .ref a9) (by rw [hv9, ha9]; rfl) ?_)) hk (lo _ (by decide)))) (by with_unfolding_all rfl) (by with_unfolding_all rfl))
      have ht10 : h9.IsTuple a9 #[.int (kf (fT T8 x9)) t10, .int i10 u10, .str (fT T8 x9) v10] := ⟨_, H9.get (.tail _ (.tail _ (List.mem_append_left _ hmt))), rfl, 0, rfl⟩
      refine wpAny_assign_Tuple C.handled ht10 (by with_unfolding_all rfl) (by with_unfolding_all rfl) fun h10 he10 => ?_
      have H10 := H9.keeps fun b o e => he10 b o (Nat.ne_of_lt (Heap.lt_size e)) e
      show wpAny _ _ (assignInOrder [assign (.Name (Str.ofString "top") p19) _, assign (.Name (Str.ofString "_order") p20) _, assign (.Name (Str.ofString "_elem") p21) _] [.int (kf (fT T8 x9)) t10, .int i10 u10, .str (fT T8 x9) v10]) _ _ _
      refine assignInOrder_cons (wpAny_assign_Name (stA H10 (fun h11 H11 => ?_) hk (lo _ (by decide))))
      refine assignInOrder_cons (wpAny_assign_Name (stA H11 (fun h12 H12 => ?_) hk (lo _ (by decide))))
      refine assignInOrder_cons (wpAny_assign_Name (stA H12 (fun h13 H13 => ?_) hk (lo _ (by decide))))
      refine assignInOrder_nil ?_
      dsimp only
      obtain ⟨mm, F13, hm13⟩ := id H13.fr
      refine wpAny_execs_cons (wpAny_AugAssign_Name (wpAny_loadName_local hk (lo _ (by decide)) F13.ns (hm13 (Str.ofString "order", .int ord' to') (mem_of_lookup rfl)) (wpAny_Constant_int (isub_int (stA H13 (fun h14 H14 => ?_) hk (lo _ (by decide)))))))
      dsimp only
      refine wpAny_execs_nil (wpAny_execs_nil ?_)
      refine' ⟨r.length, by rw [← hrn]; exact Nat.lt_succ_self _, _, _, vs9, T8, tups8, o3, seen' ++ [c], r, fT T8 x9, r9.map (fT T8), _, _, _, rfl, by rw [← hse]; simp, rfl, X8, hT8, hTn8, hsub9, by rw [hmap]; exact B9, by rw [hv9]; rfl, k3, hl9, hℓ8, At.sel H14 ["_heapreplace", "order", "top", "result", "it"]⟩
    · rw [if_neg (by simpa using hlt)]
      refine wpAny_execs_nil (wpAny_execs_nil ?_)
      refine ⟨r.length, by rw [← hrn]; exact Nat.lt_succ_self _, _, _, vs', T', tups', o3, seen' ++ [c], r, top', er', ord', tt', to', rfl, by rw [← hse]; simp, rfl, X', fun c' hc' => List.mem_append_left _ (hT' c' hc'), hTn', hvs', B'.skip hve' (by omega), hve', k3, hlen', hℓ', At.sel H6 ["_heapreplace", "order", "top", "result", "it"]⟩
end
end Mine
end
section
open PySem PySem.W PyProof.Rows PySem.Calls PyProof.Rows.LCg
namespace Mine
theorem strs_snoc {n : Str} {t : Tok} : ∀ {vs : List Value} {ns : List Str}, StrsAre vs ns → StrsAre (vs ++ [.str n t]) (ns ++ [n])
  | _, _, .nil => .cons n t .nil
  | _, _, .cons n' t' h => .cons n' t' (strs_snoc h)
theorem strs_len : ∀ {vs : List Value} {ns : List Str}, StrsAre vs ns → vs.length = ns.length
  | _, _, .nil => rfl
  | _, _, .cons _ _ h => by simp [strs_len h]
section
variable {w : World} {A : Around} {E : Value → Shared → Prop} {s : Shared} {g : Heap} {L ℓ : Addr} {l : List (Str × Value)} {news : List (Addr × Obj)} {d u n : Nat} {vs : List Value} {φ : Value → Str}

theorem elemComp {iter : PySem.Expr} {scope : Scope} {env : Env} {Q : Value → Shared → Prop} {p1 p2 p3 p4 p5 p6 : Pos} {n2 : Nat}
    (C : Cx w A L g d u) (H : At g L s.heap l news) (hm : (ℓ, listOf vs.toArray n) ∈ news) (hT : ∀ v ∈ vs, ∃ a x0 x1 t, v = .ref a ∧ (a, tupOf [x0, x1, .str (φ v) t]) ∈ news) (hlen : vs.length < 1000)
    (hclos : closureFor scope env = pure []) (hkind : scope.kind = .function) (hsc : scope.names = [(Str.ofString ".0", .local), (Str.ofString "k", .local), (Str.ofString "order", .local), (Str.ofString "elem", .local)])
    (hit : ∀ (Q' : Value → Shared → Prop) (E' : Value → Shared → Prop), Q' (.ref ℓ) s → wpAny (MM w) A (eval iter env) Q' E' s)
    (h : ∀ D h' tk ys, StrsAre ys (vs.map φ) → At g L h' l ((D, lst ys) :: news) → (∀ p ∈ news, @LT.lt Nat _ p.1 D) → Q (.ref D) { s with heap := h', toks := tk })
    (hs : ∀ x, foldedSetIterable iter env x = pure x := by intro _; rfl) :
    wpAny (MM w) A (eval (.ListComp (.Name (Str.ofString "elem") p1) [⟨.Tuple [.Name (Str.ofString "k") p2, .Name (Str.ofString "order") p3, .Name (Str.ofString "elem") p4] n2 p5, iter, [], 0⟩] scope p6) env) Q E s := by
  have hh := C.handled
  have nl : ∀ y, y ∈ (["k", "order", "elem"] : List Str) → scope.names.lookup y = some .local := by
    rw [hsc]
    decide
  refine compA (g := g) (L := L) (l := l) hclos (by rw [hsc]; decide) hkind (by rw [hsc]; decide) (hit _ _ ?_) hs
  have hl0 : s.heap.IsList ℓ vs.toArray := PySem.IsL.isList (n := n) (H.get hm)
  refine wpAny_pyIter_list hl0 ?_
  have H1 := H.push { cls := .type "list_iterator", data := .fields #[.ref ℓ, .int 0 0] }
  have lt0 := H.lt
  have hself : ∀ (s' : Shared) (oI : Obj) (i : Nat) (Q' : Value → Shared → Prop) (E' : Value → Shared → Prop), s'.heap.IsListIter s.heap.objs.size ℓ i → Q' (.ref s.heap.objs.size) s' → wpAny (MM w) A (pyIter (.ref s.heap.objs.size)) Q' E' s' := fun s' oI i Q' E' hi q => wpAny_pyIter_listiter hi q
  refine ⟨_, fun n' ys nw => ∃ (oI : Obj) (i : Nat), nw = (s.heap.objs.size, oI) :: news ∧ oI.cls = .type "list_iterator" ∧ oI.data = .fields #[.ref ℓ, .int i 0] ∧ ys.length = i ∧ i ≤ vs.length ∧ StrsAre ys ((vs.take i).map φ) ∧ n' = vs.length + 1 - i, vs.length + 1, H1,
    ⟨_, 0, rfl, rfl, rfl, rfl, Nat.zero_le _, .nil, rfl⟩, fun s' Q' E' H' q' => hself s' default 0 Q' E' ⟨_, H'.get (.head _), rfl, rfl⟩ q', ?_⟩
  intro n' ys nw Cc oC lc D h' tk' hDe hltD hDC hP hCT H' off
  obtain ⟨oI, i, rfl, hoc, hod, hyl, hiv, hst, hn'⟩ := hP
  have hDr : ∀ p ∈ news, @LT.lt Nat _ p.1 D := fun p hp => hltD p (.tail _ hp)
  have hDI : @LT.lt Nat _ s.heap.objs.size D := hltD _ (.head _)
  have hDC' : @LT.lt Nat _ D Cc := hDC
  have inN : ∀ p ∈ news, p ∈ (Cc, oC) :: (D, lst ys) :: (s.heap.objs.size, oI) :: news := fun p hp => .tail _ (.tail _ (.tail _ hp))
  have hit1 : h'.IsListIter s.heap.objs.size ℓ i := ⟨oI, H'.get (.tail _ (.tail _ (.head _))), hoc, hod⟩
  have hl1 : h'.IsList ℓ vs.toArray := PySem.IsL.isList (n := n) (H'.get (inN _ hm))
  have preoff : ∀ p ∈ [(Cc, oC), (D, lst ys)], p.1 ≠ s.heap.objs.size := fun p hp => by
    simp only [List.mem_cons, List.not_mem_nil, or_false] at hp
    rcases hp with rfl | rfl
    · exact Nat.ne_of_gt (by omega)
    · exact Nat.ne_of_gt (by omega)
  have newoff : ∀ p ∈ news, p.1 ≠ s.heap.objs.size := fun p hp => Nat.ne_of_lt (lt0 p hp)
  by_cases hend : i < vs.length
  · obtain ⟨v, hv⟩ : ∃ v, vs[i]? = some v := ⟨_, List.getElem?_eq_getElem hend⟩
    refine wpAny_pyNext_list_item hit1 hl1 (by simpa using hv) fun h3 hi3 hs3 => ?_
    obtain ⟨oI3, ho3, hc3, hd3⟩ := id hi3
    have H3 := At.upd [(Cc, oC), (D, lst ys)] H' preoff newoff hs3 ho3
    obtain ⟨a, x0, x1, t, rfl, hma⟩ := hT v (List.mem_of_getElem? hv)
    dsimp only
    refine wpAny_letOwnedTupleGo_listiter hi3 ?_
    have ht4 : h3.IsTuple a #[x0, x1, .str (φ (.ref a)) t] := ⟨_, H3.get (.tail _ (.tail _ (.tail _ hma))), rfl, 0, rfl⟩
    refine wpAny_assign_Tuple hh ht4 rfl rfl fun h5 he5 => ?_
    have H5 := H3.keeps fun b o e => he5 b o (Nat.ne_of_lt (Heap.lt_size e)) e
    have offC : ∀ p ∈ (D, lst ys) :: (s.heap.objs.size, oI3) :: news, p.1 ≠ Cc := fun p hp => by
      simp only [List.mem_cons] at hp
      rcases hp with rfl | rfl | hp
      · exact Nat.ne_of_lt (by omega)
      · exact Nat.ne_of_lt (by omega)
      · exact Nat.ne_of_lt (Nat.lt_trans (hDr p hp) hDC')
    show wpAny _ _ (assignInOrder [assign (.Name (Str.ofString "k") p2) (compEnvC scope [] Cc env), assign (.Name (Str.ofString "order") p3) (compEnvC scope [] Cc env), assign (.Name (Str.ofString "elem") p4) (compEnvC scope [] Cc env)] [x0, x1, .str (φ (.ref a)) t]) _ _ _
    refine assignInOrder_cons (wpAny_assign_Name (stC [] H5 (fun _ q => nomatch q) offC hCT (fun h6 oC6 hC6 H6 => ?_) hkind (nl _ (by decide))))
    refine assignInOrder_cons (wpAny_assign_Name (stC [] H6 (fun _ q => nomatch q) offC hC6 (fun h7 oC7 hC7 H7 => ?_) hkind (nl _ (by decide))))
    refine assignInOrder_cons (wpAny_assign_Name (stC [] H7 (fun _ q => nomatch q) offC hC7 (fun h9 oC9 hC9 H9 => ?_) hkind (nl _ (by decide))))
    refine assignInOrder_nil ?_
    refine ldC (v := .str (φ (.ref a)) t) H9 (.head _) hC9 (by unfold put; simp) ?_ hkind (nl _ (by decide))
    have hst' : StrsAre (ys ++ [.str (φ (.ref a)) t]) ((vs.take (i + 1)).map φ) := by
      rw [List.take_add_one, hv, List.map_append]
      exact strs_snoc hst
    refine ⟨_, _, oC9, _, (s.heap.objs.size, oI3) :: news, n' - 1, rfl, by omega, by omega, hC9, H9, fun p hp => ?_, oI3, i + 1, rfl, hc3, hd3, by simp [hyl], by omega, hst', by omega⟩
    rcases List.mem_cons.mp hp with rfl | q
    · exact ⟨Nat.ne_of_lt (by omega), Nat.ne_of_lt (by omega)⟩
    · exact off p (.tail _ q)
  · have hi : i = vs.length := by omega
    refine wpAny_pyNext_list_end hh hit1 hl1 (by simp [hi]) fun h3 hs3 => ?_
    have H3 : At g L h3 l ((Cc, oC) :: (D, lst ys) :: news) := At.ext (d := s.heap.objs.size) (o := oI) (H'.new fun p hp => by
      simp only [List.mem_cons] at hp ⊢
      rcases hp with hp | hp | hp | hp
      · exact .inr (.inr (.inl hp))
      · exact .inl hp
      · exact .inr (.inl hp)
      · exact .inr (.inr (.inr hp))) (fun p hp => by
      simp only [List.mem_cons] at hp
      rcases hp with rfl | rfl | hp
      · exact Nat.ne_of_gt (by omega)
      · exact Nat.ne_of_gt (by omega)
      · exact newoff p hp) hs3
    refine ⟨h3, _, news, rfl, H3, fun p hp => ⟨Nat.ne_of_lt (Nat.lt_trans (hDr p hp) hDC'), Nat.ne_of_lt (hDr p hp)⟩, fun h4 H4 => h D h4 _ ys ?_ H4 hDr⟩
    rw [hi, List.take_length] at hst
    exact hst
end
section
variable {w : World} {A : Around} {E : Value → Shared → Prop} {s : Shared} {g : Heap} {L ℓ : Addr} {l : List (Str × Value)} {news : List (Addr × Obj)} {d u n : Nat} {vs : List Value} {φ : Value → Str}

theorem signComp {iter : PySem.Expr} {scope : Scope} {cs : Scope} {cn : Str} {ccd : Value} {ea : Addr} {ec : List (Str × Addr)} {py spos : Pos} {Q : Flow → Shared → Prop} {p1 p2 p3 p4 p5 p6 : Pos} {n2 : Nat}
    (C : Cx w A L g d u) (H : At g L s.heap l news) (hm : (ℓ, listOf vs.toArray n) ∈ news) (hT : ∀ v ∈ vs, ∃ a x0 t, v = .ref a ∧ (a, tupOf [x0, .str (φ v) t]) ∈ news) (hlen : vs.length < 1000)
    (hsw : swapsWith (.ListComp (.Name (Str.ofString "sign") p1) [⟨.Tuple [.Name (Str.ofString "left") p2, .Name (Str.ofString "sign") p3] n2 p5, iter, [], 0⟩] scope p6) (some (.Name (Str.ofString "rising") py)) spos.line (envX cn cs L ea ccd ec) = pure true) (hclos : closureFor scope (envX cn cs L ea ccd ec) = pure []) (hkind : scope.kind = .function) (hsc : scope.names = [(Str.ofString ".0", .local), (Str.ofString "left", .local), (Str.ofString "sign", .local)])
    (hit : ∀ (Q' : Value → Shared → Prop) (E' : Value → Shared → Prop), Q' (.ref ℓ) s → wpAny (MM w) A (eval iter (envX cn cs L ea ccd ec)) Q' E' s) (hke : cs.kind = .function) (hy : cs.names.lookup (Str.ofString "rising") = some .local)
    (h : ∀ D h' tk ys, StrsAre ys (vs.map φ) → At g L h' (put l (Str.ofString "rising") (.ref D)) ((D, lst ys) :: news) → (∀ p ∈ news, @LT.lt Nat _ p.1 D) → Q .next { s with heap := h', toks := tk })
    (hs : ∀ x, foldedSetIterable iter (envX cn cs L ea ccd ec) x = pure x := by intro _; rfl) :
    wpAny (MM w) A (exec (.Assign [.Name (Str.ofString "rising") py] (.ListComp (.Name (Str.ofString "sign") p1) [⟨.Tuple [.Name (Str.ofString "left") p2, .Name (Str.ofString "sign") p3] n2 p5, iter, [], 0⟩] scope p6) spos) (envX cn cs L ea ccd ec)) Q E s := by
  have hh := C.handled
  have nl : ∀ y, y ∈ (["left", "sign"] : List Str) → scope.names.lookup y = some .local := by
    rw [hsc]
    decide
  refine compS (g := g) (L := L) (l := l) hsw hclos (by rw [hsc]; decide) hkind (by rw [hsc]; decide) hke hy (hit _ _ ?_) hs
  have hl0 : s.heap.IsList ℓ vs.toArray := PySem.IsL.isList (n := n) (H.get hm)
  refine wpAny_pyIter_list hl0 ?_
  have H1 := H.push { cls := .type "list_iterator", data := .fields #[.ref ℓ, .int 0 0] }
  have lt0 := H.lt
  have hself : ∀ (s' : Shared) (oI : Obj) (i : Nat) (Q' : Value → Shared → Prop) (E' : Value → Shared → Prop), s'.heap.IsListIter s.heap.objs.size ℓ i → Q' (.ref s.heap.objs.size) s' → wpAny (MM w) A (pyIter (.ref s.heap.objs.size)) Q' E' s' := fun s' oI i Q' E' hi q => wpAny_pyIter_listiter hi q
  refine ⟨_, fun n' ys nw => ∃ (oI : Obj) (i : Nat), nw = (s.heap.objs.size, oI) :: news ∧ oI.cls = .type "list_iterator" ∧ oI.data = .fields #[.ref ℓ, .int i 0] ∧ ys.length = i ∧ i ≤ vs.length ∧ StrsAre ys ((vs.take i).map φ) ∧ n' = vs.length + 1 - i, vs.length + 1, H1,
    ⟨_, 0, rfl, rfl, rfl, rfl, Nat.zero_le _, .nil, rfl⟩, fun s' Q' E' H' q' => hself s' default 0 Q' E' ⟨_, H'.get (.head _), rfl, rfl⟩ q', ?_⟩
  intro n' ys nw Cc oC lc D h' tk' hDe hltD hDC hP hCT H' off
  obtain ⟨oI, i, rfl, hoc, hod, hyl, hiv, hst, hn'⟩ := hP
  have hDr : ∀ p ∈ news, @LT.lt Nat _ p.1 D := fun p hp => hltD p (.tail _ hp)
  have hDI : @LT.lt Nat _ s.heap.objs.size D := hltD _ (.head _)
  have hDC' : @LT.lt Nat _ D Cc := hDC
  have inN : ∀ p ∈ news, p ∈ (Cc, oC) :: (D, lst ys) :: (s.heap.objs.size, oI) :: news := fun p hp => .tail _ (.tail _ (.tail _ hp))
  have hit1 : h'.IsListIter s.heap.objs.size ℓ i := ⟨oI, H'.get (.tail _ (.tail _ (.head _))), hoc, hod⟩
  have hl1 : h'.IsList ℓ vs.toArray := PySem.IsL.isList (n := n) (H'.get (inN _ hm))
  have preoff : ∀ p ∈ [(Cc, oC), (D, lst ys)], p.1 ≠ s.heap.objs.size := fun p hp => by
    simp only [List.mem_cons, List.not_mem_nil, or_false] at hp
    rcases hp with rfl | rfl
    · exact Nat.ne_of_gt (by omega)
    · exact Nat.ne_of_gt (by omega)
  have newoff : ∀ p ∈ news, p.1 ≠ s.heap.objs.size := fun p hp => Nat.ne_of_lt (lt0 p hp)
  by_cases hend : i < vs.length
  · obtain ⟨v, hv⟩ : ∃ v, vs[i]? = some v := ⟨_, List.getElem?_eq_getElem hend⟩
    refine wpAny_pyNext_list_item hit1 hl1 (by simpa using hv) fun h3 hi3 hs3 => ?_
    obtain ⟨oI3, ho3, hc3, hd3⟩ := id hi3
    have H3 := At.upd [(Cc, oC), (D, lst ys)] H' preoff newoff hs3 ho3
    obtain ⟨a, x0, t, rfl, hma⟩ := hT v (List.mem_of_getElem? hv)
    dsimp only
    refine wpAny_letOwnedTupleGo_listiter hi3 ?_
    have ht4 : h3.IsTuple a #[x0, .str (φ (.ref a)) t] := ⟨_, H3.get (.tail _ (.tail _ (.tail _ hma))), rfl, 0, rfl⟩
    refine wpAny_assign_Tuple hh ht4 rfl rfl fun h5 he5 => ?_
    have H5 := H3.keeps fun b o e => he5 b o (Nat.ne_of_lt (Heap.lt_size e)) e
    have offC : ∀ p ∈ (D, lst ys) :: (s.heap.objs.size, oI3) :: news, p.1 ≠ Cc := fun p hp => by
      simp only [List.mem_cons] at hp
      rcases hp with rfl | rfl | hp
      · exact Nat.ne_of_lt (by omega)
      · exact Nat.ne_of_lt (by omega)
      · exact Nat.ne_of_lt (Nat.lt_trans (hDr p hp) hDC')
    show wpAny _ _ (assignInOrder [assign (.Name (Str.ofString "left") p2) (compEnvC scope [] Cc (envX cn cs L ea ccd ec)), assign (.Name (Str.ofString "sign") p3) (compEnvC scope [] Cc (envX cn cs L ea ccd ec))] [x0, .str (φ (.ref a)) t]) _ _ _
    refine assignInOrder_cons (wpAny_assign_Name (stC [] H5 (fun _ q => nomatch q) offC hCT (fun h6 oC6 hC6 H6 => ?_) hkind (nl _ (by decide))))
    refine assignInOrder_cons (wpAny_assign_Name (stC [] H6 (fun _ q => nomatch q) offC hC6 (fun h9 oC9 hC9 H9 => ?_) hkind (nl _ (by decide))))
    refine assignInOrder_nil ?_
    refine ldC (v := .str (φ (.ref a)) t) H9 (.head _) hC9 (by unfold put; simp) ?_ hkind (nl _ (by decide))
    have hst' : StrsAre (ys ++ [.str (φ (.ref a)) t]) ((vs.take (i + 1)).map φ) := by
      rw [List.take_add_one, hv, List.map_append]
      exact strs_snoc hst
    refine ⟨_, _, oC9, _, (s.heap.objs.size, oI3) :: news, n' - 1, rfl, by omega, by omega, hC9, H9, fun p hp => ?_, oI3, i + 1, rfl, hc3, hd3, by simp [hyl], by omega, hst', by omega⟩
    rcases List.mem_cons.mp hp with rfl | q
    · exact ⟨Nat.ne_of_lt (by omega), Nat.ne_of_lt (by omega)⟩
    · exact off p (.tail _ q)
  · have hi : i = vs.length := by omega
    refine wpAny_pyNext_list_end hh hit1 hl1 (by simp [hi]) fun h3 hs3 => ?_
    have H3 : At g L h3 l ((Cc, oC) :: (D, lst ys) :: news) := At.ext (d := s.heap.objs.size) (o := oI) (H'.new fun p hp => by
      simp only [List.mem_cons] at hp ⊢
      rcases hp with hp | hp | hp | hp
      · exact .inr (.inr (.inl hp))
      · exact .inl hp
      · exact .inr (.inl hp)
      · exact .inr (.inr (.inr hp))) (fun p hp => by
      simp only [List.mem_cons] at hp
      rcases hp with rfl | rfl | hp
      · exact Nat.ne_of_gt (by omega)
      · exact Nat.ne_of_gt (by omega)
      · exact newoff p hp) hs3
    refine ⟨h3, _, news, rfl, H3, fun p hp => ⟨Nat.ne_of_lt (Nat.lt_trans (hDr p hp) hDC'), Nat.ne_of_lt (hDr p hp)⟩, fun h4 tk4 H4 => h D h4 tk4 ys ?_ H4 hDr⟩
    rw [hi, List.take_length] at hst
    exact hst
end
end Mine
end
section
open PySem PySem.W PyProof.Rows PySem.Calls PyProof.Rows.LCg
namespace Mine
/-- what is walked: the dict, or an iterator over it -/
def Sou (w : World) (itv : Value) (rest base : List (Addr × Obj)) (dct : Addr) (ks : List Str) (ep : Nat) : Prop :=
  Src w base dct ks ep ∧ (dct == sysModules) = false ∧ ((itv = .ref dct ∧ rest = base) ∨ ∃ it oI, itv = .ref it ∧ rest = (it, oI) :: base ∧ KIt oI dct ks ep ks ∧ ∀ p ∈ base, p.1 ≠ it)

theorem heapify_sub {α : Type} {lt : α → α → Bool} {S : List α} : ∀ (n : Nat) (l : List α), (∀ v ∈ l, v ∈ S) → ∀ v ∈ heapifyF lt n l, v ∈ S
  | 0, _, h => h
  | n + 1, l, h => heapify_sub n _ (siftup_sub h)
theorem heapifyF_len {α : Type} {lt : α → α → Bool} : ∀ (n : Nat) (l : List α), (heapifyF lt n l).length = l.length
  | 0, _ => rfl
  | n + 1, l => (heapifyF_len n _).trans siftup_len
theorem nodup_map {α β : Type} {f : α → β} : ∀ {l : List α}, l.Nodup → (∀ a b, a ∈ l → b ∈ l → f a = f b → a = b) → (l.map f).Nodup
  | [], _, _ => .nil
  | x :: r, nd, h => by
    rw [List.nodup_cons] at nd
    rw [List.map_cons, List.nodup_cons]
    refine ⟨fun q => ?_, nodup_map nd.2 fun a b ha hb => h a b (.tail _ ha) (.tail _ hb)⟩
    obtain ⟨y, hy, e⟩ := List.mem_map.mp q
    exact nd.1 (h y x (.tail _ hy) (.head _) e ▸ hy)
theorem CallKw {M : Model} {A : Around} {E : Value → Shared → Prop} {s : Shared} {env : Env} {func : PySem.Expr} {args : List PySem.Expr} {kws : List Keyword} {pos : Pos} {Q : Value → Shared → Prop}
    (h : wpAny M A (eval func env) (fun f s₁ => wpAny M A (callWith pos f [] (backTo pos (starEach args env)) (backToKw pos (keywordEach kws env))) Q E s₁) E s)
    (he : eval (.Call func args kws pos) env = (do callWith pos (← eval func env) [] (backTo pos (starEach args env)) (backToKw pos (keywordEach kws env)))) :
    wpAny M A (eval (.Call func args kws pos) env) Q E s := by
  rw [he]; exact wpAny_bind h
theorem take_one {α : Type} {key : α → Int} {R : List α} {cb : α} (hR : R.Pairwise fun a b => key a < key b) (hm : cb ∈ R) (hle : ∀ c ∈ R, key cb ≤ key c) : R.take 1 = [cb] := by
  cases R with
  | nil => cases hm
  | cons r R =>
    rw [List.pairwise_cons] at hR
    rcases List.mem_cons.mp hm with e | q
    · rw [e]; rfl
    · have h1 := hR.1 cb q
      have h2 := hle r (.head _)
      omega
theorem sorted_eq {α : Type} {key : α → Int} : ∀ {os R ks : List α}, os.Perm ks → R.Perm ks → os.Pairwise (fun a b => key a ≤ key b) → R.Pairwise (fun a b => key a < key b) → os = R := by
  intro os R ks h1 h2 ho hR
  have hp : os.Perm R := h1.trans h2.symm
  have inj : ∀ {R : List α}, R.Pairwise (fun a b => key a < key b) → ∀ a b, a ∈ R → b ∈ R → key a = key b → a = b := by
    intro R
    induction R with
    | nil => intro _ a b h; cases h
    | cons r R ih =>
      intro h a b ha hb e
      rw [List.pairwise_cons] at h
      rcases List.mem_cons.mp ha with q1 | q1 <;> rcases List.mem_cons.mp hb with q2 | q2
      · rw [q1, q2]
      · have := h.1 b q2; rw [q1] at e; omega
      · have := h.1 a q1; rw [q2] at e; omega
      · exact ih h.2 a b q1 q2 e
  have nd : os.Nodup := hp.nodup_iff.mpr (hR.imp fun h e => by rw [e] at h; omega)
  have hs : os.Pairwise fun a b => key a < key b := by
    have hboth : os.Pairwise fun a b => key a ≤ key b ∧ a ≠ b := List.pairwise_and_iff.mpr ⟨ho, nd⟩
    refine hboth.imp_of_mem fun {a b} ha hb h => ?_
    have : key a ≠ key b := fun e => h.2 (inj hR a b (hp.mem_iff.mp ha) (hp.mem_iff.mp hb) e)
    have := h.1
    omega
  have u := take_unique hR hs (dr := []) (by rw [List.append_nil]; exact hp) (fun _ _ _ h => nomatch h)
  rw [u, hp.length_eq, List.take_length]
theorem strs_len' {vs : List Value} {ns : List Str} (h : StrsAre vs ns) : vs.length = ns.length := strs_len h
theorem fitsL {k : Int} (a : -2000 ≤ k) (b : k ≤ 2000) : Builtin.Range.rangeFitsLong k = true := by
  unfold Builtin.Range.rangeFitsLong
  simp
  omega
theorem rsz3 (n : Int) : Builtin.Range.rangeSize 0 (-n) (-1) = if 0 < n then n else 0 := by
  show (if (0 : Int) > -n then (0 - -n - 1) / 1 + 1 else 0) = _
  rw [Int.ediv_one]
  split <;> split <;> omega
theorem rsz1 (n : Int) : Builtin.Range.rangeSize 0 n 1 = if 0 < n then n else 0 := by rw [rangeSize_one]; split <;> omega
theorem small1 {n : Int} (h1 : -100 < n) (h2 : n < 100) : Builtin.Range.small 0 n 1 = true := by
  have b : -2000 ≤ (if 0 < n then n else 0) ∧ (if 0 < n then n else 0) ≤ 2000 := by split <;> omega
  unfold Builtin.Range.small
  rw [rsz1]
  generalize (if 0 < n then n else 0) = q at b ⊢
  rw [fitsL (k := 0) (by omega) (by omega), fitsL (k := n) (by omega) (by omega), fitsL (k := 1) (by omega) (by omega), fitsL b.1 b.2, if_pos (by decide), fitsL (k := n + (1 - 1)) (by omega) (by omega)]
  simp
theorem small3 {n : Int} (h1 : -100 < n) (h2 : n < 100) : Builtin.Range.small 0 (-n) (-1) = true := by
  have b : -2000 ≤ (if 0 < n then n else 0) ∧ (if 0 < n then n else 0) ≤ 2000 := by split <;> omega
  unfold Builtin.Range.small
  rw [rsz3]
  generalize (if 0 < n then n else 0) = q at b ⊢
  rw [fitsL (k := 0) (by omega) (by omega), fitsL (k := -n) (by omega) (by omega), fitsL (k := -1) (by omega) (by omega), fitsL b.1 b.2, if_neg (by decide), fitsL (k := -n + (-1 + 1)) (by omega) (by omega)]
  simp
section
variable {w : World} {A : Around} {E : Value → Shared → Prop} {s : Shared} {g : Heap} {L : Addr} {l : List (Str × Value)} {news : List (Addr × Obj)}
theorem range3A {a b c : Int} {t u v : Tok} {Q : Value → Shared → Prop} (H : At g L s.heap l news) (h : ∀ r h' t u v tk, At g L h' l ((r, raObj a b c t u v) :: news) → (∀ p ∈ news, p.1 < r) → Q (.ref r) { s with heap := h', toks := tk }) (hc : c ≠ 0 := by decide) (hab : c.natAbs < 1073741824 := by decide) :
    wpAny (MM w) A (call (.type "range") [.int a t, .int b u, .int c v]) Q E s := call_range_3 hc (h _ _ _ _ _ _ (H.push _) H.lt) (.inl (PyProof.noPylong_small hab))
end

section
variable {w : World} {A : Around} {E : Value → Shared → Prop} {s : Shared} {g : Heap} {L : Addr} {l : List (Str × Value)} {rest base : List (Addr × Obj)} {d u : Nat} {dct cK : Addr} {oK : Obj} {ks : List Str} {ep : Nat} {itv : Value}
theorem iterA {Q : Value → Shared → Prop} (C : Cx w A L g d u) (So : Sou w itv rest base dct ks ep) (H : At g L s.heap l ((cK, oK) :: rest)) (hcK : ∀ p ∈ rest, p.1 ≠ cK)
    (h : ∀ it oI h', KIt oI dct ks ep ks → At g L h' l ((it, oI) :: (cK, oK) :: base) → (∀ p ∈ (cK, oK) :: base, p.1 ≠ it) → Q (.ref it) { s with heap := h' }) :
    wpAny (MM w) A (call (.builtin "iter") [itv]) Q E s := by
  obtain ⟨S, hsm, q⟩ := So
  refine call_function_entry (by decide +kernel) (by decide +kernel) kdk_entry_iter (kdk_args_iter _) ?_
  unfold Builtin.«iter»
  refine wpAny_bind (m := someArgs "iter" 1 2 _) (wpAny_of_eq (a := [itv]) (by first | rfl | kernel_rfl!) ?_)
  show wpAny _ _ (pyIter itv >>= _) _ _ _
  rcases q with ⟨rfl, rfl⟩ | ⟨it, oI, rfl, rfl, k, hne⟩
  · obtain ⟨kvs, hD, hk⟩ := S.at C H fun p hp => .tail _ hp
    refine wpAny_bind (wpAny_pyIter_dict hsm hD ?_)
    have hl : kvs.length = ks.length := by rw [← hk, List.length_map]
    exact wpAny_pure ⟨_, rfl, h _ _ _ (.inl ⟨0, ⟨rfl, by rw [hl]; rfl⟩, rfl⟩) (H.push _) fun p hp => Nat.ne_of_lt (H.lt p hp)⟩
  · refine wpAny_bind (iterK k (H.get (.tail _ (.head _))) (wpAny_pure ⟨_, rfl, h it oI s.heap k (H.new fun p hp => ?_) fun p hp => ?_⟩))
    · simp only [List.mem_cons] at hp ⊢
      rcases hp with hp | hp | hp
      · exact .inr (.inl hp)
      · exact .inl hp
      · exact .inr (.inr hp)
    · rcases List.mem_cons.mp hp with rfl | hp
      · exact Ne.symm (hcK (it, oI) (.head _))
      · exact hne p hp
end
theorem nsmallest_ok {w : World} {A : Around} {E : Value → Shared → Prop} {s : Shared} {g : Heap} {L : Addr} {l : List (Str × Value)} {rest base need : List (Addr × Obj)} {d u : Nat} {Q : Value → Shared → Prop} {dct f : Addr} {ks R : List Str} {ep : Nat} {kf : Str → Int} {itv : Value} {n : Int} {tn : Tok} {envc : Env} {fs : List Addr}
    (C : Cx w A L g d u) (CE : CxE w A L g envc fs) (H : At g L s.heap l rest) (So : Sou w itv rest base dct ks ep) (KO : KeyOk w f need kf ks) (hneed : ∀ p ∈ need, p ∈ base) (hd : d < 500) (hu : u < 5000)
    (inj : ∀ a b, a ∈ ks → b ∈ ks → kf a = kf b → a = b) (hnd : ks.Nodup) (hkl : 2 ≤ ks.length) (hkl2 : ks.length < 64) (hn1 : -100 < n) (hn2 : n < 100) (hR : R.Perm ks) (hRs : R.Pairwise fun a b => kf a < kf b)
    (h : ∀ gc D h' tk ys N, KtsTurn fs g gc → StrsAre ys (R.take n.toNat) → At gc L h' l ((D, listOf ys.toArray N) :: base) → (∀ p ∈ rest, @LT.lt Nat _ p.1 D) → Q (.ref D) { s with heap := h', toks := tk }) :
    wpAny (MM w) A (call (.ref 76) [.int n tn, itv] [(Str.ofString "key", .ref f)]) Q E s := by
  have hcl := cLine_is
  have hkF : ∀ b o, g.get? b = some o → s.heap.get? b = some o := by
    obtain ⟨_, F, _⟩ := H.fr
    exact F.keep
  refine callC1 (f := 76) (x := Str.ofString "key") (v := .ref f) (bl := [(Str.ofString "iterable", itv), (Str.ofString "n", .int n tn)]) C CE H (by k_is) (by k_is) (by simp only [recursionLimit]; omega) (binds := [("n", .int n tn), ("iterable", itv), ("key", .ref f)]) (bn := ["n", "iterable", "key"]) (binds_K (C.kin.keeps hkF) rfl (by k_is) rfl rfl rfl) (fun _ => rfl) rfl (by decide) rfl rfl (by simp) (fun p hp => ?_) ?_ rfl rfl rfl
  · simp only [List.mem_cons, List.not_mem_nil, or_false] at hp ⊢
    rcases hp with rfl | rfl
    · exact ⟨.inr (.inl rfl), (show Str.ofString "iterable" ≠ Str.ofString "key" by decide)⟩
    · exact ⟨.inl rfl, (show Str.ofString "n" ≠ Str.ofString "key" by decide)⟩
  intro g₁ L' h₁ tk oK CE₁ C₁ hoK H' lt'
  have hcK : ∀ p ∈ rest, p.1 ≠ L' + 1 := fun p hp => Nat.ne_of_lt (Nat.lt_succ_of_lt (lt' p hp))
  have So' := So
  obtain ⟨S, hsm, Sq⟩ := So'
  have hbr : ∀ p ∈ base, p ∈ rest := by
    rcases Sq with ⟨_, rfl⟩ | ⟨_, _, _, rfl, _, _⟩
    · exact fun p hp => hp
    · exact fun p hp => .tail _ hp
  have ltb : ∀ p ∈ base, @LT.lt Nat _ p.1 L' := fun p hp => lt' p (hbr p hp)
  refine wpAny_execs_cons (wpAny_If (wpAny_isTrue_Compare1 (ldA H' rfl (wpAny_Constant_int (eq_int (wpAny_truthy_bool ?_))))))
  by_cases h1 : n = 1
  · rw [if_pos (by simpa using h1)]
    subst h1
    refine wpAny_execs_cons (wpAny_Assign_Name (Call_ (ldB C₁ H' (by k_is) (by boot_by_name) (by decide) (PyProof.Rows.callWith_builtin1 (spliced_more (ldA H' rfl (spliced_none (iterA C₁ So H' hcK fun it oI h3 k3 H3 hit => ?_))) rfl) rfl rfl)) rfl) (by with_unfolding_all rfl))
    refine stA H3 fun h4 H4 => ?_
    dsimp only
    refine wpAny_execs_cons (wpAny_Assign_Name (Call_ (ldB C₁ H4 (by k_is) (by boot_by_name) (by decide) (PyProof.Rows.callWith_type0 (objectA H4 fun o5 h5 H5 lt5 => ?_))) rfl) (by with_unfolding_all rfl))
    refine stA H5 fun h6 H6 => ?_
    dsimp only
    replace H6 : At g₁ L' h6 [(Str.ofString "sentinel", .ref o5), (Str.ofString "it", .ref it), (Str.ofString "iterable", itv), (Str.ofString "n", .int 1 tn)] ((it, oI) :: (o5, objO) :: (L' + 1, oK) :: base) := H6.new fun p hp => by
      simp only [List.mem_cons] at hp ⊢
      rcases hp with hp | hp | hp | hp
      · exact .inr (.inl hp)
      · exact .inl hp
      · exact .inr (.inr (.inl hp))
      · exact .inr (.inr (.inr hp))
    have hit6 : ∀ p ∈ (o5, objO) :: (L' + 1, oK) :: base, p.1 ≠ it := fun p hp => by
      rcases List.mem_cons.mp hp with rfl | hp
      · exact Ne.symm (Nat.ne_of_lt (lt5 (it, oI) (.head _)))
      · exact hit p hp
    refine wpAny_execs_cons (wpAny_Assign_Name (CallKw (ldB C₁ H6 (by k_is) (by boot_by_name) (by decide) (callWith_kw (spliced_more (ldA H6 rfl (spliced_none (kws_cons (ldA H6 rfl (kws_cons (ldX H6 rfl (.tail _ (.tail _ (.head _))) hoK (kws_nil ?_)))))))))) rfl) (by with_unfolding_all rfl))
    refine minA C₁ (by omega) (by omega) (S.mono fun p hp => .tail _ (.tail _ hp)) KO (fun p hp => .tail _ (.tail _ (hneed p hp))) hit6 (fun q => by rw [q] at hkl; simp at hkl) H6 k3 fun cb tb h7 tk7 hcb hle H7 => ?_
    refine stA H7 fun h8 H8 => ?_
    dsimp only
    refine wpAny_execs_cons (wpAny_Return_some (wpAny_IfExp (wpAny_isTrue_Compare1 (ldA H8 rfl (ldA H8 rfl (wpAny_is_other rfl (by intro q; cases q) (wpAny_truthy_bool ?_)))))))
    rw [if_neg Bool.false_ne_true]
    refine List_ (spliced_more (ldA H8 rfl (spliced_none (wpAny_newList ?_ (by size_fits)))) rfl)
    have H9 := H8.push { cls := .type "list", data := .seq [Value.str cb tb].toArray }
    have hL9 : @LT.lt Nat _ L' h8.objs.size := H8.Llt
    refine ⟨g₁, _, (h8.objs.size, listOf [Value.str cb tb].toArray 0) :: base, .refl, H9.new fun p hp => ?_, fun gc Tc H10 => h gc _ _ _ [.str cb tb] 0 Tc ?_ H10 fun p hp => Nat.lt_trans (lt' p hp) hL9⟩
    · rcases List.mem_cons.mp hp with hp | hp
      · exact hp ▸ .head _
      · exact .tail _ (.tail _ (.tail _ hp))
    · rw [show (R.take (1 : Int).toNat) = [cb] from take_one hRs (hR.mem_iff.mpr hcb) fun c hc => hle c (hR.mem_iff.mp hc)]
      exact .cons cb tb .nil
  rw [if_neg (by simpa using h1)]
  refine wpAny_execs_nil ?_
  dsimp only
  refine wpAny_execs_cons (wpAny_mono (Q := fun fl s' => ∃ g', KtsTurn (L :: fs) g₁ g' ∧ ((fl = .next ∧ ∃ h2 tk2, s' = { s with heap := h2, toks := tk2 } ∧ At g' L' h2 [(Str.ofString "iterable", itv), (Str.ofString "n", .int n tn)] ((L' + 1, oK) :: rest)) ∨
      (∃ D ys N, fl = .ret (.ref D) ∧ StrsAre ys (R.take n.toNat) ∧ @LT.lt Nat _ L' D ∧ ∃ l2 h2 tk2, s' = { s with heap := h2, toks := tk2 } ∧ At g' L' h2 l2 ((D, listOf ys.toArray N) :: base)))) ?_ ?_ fun _ _ z => z)
  · refine wpAny_Try_except ?_
    rcases Sq with ⟨rfl, rfl⟩ | ⟨it, oI, rfl, rfl, kI, hne⟩
    · -- the dict: it has a length
      obtain ⟨kvs, hD, hkv⟩ := S.at C₁ H' fun p hp => .tail _ hp
      have hkvl : kvs.length = ks.length := by rw [← hkv, List.length_map]
      refine wpAny_execs_cons (wpAny_Assign_Name (Call_ (ldB C₁ H' (by k_is) (by boot_by_name) (by decide) (PyProof.Rows.callWith_builtin1 (spliced_more (ldA H' rfl (spliced_none (call_len_dict hsm hD.dictOf (by omega) ?_))) rfl) rfl rfl)) rfl) (by with_unfolding_all rfl))
      refine stA H' fun h3 H3 => ?_
      dsimp only
      refine wpAny_execs_nil ?_
      dsimp only
      refine wpAny_execs_cons (wpAny_If (wpAny_isTrue_Compare1 (ldA H3 rfl (ldA H3 rfl (ge_int (wpAny_truthy_bool ?_))))))
      by_cases hge : n ≥ kvs.length
      · rw [if_pos (decide_eq_true hge)]
        refine wpAny_execs_cons (wpAny_Return_some (Subscript_ (CallKw (ldB C₁ H3 (by k_is) (by boot_by_name) (by decide) (callWith_kw (spliced_more (ldA H3 rfl (spliced_none (kws_cons (ldX H3 rfl (.head _) hoK (kws_nil ?_))))))) ) rfl)))
        refine sortKeyA (b := false) C₁ hsm (S.mono fun p hp => .tail _ hp) H3 (fun p hp => hp) KO (fun p hp => .tail _ (hneed p hp)) (by omega) (by omega) hkl2 (ksk_s1 _ _) (fun x => ksk_l1 _ _) (fun x => ksk_t1 _ _) fun D4 h4 tk4 out c4 os hos hop hor H4 hD4 => ?_
        refine wpAny_Slice (evalPart_none_step (evalPart_some_step (ldA H4 rfl (evalPart_none_step ?_))))
        refine sliceA (lo := none) (hi := some n) (st := none) (vu := .int n tn) (vk := .none) H4 (.head _) .none (.int n tn) .none (by intro q; cases q) (by rw [strs_len' hos, hop.length_eq]; omega) (fun D5 h5 H5 hD5 => ?_) (by with_unfolding_all rfl)
        rw [pick_upto _ (by omega)] at H5
        have hL5 : @LT.lt Nat _ L' D5 := Nat.lt_trans (Nat.lt_trans (Nat.lt_succ_self _) (hD4 _ (.head _))) (hD5 _ (.head _))
        refine ⟨g₁, .refl, .inr ⟨D5, out.take n.toNat, 0, rfl, ?_, hL5, _, h5, _, rfl, H5.new fun p hp => ?_⟩⟩
        · have e : os = R := sorted_eq hop hR (by simpa using hor) hRs
          rw [e] at hos
          exact strs_take hos _
        · rcases List.mem_cons.mp hp with hp | hp
          · exact hp ▸ .head _
          · exact .tail _ (.tail _ (.tail _ hp))
      · rw [if_neg (by simpa using hge)]
        refine wpAny_execs_nil (wpAny_execs_nil ?_)
        exact ⟨g₁, .refl, .inl ⟨rfl, h3, _, rfl, At.sel H3 ["iterable", "n"]⟩⟩
    · -- an iterator: a TypeError, caught
      refine wpAny_execs_cons (wpAny_Assign_Name (Call_ (ldB C₁ H' (by k_is) (by boot_by_name) (by decide) (PyProof.Rows.callWith_builtin1 (spliced_more (ldA H' rfl (spliced_none (lenErr C₁.handled (H'.get (.tail _ (.head _))) kI.cls fun h3 tk3 e3 hx3 => ?_))) rfl) rfl rfl)) rfl) (by with_unfolding_all rfl))
      refine noteA CE₁ H' hx3 fun h4 g4 tb T4 H4 Hd4 => ?_
      refine flightA H4 Hd4 fun h5 H5 Hd5 => ?_
      exact passA (C₁.turn CE₁ T4) H5 Hd5 rfl rfl rfl fun h6 H6 => ⟨g4, T4, .inl ⟨rfl, h6, _, rfl, H6⟩⟩
  rintro fl s' ⟨g', Tg, ⟨rfl, h2, tk2, rfl, H2⟩ | ⟨D, ys, N, rfl, hys, hD, l2, h2, tk2, rfl, H2⟩⟩
  rotate_left
  · exact ⟨g', _, _, Tg, H2, fun gc Tc H3 => h gc D _ _ ys N Tc hys H3 fun p hp => Nat.lt_trans (lt' p hp) hD⟩
  have C' := C₁.turn CE₁ Tg
  dsimp only
  -- key is not None
  refine wpAny_execs_cons (wpAny_If (wpAny_isTrue_Compare1 (ldX H2 rfl (.head _) hoK (wpAny_Constant_none (is_ref_none (wpAny_truthy_bool ?_))))))
  rw [if_neg Bool.false_ne_true]
  refine wpAny_execs_nil ?_
  dsimp only
  -- it = iter(iterable)
  refine wpAny_execs_cons (wpAny_Assign_Name (Call_ (ldB C' H2 (by k_is) (by boot_by_name) (by decide) (PyProof.Rows.callWith_builtin1 (spliced_more (ldA H2 rfl (spliced_none (iterA C' So H2 hcK fun it oI h3 k3 H3 hit => ?_))) rfl) rfl rfl)) rfl) (by with_unfolding_all rfl))
  refine stA H3 fun h4 H4 => ?_
  dsimp only
  replace H4 : At g' L' h4 [(Str.ofString "it", .ref it), (Str.ofString "iterable", itv), (Str.ofString "n", .int n tn)] ((it, oI) :: (L' + 1, oK) :: base) := H4
  have ltit := H4.lt (it, oI) (.head _)
  -- the first n
  have hK4 : (L' + 1, oK) ∈ (L' + 1, oK) :: base := .head _
  refine wpAny_execs_cons ?_
  refine keyComp (l := [(Str.ofString "it", .ref it), (Str.ofString "iterable", itv), (Str.ofString "n", .int n tn)]) (it := it) (oI := oI) (rem := ks) (dct := dct) (ep := ep) (ks := ks) (kf := kf) (x0 := 0) (left0 := if 0 < n then n else 0) (step := 1) (rest := (L' + 1, oK) :: base) C' (by omega) (by omega) KO (fun p hp => .tail _ (hneed p hp)) (S.mono fun p hp => .tail _ hp) (fun _ q => q) (by omega) hK4 hoK hit (by with_unfolding_all rfl) rfl rfl rfl rfl rfl rfl ?_ (by intro _; rfl)
  -- zip(range(n), it)
  refine Call_ (ldB C' H4 (by k_is) (by boot_by_name) (by decide) (PyProof.Rows.callWith_type1 (spliced_more ?_ rfl) rfl rfl)) rfl
  refine Call_ (ldB C' H4 (by k_is) (by boot_by_name) (by decide) (PyProof.Rows.callWith_type1 (spliced_more (ldA H4 rfl (spliced_none (rangeA H4 fun r h5 t5 u5 v5 tk5 H5 lt5 => ?_))) rfl) rfl rfl)) rfl
  refine spliced_more (ldA H5 rfl ?_) rfl
  refine spliced_none (zipA H5 (.head _) (.tail _ (.head _)) k3 (small1 hn1 hn2) fun z TI TO i1 h6 H6 lt6 a2 a3 a4 => ?_)
  have hrs : Builtin.Range.rangeSize 0 n 1 = (if 0 < n then n else 0) := by exact rsz1 n
  rw [hrs] at H6
  refine ⟨z, TI, TO, i1, h6, _, rfl, rfl, H6.new fun p hp => ?_, k3, ⟨lt6 (it, oI) (.tail _ (.head _)), a2, a3, a4, fun p hp => ?_⟩, ?_⟩
  · simp only [List.mem_cons] at hp ⊢
    rcases hp with hp | hp | hp | hp | hp
    · exact .inl hp
    · exact .inr (.inl hp)
    · exact .inr (.inr (.inl hp))
    · exact .inr (.inr (.inr (.inl hp)))
    · exact .inr (.inr (.inr (.inr (.inr hp))))
  · have q1 : @LT.lt Nat _ p.1 i1 := lt6 p (.tail _ (.tail _ hp))
    have b2 : @LT.lt Nat _ i1 TI := a2
    have b3 : @LT.lt Nat _ TI TO := a3
    have b4 : @LT.lt Nat _ TO z := a4
    exact ⟨Nat.ne_of_lt (by omega), Nat.ne_of_lt (by omega), Nat.ne_of_lt (by omega), Nat.ne_of_lt (by omega), hit p hp⟩
  intro D h7 tk7 T tups oI7 k7 X7 hT7 H7 hD7 hr7 hi7
  dsimp only
  replace H7 : At g' L' h7 [(Str.ofString "result", .ref D), (Str.ofString "it", .ref it), (Str.ofString "iterable", itv), (Str.ofString "n", .int n tn)] ((D, lst (refs T)) :: (it, oI7) :: (tups ++ (L' + 1, oK) :: base)) := H7
  generalize hj : min (if 0 < n then n else 0).toNat ks.length = j at k7 hT7
  have hLD : @LT.lt Nat _ L' D := Nat.lt_trans (Nat.lt_succ_self _) (hr7 (L' + 1, oK) (.head _))
  have hTl : T.length = j := by
    have := congrArg List.length hT7
    rw [List.length_map, List.length_take] at this
    omega
  -- if not result
  refine wpAny_execs_cons (wpAny_If (wpAny_isTrue_Not (wpAny_isTrue_value (ldA H7 rfl (wpAny_truthy_list (PySem.IsL.isList (n := (refs T).length) (H7.get (.head _))) (by simp; omega) ?_)) rfl)))
  by_cases hn0 : n ≤ 0
  · have hj0 : j = 0 := by rw [← hj, if_neg (by omega)]; simp
    have hT0 : T = [] := List.length_eq_zero_iff.mp (by omega)
    subst hT0
    rw [if_pos (by rfl)]
    refine wpAny_execs_cons (wpAny_Return_some (ldA (H7 : At g' L' _ _ _) rfl ?_))
    refine ⟨g', _, (D, lst (refs [])) :: base, Tg, (H7 : At g' L' _ _ _).new fun p hp => ?_, fun gc Tc H9 => h gc D _ _ [] _ Tc ?_ H9 fun p hp => Nat.lt_trans (lt' p hp) hLD⟩
    · rcases List.mem_cons.mp hp with hp | hp
      · exact hp ▸ .head _
      · exact .tail _ (.tail _ (List.mem_append_right _ (.tail _ hp)))
    · rw [show n.toNat = 0 by omega, List.take_zero]
      exact .nil
  have hjn : j = min n.toNat ks.length := by rw [← hj, if_pos (by omega)]
  have hj2 : 2 ≤ j := by omega
  have hne : (!(!(refs T).toArray.isEmpty)) = false := by
    cases T with
    | nil => simp at hTl; omega
    | cons a b => rfl
  rw [hne, if_neg Bool.false_ne_true]
  refine wpAny_execs_nil ?_
  dsimp only
  -- the heap is made
  have hTn : (T.map (·.2)).Nodup := by rw [hT7]; exact List.Sublist.nodup (List.take_sublist _ _) hnd
  have hTk : ∀ c ∈ T.map (·.2), c ∈ ks := fun c hc => by rw [hT7] at hc; exact List.mem_of_mem_take hc
  have offD : ∀ p ∈ (it, oI7) :: (tups ++ (L' + 1, oK) :: base), p.1 ≠ D := fun p hp => by
    rcases List.mem_cons.mp hp with rfl | hp
    · exact Nat.ne_of_lt hi7
    · rcases List.mem_append.mp hp with hp | hp
      · exact Nat.ne_of_gt (hD7 p hp)
      · exact Nat.ne_of_lt (hr7 p hp)
  have cmp : CmpOk w ((it, oI7) :: (tups ++ (L' + 1, oK) :: base)) (fun x y => ltk (fun c => -(kf c)) (fT T y) (fT T x)) (refs T) :=
    tab_cmp X7 (fun p hp => .tail _ (List.mem_append_left _ hp)) (fun a b ha hb e => inj a b (hTk a ha) (hTk b hb) e) hTn (fun x y => by exact decide_eq_decide.mpr (by show -(kf _) < -(kf _) ↔ _; omega))
  refine wpAny_execs_cons (wpAny_Expr_any (Call_ (ldK C' H7 (by k_is) (callWith_K C'.kin (by k_is) (spliced_more (ldA H7 rfl (spliced_none ⟨?_, ?_⟩)) rfl) rfl rfl)) rfl) rfl (by with_unfolding_all rfl))
  · obtain ⟨m, F, _⟩ := H7.fr
    exact C'.kin.keeps F.keep
  refine heapify_max_ok (lt := fun x y => ltk (fun c => -(kf c)) (fT T x) (fT T y)) C' H7 offD cmp (fun v hv => hv) (by simp; omega) (by omega) (by omega) fun h8 tk8 H8 => ?_
  dsimp only
  have hmap8 : (heapifyF (fun x y => ltk (fun c => -(kf c)) (fT T x) (fT T y)) ((refs T).length / 2) (refs T)).map (fT T) = heapifyF (ltk (fun c => -(kf c))) ((T.map (·.2)).length / 2) (T.map (·.2)) := by
    rw [heapify_map (fT T) (ltk (fun c => -(kf c))), fT_refs X7.nd, List.length_map, List.length_map]
  have hsub8 : ∀ v ∈ heapifyF (fun x y => ltk (fun c => -(kf c)) (fT T x) (fT T y)) ((refs T).length / 2) (refs T), v ∈ refs T := heapify_sub _ _ fun v hv => hv
  have hl8 : (heapifyF (fun x y => ltk (fun c => -(kf c)) (fT T x) (fT T y)) ((refs T).length / 2) (refs T)).length = j := by
    rw [heapifyF_len, List.length_map, hTl]
  have B8 : Best (fun c => -(kf c)) (heapifyF (ltk (fun c => -(kf c))) ((T.map (·.2)).length / 2) (T.map (·.2))) (T.map (·.2)) := Best.start _
  rw [← hmap8] at B8
  generalize heapifyF (fun x y => ltk (fun c => -(kf c)) (fT T x) (fT T y)) ((refs T).length / 2) (refs T) = vs8 at H8 hsub8 hl8 B8 hmap8
  obtain ⟨x8, r8, hv8⟩ : ∃ x r, vs8 = x :: r := by
    cases vs8 with
    | nil => simp at hl8; omega
    | cons x r => exact ⟨x, r, rfl⟩
  obtain ⟨a8, ha8, hm8⟩ := refs_mem X7.nd (hsub8 x8 (by rw [hv8]; exact .head _))
  obtain ⟨t8, i8, u8, v8, hmt⟩ := X7.tup _ hm8
  dsimp only at hmt
  -- top = result[0][0]
  refine wpAny_execs_cons (wpAny_Assign_Name (Subscript_ (Subscript_ (ldA H8 rfl (wpAny_Constant_int (itemA H8 (.head _) (by omega) (by omega) (v := .ref a8) (by rw [hv8, ha8]; rfl) (wpAny_Constant_int ?_)))))) (by with_unfolding_all rfl))
  have ht8 : IsTup h8 a8 #[.int (kf (fT T x8)) t8, .int i8 u8, .str (fT T x8) v8] := ⟨_, H8.get (.tail _ (.tail _ (List.mem_append_left _ hmt))), rfl, 0, rfl⟩
  refine tail_any ht8.typeIs slot_tuple_getitem.lookup (getItem_tuple ht8 (by omega) (by omega) (j := 0) rfl rfl ?_) (by with_unfolding_all rfl)
  refine stA H8 fun h9 H9 => ?_
  dsimp only
  -- order = n
  refine wpAny_execs_cons (wpAny_Assign_Name (ldA H9 rfl ?_) (by with_unfolding_all rfl))
  refine stA H9 fun h10 H10 => ?_
  dsimp only
  refine wpAny_execs_cons (wpAny_Assign_Name (ldK C' H10 (by k_is) ?_) (by with_unfolding_all rfl))
  refine stA H10 fun h11 H11 => ?_
  dsimp only
  -- the rest of the signs
  refine wpAny_execs_cons (loop_min (T := T) (tups := tups) (vs := vs8) (seen := T.map (·.2)) (rem := ks.drop j) (top := fT T x8) (er := r8.map (fT T)) (rest := (L' + 1, oK) :: base) (kf := kf) (ks := ks) (dct := dct) (ep := ep) (f := f) (need := need) (oI := oI7) (oK := oK) (it := it) (ℓ := D)
    C' (by omega) (by omega) ⟨rfl, by decide⟩ rfl KO (fun p hp => .tail _ (hneed p hp)) (S.mono fun p hp => .tail _ hp) (.head _) hoK inj (by rw [hT7, List.take_append_drop]) hnd X7 (fun c hc => hc) hTn hsub8 B8 (by rw [hv8]; rfl) k7 (by omega) hD7 hr7 hi7 hit
    (At.sel H11 ["_heapreplace", "order", "top", "result", "it"]) fun h12 tk12 vs12 T12 tups12 X12 hv12 hk12 hn12 B12 hl12 hD12 H12 => ?_)
  dsimp only
  rw [hT7, List.take_append_drop] at B12
  have offD12 : ∀ p ∈ tups12 ++ (L' + 1, oK) :: base, p.1 ≠ D := fun p hp => by
    rcases List.mem_append.mp hp with hp | hp
    · exact Nat.ne_of_gt (hD12 p hp)
    · exact Nat.ne_of_lt (hr7 p hp)
  have tup12 : TupsAt (tups12 ++ (L' + 1, oK) :: base) (fun v => kf (fT T12 v)) vs12 := fun v hv => by
    obtain ⟨a, ha, hm⟩ := refs_mem X12.nd (hv12 v hv)
    obtain ⟨t, i, u, z, hmt⟩ := X12.tup _ hm
    exact ⟨a, t, _, ha, List.mem_append_left _ hmt⟩
  obtain ⟨dr, hdr, hdk⟩ := B12.rest
  have esn : (vs12.map (fT T12)).Nodup := by
    have : (vs12.map (fT T12) ++ dr).Nodup := hdr.nodup_iff.mpr hnd
    rw [List.nodup_append] at this
    exact this.1
  have esk : ∀ c ∈ vs12.map (fT T12), c ∈ ks := fun c hc => hdr.mem_iff.mp (List.mem_append_left _ hc)
  have knd : (vs12.map fun v => kf (fT T12 v)).Nodup := by
    have e : (vs12.map fun v => kf (fT T12 v)) = (vs12.map (fT T12)).map kf := by rw [List.map_map]; rfl
    rw [e]
    exact nodup_map esn fun a b ha hb e => inj a b (esk a ha) (esk b hb) e
  refine wpAny_execs_cons (wpAny_Expr_any (MethodCall_ (ldA H12 rfl (kf_method H12.nw (.head _) slot_list_sort PySem.F.type_list_sort (callWith_method0 ?_))) rfl) rfl (by with_unfolding_all rfl))
  refine sortA (kf := fun v => kf (fT T12 v)) H12 offD12 tup12 knd (by omega) (by omega) fun h13 out c13 hop hos H13 => ?_
  dsimp only
  refine wpAny_execs_cons (wpAny_Return_some ?_)
  have tup13 : ∀ v ∈ out, ∃ a x0 x1 t, v = .ref a ∧ (a, tupOf [x0, x1, .str (fT T12 v) t]) ∈ (D, listOf out.toArray c13) :: (tups12 ++ (L' + 1, oK) :: base) := fun v hv => by
    obtain ⟨a, ha, hm⟩ := refs_mem X12.nd (hv12 v (hop.mem_iff.mp hv))
    obtain ⟨t, i, u, z, hmt⟩ := X12.tup _ hm
    exact ⟨a, _, _, z, ha, .tail _ (List.mem_append_left _ hmt)⟩
  refine elemComp (φ := fT T12) C' H13 (.head _) tup13 (by rw [hop.length_eq]; omega) rfl rfl rfl (fun Q' E' q => ldA H13 rfl q) (fun D14 h14 tk14 ys hys H14 hD14 => ?_) (by intro _; rfl)
  have hS : out.map (fT T12) = R.take n.toNat := by
    have p1 : (out.map (fT T12) ++ dr).Perm R := ((hop.map (fT T12)).append_right dr).trans (hdr.trans hR.symm)
    have q1 : (out.map (fT T12)).length = j := by rw [List.length_map, hop.length_eq, hl12, hl8]
    have q2 : R.length = ks.length := hR.length_eq
    have u := take_unique (key := kf) hRs (List.pairwise_map.mpr hos) p1 (fun x hx y hy => by
      have h2 := hdk x ((hop.map (fT T12)).mem_iff.mp hx) y hy
      omega)
    rw [u, q1, hjn]
    by_cases g1 : n.toNat ≤ ks.length
    · rw [Nat.min_eq_left g1]
    · rw [Nat.min_eq_right (by omega), List.take_of_length_le (by omega), List.take_of_length_le (by omega)]
  rw [hS] at hys
  refine ⟨g', _, (D14, lst ys) :: base, Tg, H14.new fun p hp => ?_, fun gc Tc H15 => h gc D14 _ _ ys _ Tc hys H15 fun p hp => Nat.lt_trans (lt' p hp) (Nat.lt_trans hLD (hD14 _ (.head _)))⟩
  rcases List.mem_cons.mp hp with hp | hp
  · exact hp ▸ .head _
  · exact .tail _ (.tail _ (List.mem_append_right _ (.tail _ hp)))
theorem nlargest_ok {w : World} {A : Around} {E : Value → Shared → Prop} {s : Shared} {g : Heap} {L : Addr} {l : List (Str × Value)} {rest base need : List (Addr × Obj)} {d u : Nat} {Q : Value → Shared → Prop} {dct f : Addr} {ks R : List Str} {ep : Nat} {kf : Str → Int} {itv : Value} {n : Int} {tn : Tok} {envc : Env} {fs : List Addr}
    (C : Cx w A L g d u) (CE : CxE w A L g envc fs) (H : At g L s.heap l rest) (So : Sou w itv rest base dct ks ep) (KO : KeyOk w f need kf ks) (hneed : ∀ p ∈ need, p ∈ base) (hd : d < 500) (hu : u < 5000)
    (inj : ∀ a b, a ∈ ks → b ∈ ks → kf a = kf b → a = b) (hnd : ks.Nodup) (hkl : 2 ≤ ks.length) (hkl2 : ks.length < 64) (hn1 : -100 < n) (hn2 : n < 100) (hR : R.Perm ks) (hRs : R.Pairwise fun a b => kf a < kf b)
    (h : ∀ gc D h' tk ys N, KtsTurn fs g gc → StrsAre ys (R.reverse.take n.toNat) → At gc L h' l ((D, listOf ys.toArray N) :: base) → (∀ p ∈ rest, @LT.lt Nat _ p.1 D) → Q (.ref D) { s with heap := h', toks := tk }) :
    wpAny (MM w) A (call (.ref 82) [.int n tn, itv] [(Str.ofString "key", .ref f)]) Q E s := by
  have hcl := cLine_is
  have hkF : ∀ b o, g.get? b = some o → s.heap.get? b = some o := by
    obtain ⟨_, F, _⟩ := H.fr
    exact F.keep
  refine callC1 (f := 82) (x := Str.ofString "key") (v := .ref f) (bl := [(Str.ofString "iterable", itv), (Str.ofString "n", .int n tn)]) C CE H (by k_is) (by k_is) (by simp only [recursionLimit]; omega) (binds := [("n", .int n tn), ("iterable", itv), ("key", .ref f)]) (bn := ["n", "iterable", "key"]) (binds_K (C.kin.keeps hkF) rfl (by k_is) rfl rfl rfl) (fun _ => rfl) rfl (by decide) rfl rfl (by simp) (fun p hp => ?_) ?_ rfl rfl rfl
  · simp only [List.mem_cons, List.not_mem_nil, or_false] at hp ⊢
    rcases hp with rfl | rfl
    · exact ⟨.inr (.inl rfl), (show Str.ofString "iterable" ≠ Str.ofString "key" by decide)⟩
    · exact ⟨.inl rfl, (show Str.ofString "n" ≠ Str.ofString "key" by decide)⟩
  intro g₁ L' h₁ tk oK CE₁ C₁ hoK H' lt'
  have hcK : ∀ p ∈ rest, p.1 ≠ L' + 1 := fun p hp => Nat.ne_of_lt (Nat.lt_succ_of_lt (lt' p hp))
  have So' := So
  obtain ⟨S, hsm, Sq⟩ := So'
  have hbr : ∀ p ∈ base, p ∈ rest := by
    rcases Sq with ⟨_, rfl⟩ | ⟨_, _, _, rfl, _, _⟩
    · exact fun p hp => hp
    · exact fun p hp => .tail _ hp
  have ltb : ∀ p ∈ base, @LT.lt Nat _ p.1 L' := fun p hp => lt' p (hbr p hp)
  refine wpAny_execs_cons (wpAny_If (wpAny_isTrue_Compare1 (ldA H' rfl (wpAny_Constant_int (eq_int (wpAny_truthy_bool ?_))))))
  by_cases h1 : n = 1
  · rw [if_pos (by simpa using h1)]
    subst h1
    refine wpAny_execs_cons (wpAny_Assign_Name (Call_ (ldB C₁ H' (by k_is) (by boot_by_name) (by decide) (PyProof.Rows.callWith_builtin1 (spliced_more (ldA H' rfl (spliced_none (iterA C₁ So H' hcK fun it oI h3 k3 H3 hit => ?_))) rfl) rfl rfl)) rfl) (by with_unfolding_all rfl))
    refine stA H3 fun h4 H4 => ?_
    dsimp only
    refine wpAny_execs_cons (wpAny_Assign_Name (Call_ (ldB C₁ H4 (by k_is) (by boot_by_name) (by decide) (PyProof.Rows.callWith_type0 (objectA H4 fun o5 h5 H5 lt5 => ?_))) rfl) (by with_unfolding_all rfl))
    refine stA H5 fun h6 H6 => ?_
    dsimp only
    replace H6 : At g₁ L' h6 [(Str.ofString "sentinel", .ref o5), (Str.ofString "it", .ref it), (Str.ofString "iterable", itv), (Str.ofString "n", .int 1 tn)] ((it, oI) :: (o5, objO) :: (L' + 1, oK) :: base) := H6.new fun p hp => by
      simp only [List.mem_cons] at hp ⊢
      rcases hp with hp | hp | hp | hp
      · exact .inr (.inl hp)
      · exact .inl hp
      · exact .inr (.inr (.inl hp))
      · exact .inr (.inr (.inr hp))
    have hit6 : ∀ p ∈ (o5, objO) :: (L' + 1, oK) :: base, p.1 ≠ it := fun p hp => by
      rcases List.mem_cons.mp hp with rfl | hp
      · exact Ne.symm (Nat.ne_of_lt (lt5 (it, oI) (.head _)))
      · exact hit p hp
    refine wpAny_execs_cons (wpAny_Assign_Name (CallKw (ldB C₁ H6 (by k_is) (by boot_by_name) (by decide) (callWith_kw (spliced_more (ldA H6 rfl (spliced_none (kws_cons (ldA H6 rfl (kws_cons (ldX H6 rfl (.tail _ (.tail _ (.head _))) hoK (kws_nil ?_)))))))))) rfl) (by with_unfolding_all rfl))
    refine maxA C₁ (by omega) (by omega) (S.mono fun p hp => .tail _ (.tail _ hp)) KO (fun p hp => .tail _ (.tail _ (hneed p hp))) hit6 (fun q => by rw [q] at hkl; simp at hkl) H6 k3 fun cb tb h7 tk7 hcb hle H7 => ?_
    refine stA H7 fun h8 H8 => ?_
    dsimp only
    refine wpAny_execs_cons (wpAny_Return_some (wpAny_IfExp (wpAny_isTrue_Compare1 (ldA H8 rfl (ldA H8 rfl (wpAny_is_other rfl (by intro q; cases q) (wpAny_truthy_bool ?_)))))))
    rw [if_neg Bool.false_ne_true]
    refine List_ (spliced_more (ldA H8 rfl (spliced_none (wpAny_newList ?_ (by size_fits)))) rfl)
    have H9 := H8.push { cls := .type "list", data := .seq [Value.str cb tb].toArray }
    have hL9 : @LT.lt Nat _ L' h8.objs.size := H8.Llt
    refine ⟨g₁, _, (h8.objs.size, listOf [Value.str cb tb].toArray 0) :: base, .refl, H9.new fun p hp => ?_, fun gc Tc H10 => h gc _ _ _ [.str cb tb] 0 Tc ?_ H10 fun p hp => Nat.lt_trans (lt' p hp) hL9⟩
    · rcases List.mem_cons.mp hp with hp | hp
      · exact hp ▸ .head _
      · exact .tail _ (.tail _ (.tail _ hp))
    · rw [show (R.reverse.take (1 : Int).toNat) = [cb] from take_one (key := fun c => -(kf c)) (by rw [List.pairwise_reverse]; exact hRs.imp fun h => by omega) (List.mem_reverse.mpr (hR.mem_iff.mpr hcb)) fun c hc => by have := hle c (hR.mem_iff.mp (List.mem_reverse.mp hc)); omega]
      exact .cons cb tb .nil
  rw [if_neg (by simpa using h1)]
  refine wpAny_execs_nil ?_
  dsimp only
  refine wpAny_execs_cons (wpAny_mono (Q := fun fl s' => ∃ g', KtsTurn (L :: fs) g₁ g' ∧ ((fl = .next ∧ ∃ h2 tk2, s' = { s with heap := h2, toks := tk2 } ∧ At g' L' h2 [(Str.ofString "iterable", itv), (Str.ofString "n", .int n tn)] ((L' + 1, oK) :: rest)) ∨
      (∃ D ys N, fl = .ret (.ref D) ∧ StrsAre ys (R.reverse.take n.toNat) ∧ @LT.lt Nat _ L' D ∧ ∃ l2 h2 tk2, s' = { s with heap := h2, toks := tk2 } ∧ At g' L' h2 l2 ((D, listOf ys.toArray N) :: base)))) ?_ ?_ fun _ _ z => z)
  · refine wpAny_Try_except ?_
    rcases Sq with ⟨rfl, rfl⟩ | ⟨it, oI, rfl, rfl, kI, hne⟩
    · -- the dict: it has a length
      obtain ⟨kvs, hD, hkv⟩ := S.at C₁ H' fun p hp => .tail _ hp
      have hkvl : kvs.length = ks.length := by rw [← hkv, List.length_map]
      refine wpAny_execs_cons (wpAny_Assign_Name (Call_ (ldB C₁ H' (by k_is) (by boot_by_name) (by decide) (PyProof.Rows.callWith_builtin1 (spliced_more (ldA H' rfl (spliced_none (call_len_dict hsm hD.dictOf (by omega) ?_))) rfl) rfl rfl)) rfl) (by with_unfolding_all rfl))
      refine stA H' fun h3 H3 => ?_
      dsimp only
      refine wpAny_execs_nil ?_
      dsimp only
      refine wpAny_execs_cons (wpAny_If (wpAny_isTrue_Compare1 (ldA H3 rfl (ldA H3 rfl (ge_int (wpAny_truthy_bool ?_))))))
      by_cases hge : n ≥ kvs.length
      · rw [if_pos (decide_eq_true hge)]
        refine wpAny_execs_cons (wpAny_Return_some (Subscript_ (CallKw (ldB C₁ H3 (by k_is) (by boot_by_name) (by decide) (callWith_kw (spliced_more (ldA H3 rfl (spliced_none (kws_cons (ldX H3 rfl (.head _) hoK (kws_cons (wpAny_Constant_bool (kws_nil ?_))))))))) ) rfl)))
        refine sortKeyA (b := true) C₁ hsm (S.mono fun p hp => .tail _ hp) H3 (fun p hp => hp) KO (fun p hp => .tail _ (hneed p hp)) (by omega) (by omega) hkl2 (ksk_s2 _ _ _) (fun x => ksk_l2 _ _ _) (fun x => ksk_t2 _ _ _) fun D4 h4 tk4 out c4 os hos hop hor H4 hD4 => ?_
        refine wpAny_Slice (evalPart_none_step (evalPart_some_step (ldA H4 rfl (evalPart_none_step ?_))))
        refine sliceA (lo := none) (hi := some n) (st := none) (vu := .int n tn) (vk := .none) H4 (.head _) .none (.int n tn) .none (by intro q; cases q) (by rw [strs_len' hos, hop.length_eq]; omega) (fun D5 h5 H5 hD5 => ?_) (by with_unfolding_all rfl)
        rw [pick_upto _ (by omega)] at H5
        have hL5 : @LT.lt Nat _ L' D5 := Nat.lt_trans (Nat.lt_trans (Nat.lt_succ_self _) (hD4 _ (.head _))) (hD5 _ (.head _))
        refine ⟨g₁, .refl, .inr ⟨D5, out.take n.toNat, 0, rfl, ?_, hL5, _, h5, _, rfl, H5.new fun p hp => ?_⟩⟩
        · have e : os = R.reverse := sorted_eq (key := fun c => -(kf c)) (hop.trans (hR.symm.trans (List.reverse_perm R).symm)) (.refl _) (by simpa using (hor.imp fun h => by simp at h; omega : os.Pairwise fun a b => -(kf a) ≤ -(kf b))) (by rw [List.pairwise_reverse]; exact hRs.imp fun h => by omega)
          rw [e] at hos
          exact strs_take hos _
        · rcases List.mem_cons.mp hp with hp | hp
          · exact hp ▸ .head _
          · exact .tail _ (.tail _ (.tail _ hp))
      · rw [if_neg (by simpa using hge)]
        refine wpAny_execs_nil (wpAny_execs_nil ?_)
        exact ⟨g₁, .refl, .inl ⟨rfl, h3, _, rfl, At.sel H3 ["iterable", "n"]⟩⟩
    · -- an iterator: a TypeError, caught
      refine wpAny_execs_cons (wpAny_Assign_Name (Call_ (ldB C₁ H' (by k_is) (by boot_by_name) (by decide) (PyProof.Rows.callWith_builtin1 (spliced_more (ldA H' rfl (spliced_none (lenErr C₁.handled (H'.get (.tail _ (.head _))) kI.cls fun h3 tk3 e3 hx3 => ?_))) rfl) rfl rfl)) rfl) (by with_unfolding_all rfl))
      refine noteA CE₁ H' hx3 fun h4 g4 tb T4 H4 Hd4 => ?_
      refine flightA H4 Hd4 fun h5 H5 Hd5 => ?_
      exact passA (C₁.turn CE₁ T4) H5 Hd5 rfl rfl rfl fun h6 H6 => ⟨g4, T4, .inl ⟨rfl, h6, _, rfl, H6⟩⟩
  rintro fl s' ⟨g', Tg, ⟨rfl, h2, tk2, rfl, H2⟩ | ⟨D, ys, N, rfl, hys, hD, l2, h2, tk2, rfl, H2⟩⟩
  rotate_left
  · exact ⟨g', _, _, Tg, H2, fun gc Tc H3 => h gc D _ _ ys N Tc hys H3 fun p hp => Nat.lt_trans (lt' p hp) hD⟩
  have C' := C₁.turn CE₁ Tg
  dsimp only
  -- key is not None
  refine wpAny_execs_cons (wpAny_If (wpAny_isTrue_Compare1 (ldX H2 rfl (.head _) hoK (wpAny_Constant_none (is_ref_none (wpAny_truthy_bool ?_))))))
  rw [if_neg Bool.false_ne_true]
  refine wpAny_execs_nil ?_
  dsimp only
  -- it = iter(iterable)
  refine wpAny_execs_cons (wpAny_Assign_Name (Call_ (ldB C' H2 (by k_is) (by boot_by_name) (by decide) (PyProof.Rows.callWith_builtin1 (spliced_more (ldA H2 rfl (spliced_none (iterA C' So H2 hcK fun it oI h3 k3 H3 hit => ?_))) rfl) rfl rfl)) rfl) (by with_unfolding_all rfl))
  refine stA H3 fun h4 H4 => ?_
  dsimp only
  replace H4 : At g' L' h4 [(Str.ofString "it", .ref it), (Str.ofString "iterable", itv), (Str.ofString "n", .int n tn)] ((it, oI) :: (L' + 1, oK) :: base) := H4
  have ltit := H4.lt (it, oI) (.head _)
  -- the first n
  have hK4 : (L' + 1, oK) ∈ (L' + 1, oK) :: base := .head _
  refine wpAny_execs_cons ?_
  refine keyComp (l := [(Str.ofString "it", .ref it), (Str.ofString "iterable", itv), (Str.ofString "n", .int n tn)]) (it := it) (oI := oI) (rem := ks) (dct := dct) (ep := ep) (ks := ks) (kf := kf) (x0 := 0) (left0 := if 0 < n then n else 0) (step := (-1)) (rest := (L' + 1, oK) :: base) C' (by omega) (by omega) KO (fun p hp => .tail _ (hneed p hp)) (S.mono fun p hp => .tail _ hp) (fun _ q => q) (by omega) hK4 hoK hit (by with_unfolding_all rfl) rfl rfl rfl rfl rfl rfl ?_ (by intro _; rfl)
  -- zip(range(n), it)
  refine Call_ (ldB C' H4 (by k_is) (by boot_by_name) (by decide) (PyProof.Rows.callWith_type1 (spliced_more ?_ rfl) rfl rfl)) rfl
  refine Call_ (ldB C' H4 (by k_is) (by boot_by_name) (by decide) (PyProof.Rows.callWith_type1 (spliced_more (wpAny_Constant_int (spliced_more (wpAny_UnaryOp (ldA H4 rfl (neg_int (spliced_more (wpAny_UnaryOp (wpAny_Constant_int (neg_int (spliced_none ?_)))) rfl)))) rfl)) rfl) rfl rfl)) rfl
  refine range3A H4 fun r h5 t5 u5 v5 tk5 H5 lt5 => ?_
  refine spliced_more (ldA H5 rfl ?_) rfl
  refine spliced_none (zipA H5 (.head _) (.tail _ (.head _)) k3 (small3 hn1 hn2) fun z TI TO i1 h6 H6 lt6 a2 a3 a4 => ?_)
  have hrs : Builtin.Range.rangeSize 0 (-n) (-1) = (if 0 < n then n else 0) := by exact rsz3 n
  rw [hrs] at H6
  refine ⟨z, TI, TO, i1, h6, _, rfl, rfl, H6.new fun p hp => ?_, k3, ⟨lt6 (it, oI) (.tail _ (.head _)), a2, a3, a4, fun p hp => ?_⟩, ?_⟩
  · simp only [List.mem_cons] at hp ⊢
    rcases hp with hp | hp | hp | hp | hp
    · exact .inl hp
    · exact .inr (.inl hp)
    · exact .inr (.inr (.inl hp))
    · exact .inr (.inr (.inr (.inl hp)))
    · exact .inr (.inr (.inr (.inr (.inr hp))))
  · have q1 : @LT.lt Nat _ p.1 i1 := lt6 p (.tail _ (.tail _ hp))
    have b2 : @LT.lt Nat _ i1 TI := a2
    have b3 : @LT.lt Nat _ TI TO := a3
    have b4 : @LT.lt Nat _ TO z := a4
    exact ⟨Nat.ne_of_lt (by omega), Nat.ne_of_lt (by omega), Nat.ne_of_lt (by omega), Nat.ne_of_lt (by omega), hit p hp⟩
  intro D h7 tk7 T tups oI7 k7 X7 hT7 H7 hD7 hr7 hi7
  dsimp only
  replace H7 : At g' L' h7 [(Str.ofString "result", .ref D), (Str.ofString "it", .ref it), (Str.ofString "iterable", itv), (Str.ofString "n", .int n tn)] ((D, lst (refs T)) :: (it, oI7) :: (tups ++ (L' + 1, oK) :: base)) := H7
  generalize hj : min (if 0 < n then n else 0).toNat ks.length = j at k7 hT7
  have hLD : @LT.lt Nat _ L' D := Nat.lt_trans (Nat.lt_succ_self _) (hr7 (L' + 1, oK) (.head _))
  have hTl : T.length = j := by
    have := congrArg List.length hT7
    rw [List.length_map, List.length_take] at this
    omega
  -- if not result
  refine wpAny_execs_cons (wpAny_If (wpAny_isTrue_Not (wpAny_isTrue_value (ldA H7 rfl (wpAny_truthy_list (PySem.IsL.isList (n := (refs T).length) (H7.get (.head _))) (by simp; omega) ?_)) rfl)))
  by_cases hn0 : n ≤ 0
  · have hj0 : j = 0 := by rw [← hj, if_neg (by omega)]; simp
    have hT0 : T = [] := List.length_eq_zero_iff.mp (by omega)
    subst hT0
    rw [if_pos (by rfl)]
    refine wpAny_execs_cons (wpAny_Return_some (ldA (H7 : At g' L' _ _ _) rfl ?_))
    refine ⟨g', _, (D, lst (refs [])) :: base, Tg, (H7 : At g' L' _ _ _).new fun p hp => ?_, fun gc Tc H9 => h gc D _ _ [] _ Tc ?_ H9 fun p hp => Nat.lt_trans (lt' p hp) hLD⟩
    · rcases List.mem_cons.mp hp with hp | hp
      · exact hp ▸ .head _
      · exact .tail _ (.tail _ (List.mem_append_right _ (.tail _ hp)))
    · rw [show n.toNat = 0 by omega, List.take_zero]
      exact .nil
  have hjn : j = min n.toNat ks.length := by rw [← hj, if_pos (by omega)]
  have hj2 : 2 ≤ j := by omega
  have hne : (!(!(refs T).toArray.isEmpty)) = false := by
    cases T with
    | nil => simp at hTl; omega
    | cons a b => rfl
  rw [hne, if_neg Bool.false_ne_true]
  refine wpAny_execs_nil ?_
  dsimp only
  -- the heap is made
  have hTn : (T.map (·.2)).Nodup := by rw [hT7]; exact List.Sublist.nodup (List.take_sublist _ _) hnd
  have hTk : ∀ c ∈ T.map (·.2), c ∈ ks := fun c hc => by rw [hT7] at hc; exact List.mem_of_mem_take hc
  have offD : ∀ p ∈ (it, oI7) :: (tups ++ (L' + 1, oK) :: base), p.1 ≠ D := fun p hp => by
    rcases List.mem_cons.mp hp with rfl | hp
    · exact Nat.ne_of_lt hi7
    · rcases List.mem_append.mp hp with hp | hp
      · exact Nat.ne_of_gt (hD7 p hp)
      · exact Nat.ne_of_lt (hr7 p hp)
  have cmp : CmpOk w ((it, oI7) :: (tups ++ (L' + 1, oK) :: base)) (fun x y => ltk kf (fT T x) (fT T y)) (refs T) :=
    tab_cmp X7 (fun p hp => .tail _ (List.mem_append_left _ hp)) (fun a b ha hb e => inj a b (hTk a ha) (hTk b hb) e) hTn (fun x y => by rfl)
  refine wpAny_execs_cons (wpAny_Expr_any (Call_ (ldK C' H7 (by k_is) (callWith_K C'.kin (by k_is) (spliced_more (ldA H7 rfl (spliced_none ⟨?_, ?_⟩)) rfl) rfl rfl)) rfl) rfl (by with_unfolding_all rfl))
  · obtain ⟨m, F, _⟩ := H7.fr
    exact C'.kin.keeps F.keep
  refine heapify_ok (lt := fun x y => ltk kf (fT T x) (fT T y)) C' H7 offD cmp (fun v hv => hv) (by simp; omega) (by omega) (by omega) fun h8 tk8 H8 => ?_
  dsimp only
  have hmap8 : (heapifyF (fun x y => ltk kf (fT T x) (fT T y)) ((refs T).length / 2) (refs T)).map (fT T) = heapifyF (ltk kf) ((T.map (·.2)).length / 2) (T.map (·.2)) := by
    rw [heapify_map (fT T) (ltk kf), fT_refs X7.nd, List.length_map, List.length_map]
  have hsub8 : ∀ v ∈ heapifyF (fun x y => ltk kf (fT T x) (fT T y)) ((refs T).length / 2) (refs T), v ∈ refs T := heapify_sub _ _ fun v hv => hv
  have hl8 : (heapifyF (fun x y => ltk kf (fT T x) (fT T y)) ((refs T).length / 2) (refs T)).length = j := by
    rw [heapifyF_len, List.length_map, hTl]
  have B8 : Best kf (heapifyF (ltk kf) ((T.map (·.2)).length / 2) (T.map (·.2))) (T.map (·.2)) := Best.start _
  rw [← hmap8] at B8
  generalize heapifyF (fun x y => ltk kf (fT T x) (fT T y)) ((refs T).length / 2) (refs T) = vs8 at H8 hsub8 hl8 B8 hmap8
  obtain ⟨x8, r8, hv8⟩ : ∃ x r, vs8 = x :: r := by
    cases vs8 with
    | nil => simp at hl8; omega
    | cons x r => exact ⟨x, r, rfl⟩
  obtain ⟨a8, ha8, hm8⟩ := refs_mem X7.nd (hsub8 x8 (by rw [hv8]; exact .head _))
  obtain ⟨t8, i8, u8, v8, hmt⟩ := X7.tup _ hm8
  dsimp only at hmt
  -- top = result[0][0]
  refine wpAny_execs_cons (wpAny_Assign_Name (Subscript_ (Subscript_ (ldA H8 rfl (wpAny_Constant_int (itemA H8 (.head _) (by omega) (by omega) (v := .ref a8) (by rw [hv8, ha8]; rfl) (wpAny_Constant_int ?_)))))) (by with_unfolding_all rfl))
  have ht8 : IsTup h8 a8 #[.int (kf (fT T x8)) t8, .int i8 u8, .str (fT T x8) v8] := ⟨_, H8.get (.tail _ (.tail _ (List.mem_append_left _ hmt))), rfl, 0, rfl⟩
  refine tail_any ht8.typeIs slot_tuple_getitem.lookup (getItem_tuple ht8 (by omega) (by omega) (j := 0) rfl rfl ?_) (by with_unfolding_all rfl)
  refine stA H8 fun h9 H9 => ?_
  dsimp only
  -- order = n
  refine wpAny_execs_cons (wpAny_Assign_Name (wpAny_UnaryOp (ldA H9 rfl (neg_int ?_))) (by with_unfolding_all rfl))
  refine stA H9 fun h10 H10 => ?_
  dsimp only
  refine wpAny_execs_cons (wpAny_Assign_Name (ldK C' H10 (by k_is) ?_) (by with_unfolding_all rfl))
  refine stA H10 fun h11 H11 => ?_
  dsimp only
  -- the rest of the signs
  refine wpAny_execs_cons (loop_max (T := T) (tups := tups) (vs := vs8) (seen := T.map (·.2)) (rem := ks.drop j) (top := fT T x8) (er := r8.map (fT T)) (rest := (L' + 1, oK) :: base) (kf := kf) (ks := ks) (dct := dct) (ep := ep) (f := f) (need := need) (oI := oI7) (oK := oK) (it := it) (ℓ := D)
    C' (by omega) (by omega) ⟨rfl, by decide⟩ rfl KO (fun p hp => .tail _ (hneed p hp)) (S.mono fun p hp => .tail _ hp) (.head _) hoK inj (by rw [hT7, List.take_append_drop]) hnd X7 (fun c hc => hc) hTn hsub8 B8 (by rw [hv8]; rfl) k7 (by omega) hD7 hr7 hi7 hit
    (At.sel H11 ["_heapreplace", "order", "top", "result", "it"]) fun h12 tk12 vs12 T12 tups12 X12 hv12 hk12 hn12 B12 hl12 hD12 H12 => ?_)
  dsimp only
  rw [hT7, List.take_append_drop] at B12
  have offD12 : ∀ p ∈ tups12 ++ (L' + 1, oK) :: base, p.1 ≠ D := fun p hp => by
    rcases List.mem_append.mp hp with hp | hp
    · exact Nat.ne_of_gt (hD12 p hp)
    · exact Nat.ne_of_lt (hr7 p hp)
  have tup12 : TupsAt (tups12 ++ (L' + 1, oK) :: base) (fun v => kf (fT T12 v)) vs12 := fun v hv => by
    obtain ⟨a, ha, hm⟩ := refs_mem X12.nd (hv12 v hv)
    obtain ⟨t, i, u, z, hmt⟩ := X12.tup _ hm
    exact ⟨a, t, _, ha, List.mem_append_left _ hmt⟩
  obtain ⟨dr, hdr, hdk⟩ := B12.rest
  have esn : (vs12.map (fT T12)).Nodup := by
    have : (vs12.map (fT T12) ++ dr).Nodup := hdr.nodup_iff.mpr hnd
    rw [List.nodup_append] at this
    exact this.1
  have esk : ∀ c ∈ vs12.map (fT T12), c ∈ ks := fun c hc => hdr.mem_iff.mp (List.mem_append_left _ hc)
  have knd : (vs12.map fun v => kf (fT T12 v)).Nodup := by
    have e : (vs12.map fun v => kf (fT T12 v)) = (vs12.map (fT T12)).map kf := by rw [List.map_map]; rfl
    rw [e]
    exact nodup_map esn fun a b ha hb e => inj a b (esk a ha) (esk b hb) e
  refine wpAny_execs_cons (wpAny_Expr_any (methodCall_KW (ldA H12 rfl (kf_method H12.nw (.head _) slot_list_sort PySem.F.type_list_sort (callWith_builtin_kwB rfl rfl (evalArgs_kw2_nil rfl (kws_cons (wpAny_Constant_bool (kws_nil ?_))))))) rfl) rfl (by with_unfolding_all rfl))
  refine sortRevA (kf := fun v => kf (fT T12 v)) H12 offD12 tup12 knd (by omega) (by omega) fun h13 out c13 hop hos H13 => ?_
  dsimp only
  refine wpAny_execs_cons (wpAny_Return_some ?_)
  have tup13 : ∀ v ∈ out, ∃ a x0 x1 t, v = .ref a ∧ (a, tupOf [x0, x1, .str (fT T12 v) t]) ∈ (D, listOf out.toArray c13) :: (tups12 ++ (L' + 1, oK) :: base) := fun v hv => by
    obtain ⟨a, ha, hm⟩ := refs_mem X12.nd (hv12 v (hop.mem_iff.mp hv))
    obtain ⟨t, i, u, z, hmt⟩ := X12.tup _ hm
    exact ⟨a, _, _, z, ha, .tail _ (List.mem_append_left _ hmt)⟩
  refine elemComp (φ := fT T12) C' H13 (.head _) tup13 (by rw [hop.length_eq]; omega) rfl rfl rfl (fun Q' E' q => ldA H13 rfl q) (fun D14 h14 tk14 ys hys H14 hD14 => ?_) (by intro _; rfl)
  have hS : out.map (fT T12) = R.reverse.take n.toNat := by
    have p1 : (out.map (fT T12) ++ dr).Perm R := ((hop.map (fT T12)).append_right dr).trans (hdr.trans hR.symm)
    have q1 : (out.map (fT T12)).length = j := by rw [List.length_map, hop.length_eq, hl12, hl8]
    have q2 : R.length = ks.length := hR.length_eq
    have u := take_unique (key := fun c => -(kf c)) (R := R.reverse) (by
      rw [List.pairwise_reverse]
      exact hRs.imp fun h => by omega) (List.pairwise_map.mpr (hos.imp fun h => by omega)) (p1.trans (List.reverse_perm R).symm) (fun x hx y hy => by
      have h2 := hdk x ((hop.map (fT T12)).mem_iff.mp hx) y hy
      omega)
    rw [u, q1, hjn]
    by_cases g1 : n.toNat ≤ ks.length
    · rw [Nat.min_eq_left g1]
    · rw [Nat.min_eq_right (by omega), List.take_of_length_le (by simp; omega), List.take_of_length_le (by simp; omega)]
  rw [hS] at hys
  refine ⟨g', _, (D14, lst ys) :: base, Tg, H14.new fun p hp => ?_, fun gc Tc H15 => h gc D14 _ _ ys _ Tc hys H15 fun p hp => Nat.lt_trans (lt' p hp) (Nat.lt_trans hLD (hD14 _ (.head _)))⟩
  rcases List.mem_cons.mp hp with hp | hp
  · exact hp ▸ .head _
  · exact .tail _ (.tail _ (List.mem_append_right _ (.tail _ hp)))
end Mine
end
section
open PySem PySem.W PyProof.Rows PySem.Calls PyProof.Rows.LCg
namespace Mine
def toks : List (Str × Tok × Int × Tok) := [(Str.ofString "!", 383, 54, 381), (Str.ofString "!=", 385, 28, 329), (Str.ofString "%", 387, 24, 321), (Str.ofString "%=", 389, 40, 353), (Str.ofString "&", 391, 19, 311), (Str.ofString "&=", 393, 41, 355), (Str.ofString "(", 395, 7, 287), (Str.ofString ")", 397, 8, 289), (Str.ofString "*", 399, 16, 305), (Str.ofString "**", 401, 35, 343), (Str.ofString "**=", 403, 46, 365), (Str.ofString "*=", 405, 38, 349), (Str.ofString "+", 407, 14, 301), (Str.ofString "+=", 409, 36, 345), (Str.ofString ",", 411, 12, 297), (Str.ofString "-", 413, 15, 303), (Str.ofString "-=", 415, 37, 347), (Str.ofString "->", 417, 51, 375), (Str.ofString ".", 419, 23, 319), (Str.ofString "...", 421, 52, 377), (Str.ofString "/", 423, 17, 307), (Str.ofString "//", 425, 47, 367), (Str.ofString "//=", 427, 48, 369), (Str.ofString "/=", 429, 39, 351), (Str.ofString ":", 431, 11, 295), (Str.ofString ":=", 433, 53, 379), (Str.ofString ";", 435, 13, 299), (Str.ofString "<", 437, 20, 313), (Str.ofString "<<", 439, 33, 339), (Str.ofString "<<=", 441, 44, 361), (Str.ofString "<=", 443, 29, 331), (Str.ofString "=", 445, 22, 317), (Str.ofString "==", 447, 27, 327), (Str.ofString ">", 449, 21, 315), (Str.ofString ">=", 451, 30, 333), (Str.ofString ">>", 452, 34, 341), (Str.ofString ">>=", 453, 45, 363), (Str.ofString "@", 454, 49, 371), (Str.ofString "@=", 455, 50, 373), (Str.ofString "[", 456, 9, 291), (Str.ofString "]", 457, 10, 293), (Str.ofString "^", 458, 32, 337), (Str.ofString "^=", 459, 43, 359), (Str.ofString "{", 460, 25, 323), (Str.ofString "|", 461, 18, 309), (Str.ofString "|=", 462, 42, 357), (Str.ofString "}", 463, 26, 325), (Str.ofString "~", 464, 31, 335)]
def tokE (w : World) (p : Str × Tok × Int × Tok) : DictEntry := { hash := PyData.keyHash w.params p.1, key := .str p.1 p.2.1, val := .int p.2.2.1 p.2.2.2 }
def tokObj (w : World) : Obj := { cls := .type "dict", data := .dict (toks.map (tokE w)).toArray 48 }
theorem tok_at (w : World) : (Mine.hd0.heap_1 w.params).lookup 83 = some (tokObj w) := (by k_is : (Mine.hd0.heap_1 w.params).lookup 83 = some _).trans rfl
def tks : List Str := toks.map (·.1)
def tkv : List (Str × Value) := toks.map fun p => (p.1, .int p.2.2.1 p.2.2.2)
def tv (c : Str) : Int := ((toks.find? fun p => p.1 = c).map (·.2.2.1)).getD 0
theorem tks_nodup : tks.Nodup := by decide +kernel
theorem tks_len : tks.length = 48 := rfl
theorem tkv_keys : tkv.map (·.1) = tks := rfl
theorem tok_dict (w : World) : KdkAt (SK w) (tokObj w) tkv 48 := by
  refine ⟨_, ⟨rfl, rfl, rfl⟩, rfl, ?_, ?_, tks_nodup⟩
  · intro e he
    rw [List.mem_toArray] at he
    obtain ⟨p, _, rfl⟩ := List.mem_map.mp he
    exact ⟨p.1, by simp [SK, PySem.strKind, tokE, Value.isStrOf], rfl⟩
  · show Pairs (SK w) (toks.map (tokE w)).toArray.toList _
    rw [List.toList_toArray]
    unfold tkv
    generalize toks = l
    induction l with
    | nil => exact .nil
    | cons p r ih => exact .cons (by simp [SK, PySem.strKind, tokE, Value.isStrOf]) rfl ih
theorem tok_val : ∀ c ∈ tks, ∃ t, valueAt tkv c = some (.int (tv c) t) := by
  have gen : ∀ (l : List (Str × Tok × Int × Tok)) (c : Str), c ∈ l.map (·.1) → ∃ t, valueAt (l.map fun p => (p.1, Value.int p.2.2.1 p.2.2.2)) c = some (.int (((l.find? fun p => p.1 = c).map (·.2.2.1)).getD 0) t) := by
    intro l
    induction l with
    | nil => intro c h; cases h
    | cons p r ih =>
      intro c h
      unfold valueAt
      rw [List.map_cons, List.find?_cons, List.find?_cons]
      by_cases e : p.1 = c
      · simp [e]
      · simp only [e, decide_false]
        rw [List.map_cons, List.mem_cons] at h
        rcases h with h | h
        · exact absurd h.symm e
        · exact ih c h
  exact gen toks
theorem tv_lo : ∀ c ∈ tks, 7 ≤ tv c ∧ tv c ≤ 54 := by decide +kernel
theorem tv_nodup : (tks.map tv).Nodup := by decide +kernel
theorem inj_of_nodup {α β : Type} {f : α → β} : ∀ {l : List α}, (l.map f).Nodup → ∀ a b, a ∈ l → b ∈ l → f a = f b → a = b
  | [], _, a, _, ha, _, _ => nomatch ha
  | x :: r, nd, a, b, ha, hb, e => by
    rw [List.map_cons, List.nodup_cons] at nd
    rcases List.mem_cons.mp ha with q1 | q1 <;> rcases List.mem_cons.mp hb with q2 | q2
    · rw [q1, q2]
    · exact absurd (List.mem_map.mpr ⟨b, q2, by rw [← e, q1]⟩) nd.1
    · exact absurd (List.mem_map.mpr ⟨a, q1, by rw [e, q2]⟩) nd.1
    · exact inj_of_nodup nd.2 a b q1 q2 e
/-- the key -/
def kfT (times : Int) (c : Str) : Int := (tv c * times).fmod 53
theorem modinv : ∀ t : Fin 53, t ≠ 0 → ∃ u : Fin 53, t.val * u.val % 53 = 1 := by decide +kernel
theorem kfT_of {times x y : Int} (h1 : 1 ≤ times) (h2 : times ≤ 52) (hx : 7 ≤ x ∧ x ≤ 54) (hy : 7 ≤ y ∧ y ≤ 54) (e : (x * times).fmod 53 = (y * times).fmod 53) : x = y := by
  rw [Int.fmod_eq_emod_of_nonneg _ (by omega), Int.fmod_eq_emod_of_nonneg _ (by omega)] at e
  obtain ⟨u, hu⟩ := modinv ⟨times.toNat, by omega⟩ (by intro q; have := congrArg Fin.val q; simp at this; omega)
  have hu' : (times * (u.val : Int)) % 53 = 1 := by
    have : ((times.toNat * u.val : Nat) : Int) % 53 = 1 := by exact_mod_cast hu
    rw [Int.natCast_mul, Int.toNat_of_nonneg (by omega)] at this
    exact this
  have k : ∀ z : Int, z % 53 = (z * times % 53 * (u.val : Int)) % 53 := by
    intro z
    rw [Int.mul_emod (z * times % 53), Int.emod_emod, ← Int.mul_emod, Int.mul_assoc, Int.mul_emod, hu', Int.mul_one, Int.emod_emod]
  have := k x
  have := k y
  rw [e] at *
  omega
theorem kfT_inj {times : Int} (h1 : 1 ≤ times) (h2 : times ≤ 52) : ∀ a b, a ∈ tks → b ∈ tks → kfT times a = kfT times b → a = b :=
  fun a b ha hb e => inj_of_nodup tv_nodup a b ha hb (kfT_of h1 h2 (tv_lo a ha) (tv_lo b hb) e)
end Mine
end
section
open PySem PySem.W PyProof.Rows PySem.Calls PyProof.Rows.LCg
namespace Mine
abbrev lamParams (q : Pos) : Arguments := { posonlyargs := [], args := [{ arg := Str.ofString "sign", annotation := none, pos := q }], vararg := none, kwonlyargs := [], kw_defaults := [], kwarg := none, defaults := [] }
abbrev lamBody (p1 p2 p3 p4 p5 p6 p7 : Pos) : PySem.Expr :=
  .BinOp (.BinOp (.Subscript (.Name (Str.ofString "EXACT_TOKEN_TYPES") p1) (.Name (Str.ofString "sign") p2) p3) .Mult (.Name (Str.ofString "times") p4) p5) .Mod (.Constant (.int 53) 0 p6) p7
abbrev lamScope : Scope := { kind := .function, names := [(Str.ofString "sign", .local), (Str.ofString "times", .free), (Str.ofString "EXACT_TOKEN_TYPES", .globalImplicit)], isGenerator := false, isCoroutine := false }
theorem bits60 {t : Int} (h1 : 0 ≤ t) (h2 : t ≤ 60) : Builtin.Int.intBits t ≤ 64 := by
  have k : ∀ n : Fin 61, Builtin.Int.intBits (n.val : Int) ≤ 64 := by decide +kernel
  have := k ⟨t.toNat, by omega⟩
  simpa [Int.toNat_of_nonneg h1] using this
theorem lam_ok {w : World} {f c' cT : Addr} {oc oT : Obj} {vs : Array Value} {qual : Str} {tq tt : Tok} {pm ctv : Value} {times : Int} {q p1 p2 p3 p4 p5 p6 p7 : Pos} (hoc : oc.data = .fields vs) (hv : vs[1]? = some (.str qual tq)) (hoT : oT.data = .cell (some (.int times tt))) (h1 : 1 ≤ times) (h2 : times ≤ 52) :
    KeyOk w f [(f, kla_obj "<lambda>" qual (lamParams q) (lamBody p1 p2 p3 p4 p5 p6 p7) lamScope [(Str.ofString "times", cT)] pm c' ctv), (c', oc), (cT, oT)] (kfT times) tks := by
  refine ⟨⟨_, _, _, _, .head _⟩, ?_⟩
  intro A E s g L m news d u Q c t C F N hn hd hu hc h
  obtain ⟨env, fs, outer, A₀, base, hA, hf, hke, B, BO, hfs⟩ := C.fr
  obtain ⟨p, lo, mean, mg, mb, T⟩ := C.top
  refine wpAny_call ?_
  refine kla_code (binds := [(Str.ofString "sign", .str c t)]) B F C.kin N T hA hf hke (hn _ (.head _)) (codeRec_news N (hn _ (.tail _ (.head _))) hoc hv) (by have := C.depth; simp only [recursionLimit]; omega) rfl (locs rfl) (fun g' L' h₁ FG F' N' B' X' T' => ?_) rfl rfl rfl (by decide)
  obtain ⟨tV, hval⟩ := tok_val c hc
  have hD : h₁.DictAt (SK w) 83 tkv 48 := (tok_dict w).dictAt (F'.keep _ _ (X' _ _ (tok_at w)))
  have hmap : h₁.MapOf (SK w) 83 (valueAt tkv) := hD.dictOf.mapOf
  have hkey : (SK w).is c (Value.str c t) = true := by simp [SK, PySem.strKind, Value.isStrOf]
  refine wpAny_BinOp (wpAny_BinOp (Subscript_ (nameX_K F' X' (topRead_of T') (by k_is) (nameX_L (v := .str c t) F' rfl (tail_any (T := "dict") hmap.typeIs slot_dict_getitem.lookup (wpAny_getItem_of hkey hmap hval ?_) rfl)))))
  refine nameX_F N' rfl (hn _ (.tail _ (.tail _ (.head _)))) hoT (mul_int (wpAny_Constant_int (mod_int (by decide) ?_)) ?_)
  · exact ⟨L', _, news, F', N', fun Fc Nc => h _ _ _ Fc Nc⟩
  · exact IntMulOk.of_right (bits60 (by omega) (by omega))
end Mine
end
section
open PySem PySem.W PyProof.Rows PySem.Calls PyProof.Rows.LCg
namespace Mine
/-- the code table of a def that makes one lambda -/
def TabSt (P : Addr) (qual : Str) (li co : Nat) (tabs : List (Addr × Obj)) : Prop :=
  tabs = [(P, tabObj #[])] ∨ ∃ c' oc vs t, tabs = [(P, tabObj #[rawInt li, rawInt co, .ref c']), (c', oc)] ∧ oc.data = .fields vs ∧ vs[1]? = some (.str qual t)
theorem TabSt.mem {P : Addr} {qual : Str} {li co : Nat} {tabs : List (Addr × Obj)} (T : TabSt P qual li co tabs) : ∃ o, (P, o) ∈ tabs := by
  rcases T with rfl | ⟨_, _, _, _, rfl, _⟩
  · exact ⟨_, .head _⟩
  · exact ⟨_, .head _⟩
theorem least_ok {w : World} {A : Around} {E : Value → Shared → Prop} {s : Shared} {g : Heap} {L : Addr} {l : List (Str × Value)} {rest tabs base0 : List (Addr × Obj)} {d u : Nat} {Q : Value → Shared → Prop} {dct : Addr} {R : List Str} {ep : Nat} {itv : Value} {n times : Int} {tn tt : Tok} {envc : Env} {fs : List Addr}
    (C : Cx w A L g d u) (CE : CxE w A L g envc fs) (H : At g L s.heap l rest) (S : Src w base0 dct tks ep) (hsm : (dct == sysModules) = false) (hit : (itv = .ref dct ∧ rest = tabs ++ base0) ∨ ∃ it oI, itv = .ref it ∧ rest = (it, oI) :: (tabs ++ base0) ∧ KIt oI dct tks ep tks ∧ ∀ p ∈ tabs ++ base0, p.1 ≠ it)
    (hT : TabSt 94 (Str.ofString "_law_least.<locals>.<lambda>") 215 38 tabs) (hP : ∀ p ∈ base0, p.1 ≠ 94) (hd : d < 400) (hu : u < 4000)
    (ht1 : 1 ≤ times) (ht2 : times ≤ 52) (hn1 : -100 < n) (hn2 : n < 100) (hR : R.Perm tks) (hRs : R.Pairwise fun a b => kfT times a < kfT times b)
    (h : ∀ gc D h' tk ys N tabs', KtsTurn fs g gc → StrsAre ys (R.take n.toNat) → TabSt 94 (Str.ofString "_law_least.<locals>.<lambda>") 215 38 tabs' → At gc L h' l ((D, listOf ys.toArray N) :: (tabs' ++ base0)) → (∀ p ∈ rest, @LT.lt Nat _ p.1 D) → (∀ p ∈ tabs' ++ base0, @LT.lt Nat _ p.1 D) → Q (.ref D) { s with heap := h', toks := tk }) :
    wpAny (MM w) A (call (.ref 99) [.int n tn, itv, .int times tt]) Q E s := by
  refine callC1 (f := 99) (x := Str.ofString "times") (v := .int times tt) (bl := [(Str.ofString "signs", itv), (Str.ofString "wish", .int n tn)]) C CE H (by k_is) (by k_is) (by simp only [recursionLimit]; omega) (binds := [("wish", .int n tn), ("signs", itv), ("times", .int times tt)]) (bn := ["wish", "signs", "times"]) (BindsTo.of_eq rfl) (fun _ => rfl) rfl (by decide) rfl rfl (by simp) (fun p hp => ?_) ?_ rfl rfl rfl
  · simp only [List.mem_cons, List.not_mem_nil, or_false] at hp ⊢
    rcases hp with rfl | rfl
    · exact ⟨.inr (.inl rfl), (show Str.ofString "signs" ≠ Str.ofString "times" by decide)⟩
    · exact ⟨.inl rfl, (show Str.ofString "wish" ≠ Str.ofString "times" by decide)⟩
  intro g' L' h₁ tk oK CE' C' hoK H' hlt
  obtain ⟨its, hrest, hcase⟩ : ∃ its, rest = its ++ (tabs ++ base0) ∧ ((itv = .ref dct ∧ its = []) ∨ ∃ it oI, itv = .ref it ∧ its = [(it, oI)] ∧ KIt oI dct tks ep tks ∧ ∀ p ∈ tabs ++ base0, p.1 ≠ it) := by
    rcases hit with ⟨a, b⟩ | ⟨it, oI, a, b, c⟩
    · exact ⟨[], b, .inl ⟨a, rfl⟩⟩
    · exact ⟨[(it, oI)], b, .inr ⟨it, oI, a, rfl, c⟩⟩
  obtain ⟨oP, hoP⟩ := hT.mem
  have hPi : ∀ p ∈ its, p.1 ≠ 94 := by
    intro p hp
    rcases hcase with ⟨_, rfl⟩ | ⟨it, oI, _, rfl, _, q⟩
    · cases hp
    · rw [List.mem_singleton] at hp
      subst hp
      exact fun e => q _ (List.mem_append_left _ hoP) e.symm
  have hPL : 94 ≠ L' + 1 := by
    have := hlt _ (show (94, oP) ∈ rest by rw [hrest]; exact List.mem_append_right _ (List.mem_append_left _ hoP))
    have : @LT.lt Nat _ 94 L' := this
    intro e
    have e' : @Eq Nat 94 (L' + 1) := e
    omega
  -- the call, once the lambda stands
  have go : ∀ {A' : Around} {env' : Env} (f c' : Addr) (oc : Obj) (vs : Array Value) (t : Tok) (ctv pm : Value) (hh : Heap) (tk' : Tok) (tabs' : List (Addr × Obj)) {q p1 p2 p3 p4 p5 p6 p7 : Pos}, CxE w A' L' g' env' (L :: fs) → Cx w A' L' g' (d + 1) (u + 3) → oc.data = .fields vs → vs[1]? = some (.str (Str.ofString "_law_least.<locals>.<lambda>") t) → TabSt 94 (Str.ofString "_law_least.<locals>.<lambda>") 215 38 tabs' → (c', oc) ∈ tabs' →
      ∀ X, At g' L' hh [(Str.ofString "signs", itv), (Str.ofString "wish", .int n tn)] ((f, kla_obj "<lambda>" (Str.ofString "_law_least.<locals>.<lambda>") (lamParams q) (lamBody p1 p2 p3 p4 p5 p6 p7) lamScope [(Str.ofString "times", L' + 1)] pm c' ctv) :: X) → (∀ p ∈ its ++ ((L' + 1, oK) :: (tabs' ++ base0)), p ∈ X) →
      (∀ p ∈ tabs', p.1 = 94 ∨ p ∈ tabs ∨ @LT.lt Nat _ L' p.1) → @LT.lt Nat _ L' f →
      wpAny (MM w) A' (call (.ref 76) [.int n tn, itv] [(Str.ofString "key", .ref f)]) (fun v s' => ∃ g₂ l' news', KtsTurn (L :: fs) g' g₂ ∧ At g₂ L' s'.heap l' news' ∧ (∀ gc, KtsTurn fs g gc → At gc L s'.heap l news' → Q v s')) (fun _ _ => False) { s with heap := hh, toks := tk' } := by
    intro A' env' f c' oc vs t ctv pm hh tk' tabs' q p1 p2 p3 p4 p5 p6 p7 CE'' C'' hoc hv hT' hc' X HX hX htb hfL
    have HA : At g' L' hh [(Str.ofString "signs", itv), (Str.ofString "wish", .int n tn)] (its ++ ((f, kla_obj "<lambda>" (Str.ofString "_law_least.<locals>.<lambda>") (lamParams q) (lamBody p1 p2 p3 p4 p5 p6 p7) lamScope [(Str.ofString "times", L' + 1)] pm c' ctv) :: (L' + 1, oK) :: (tabs' ++ base0))) := HX.new fun p hp => by
      simp only [List.mem_cons, List.mem_append] at hp ⊢
      rcases hp with hp | hp | hp
      · exact .inr (hX p (List.mem_append_left _ hp))
      · exact .inl hp
      · exact .inr (hX p (List.mem_append_right _ (by simp only [List.mem_cons, List.mem_append]; exact hp)))
    refine nsmallest_ok (rest := its ++ ((f, kla_obj "<lambda>" (Str.ofString "_law_least.<locals>.<lambda>") (lamParams q) (lamBody p1 p2 p3 p4 p5 p6 p7) lamScope [(Str.ofString "times", L' + 1)] pm c' ctv) :: (L' + 1, oK) :: (tabs' ++ base0))) (base := (f, kla_obj "<lambda>" (Str.ofString "_law_least.<locals>.<lambda>") (lamParams q) (lamBody p1 p2 p3 p4 p5 p6 p7) lamScope [(Str.ofString "times", L' + 1)] pm c' ctv) :: (L' + 1, oK) :: (tabs' ++ base0)) (dct := dct) (ks := tks) (ep := ep) (R := R) C'' CE'' HA ⟨S.mono fun p hp => .tail _ (.tail _ (List.mem_append_right _ hp)), hsm, ?_⟩ (lam_ok (w := w) (f := f) (c' := c') (cT := L' + 1) (oc := oc) (oT := oK) (pm := pm) (ctv := ctv) (q := q) (p1 := p1) (p2 := p2) (p3 := p3) (p4 := p4) (p5 := p5) (p6 := p6) (p7 := p7) hoc hv hoK ht1 ht2) ?_ (by omega) (by omega) (kfT_inj ht1 ht2) tks_nodup (by rw [tks_len]; omega) (by rw [tks_len]; omega) hn1 hn2 hR hRs ?_
    · rcases hcase with ⟨a, rfl⟩ | ⟨it, oI, a, rfl, k, q⟩
      · exact .inl ⟨a, rfl⟩
      · refine .inr ⟨it, oI, a, rfl, k, ?_⟩
        have hitL : @LT.lt Nat _ it L' := hlt (it, oI) (by rw [hrest]; exact .head _)
        intro p hp e
        have e' : @Eq Nat p.1 it := e
        simp only [List.mem_cons, List.mem_append] at hp
        rcases hp with rfl | rfl | hp | hp
        · have e'' : @Eq Nat f it := e'; omega
        · have e'' : @Eq Nat (L' + 1) it := e'; omega
        · rcases htb p hp with z | z | z
          · exact q _ (List.mem_append_left _ hoP) (z ▸ e : 94 = it)
          · exact q p (List.mem_append_left _ z) e
          · omega
        · exact q p (List.mem_append_right _ hp) e
    · intro p hp
      simp only [List.mem_cons, List.not_mem_nil, or_false] at hp
      rcases hp with rfl | rfl | rfl
      · exact .head _
      · exact .tail _ (.tail _ (List.mem_append_left _ hc'))
      · exact .tail _ (.head _)
    · intro gc D h' tk2 ys N T2 hys Hc hltD
      have hLD : @LT.lt Nat _ (L' + 1) D := hltD (L' + 1, oK) (List.mem_append_right _ (.tail _ (.head _)))
      refine ⟨gc, _, (D, listOf ys.toArray N) :: (tabs' ++ base0), T2, Hc.new fun p hp => ?_, fun gk Tk Hk => h gk D h' tk2 ys N tabs' Tk hys hT' Hk (fun p hp => ?_) fun p hp => hltD p (List.mem_append_right _ (.tail _ (.tail _ hp)))⟩
      · rcases List.mem_cons.mp hp with rfl | hp
        · exact .head _
        · exact .tail _ (.tail _ (.tail _ hp))
      · have : @LT.lt Nat _ p.1 L' := hlt p hp
        omega
  obtain ⟨p, lo, mean, mg, mb, T⟩ := C'.top
  refine wpAny_execs_cons (wpAny_Return_some (CallKw (ldK C' H' (by k_is) (callWith_KW C'.kin (by k_is) rfl (spliced_more (ldA H' rfl (spliced_more (ldA H' rfl (spliced_none (kws_cons (kla_eval rfl ?_))))))))) rfl))
  have hcc : CodeHd g' 98 94 := C'.cod.1
  rcases hT with rfl | ⟨c', oc, vs, t, rfl, hoc, hv⟩
  · have H2 : At g' L' h₁ [(Str.ofString "signs", itv), (Str.ofString "wish", .int n tn)] ((94, tabObj #[]) :: (L' + 1, oK) :: (its ++ base0)) := H'.new fun p hp => by
      rw [hrest]
      simp only [List.mem_cons, List.mem_append, List.not_mem_nil, or_false] at hp ⊢
      rcases hp with hp | hp | hp | hp
      · exact .inr (.inr (.inl hp))
      · exact .inl hp
      · exact .inr (.inl hp)
      · exact .inr (.inr (.inr hp))
    obtain ⟨m, F2, hm⟩ := H2.fr
    refine kla_nest F2 H2.nw T hcc rfl (UpdF.head ?_) True.intro rfl rfl ?_
    · intro p hp
      simp only [List.mem_cons, List.mem_append] at hp
      rcases hp with rfl | hp | hp
      · exact Ne.symm hPL
      · exact hPi p hp
      · exact hP p hp
    intro f c' oc vs t ctv h' tk' F3 N3 hoc hv hlt1 hlt2
    refine kws_nil ⟨C'.kin.keeps F3.keep, ?_⟩
    have hc1 : @LT.lt Nat _ (L' + 1) c' := hlt1 (L' + 1, oK) (.tail _ (.head _))
    have hc2 : @LT.lt Nat _ c' f := hlt2
    refine go f c' oc vs t ctv _ h' _ [(94, tabObj #[rawInt 215, rawInt 38, .ref c']), (c', oc)] CE' C' hoc hv (.inr ⟨c', oc, vs, t, rfl, hoc, hv⟩) (.tail _ (.head _)) _ ⟨⟨m, F3, hm⟩, N3⟩ (fun p hp => ?_) (fun p hp => ?_) (by omega)
    · show p ∈ (c', oc) :: (94, tabObj (#[] ++ #[rawInt 215, rawInt 38, .ref c'])) :: (L' + 1, oK) :: (its ++ base0)
      simp only [List.mem_cons, List.mem_append, List.not_mem_nil, or_false] at hp ⊢
      rcases hp with hp | hp | (hp | hp) | hp
      · exact .inr (.inr (.inr (.inl hp)))
      · exact .inr (.inr (.inl hp))
      · exact .inr (.inl hp)
      · exact .inl hp
      · exact .inr (.inr (.inr (.inr hp)))
    · simp only [List.mem_cons, List.not_mem_nil, or_false] at hp
      rcases hp with rfl | rfl
      · exact .inl rfl
      · exact .inr (.inr (by show @LT.lt Nat _ L' c'; omega))
  · obtain ⟨m, F2, hm⟩ := H'.fr
    refine kla_hit (ps := #[rawInt 215, rawInt 38, .ref c']) F2 H'.nw T hcc rfl ?_ (show TriplesOk [rawInt 215, rawInt 38, Value.ref c'] by simp [TriplesOk, rawInt]) (by rfl) rfl ?_
    · rw [hrest]
      exact .tail _ (List.mem_append_right _ (.head _))
    intro f ctv h' tk' F3 N3 hlt1
    refine kws_nil ⟨C'.kin.keeps F3.keep, ?_⟩
    have hc1 : @LT.lt Nat _ (L' + 1) f := hlt1 (L' + 1, oK) (.head _)
    refine go f c' oc vs t ctv _ h' _ [(94, tabObj #[rawInt 215, rawInt 38, .ref c']), (c', oc)] CE' C' hoc hv (.inr ⟨c', oc, vs, t, rfl, hoc, hv⟩) (.tail _ (.head _)) _ ⟨⟨m, F3, hm⟩, N3⟩ (fun p hp => ?_) (fun p hp => .inr (.inl hp)) (by omega)
    rw [hrest]
    simp only [List.mem_cons, List.mem_append, List.not_mem_nil, or_false] at hp ⊢
    rcases hp with hp | hp | hp | hp
    · exact .inr (.inl hp)
    · exact .inl hp
    · exact .inr (.inr (.inl hp))
    · exact .inr (.inr (.inr hp))
theorem most_ok {w : World} {A : Around} {E : Value → Shared → Prop} {s : Shared} {g : Heap} {L : Addr} {l : List (Str × Value)} {rest tabs base0 : List (Addr × Obj)} {d u : Nat} {Q : Value → Shared → Prop} {dct : Addr} {R : List Str} {ep : Nat} {itv : Value} {n times : Int} {tn tt : Tok} {envc : Env} {fs : List Addr}
    (C : Cx w A L g d u) (CE : CxE w A L g envc fs) (H : At g L s.heap l rest) (S : Src w base0 dct tks ep) (hsm : (dct == sysModules) = false) (hit : (itv = .ref dct ∧ rest = tabs ++ base0) ∨ ∃ it oI, itv = .ref it ∧ rest = (it, oI) :: (tabs ++ base0) ∧ KIt oI dct tks ep tks ∧ ∀ p ∈ tabs ++ base0, p.1 ≠ it)
    (hT : TabSt 101 (Str.ofString "_law_most.<locals>.<lambda>") 217 37 tabs) (hP : ∀ p ∈ base0, p.1 ≠ 101) (hd : d < 400) (hu : u < 4000)
    (ht1 : 1 ≤ times) (ht2 : times ≤ 52) (hn1 : -100 < n) (hn2 : n < 100) (hR : R.Perm tks) (hRs : R.Pairwise fun a b => kfT times a < kfT times b)
    (h : ∀ gc D h' tk ys N tabs', KtsTurn fs g gc → StrsAre ys (R.reverse.take n.toNat) → TabSt 101 (Str.ofString "_law_most.<locals>.<lambda>") 217 37 tabs' → At gc L h' l ((D, listOf ys.toArray N) :: (tabs' ++ base0)) → (∀ p ∈ rest, @LT.lt Nat _ p.1 D) → (∀ p ∈ tabs' ++ base0, @LT.lt Nat _ p.1 D) → Q (.ref D) { s with heap := h', toks := tk }) :
    wpAny (MM w) A (call (.ref 106) [.int n tn, itv, .int times tt]) Q E s := by
  refine callC1 (f := 106) (x := Str.ofString "times") (v := .int times tt) (bl := [(Str.ofString "signs", itv), (Str.ofString "wish", .int n tn)]) C CE H (by k_is) (by k_is) (by simp only [recursionLimit]; omega) (binds := [("wish", .int n tn), ("signs", itv), ("times", .int times tt)]) (bn := ["wish", "signs", "times"]) (BindsTo.of_eq rfl) (fun _ => rfl) rfl (by decide) rfl rfl (by simp) (fun p hp => ?_) ?_ rfl rfl rfl
  · simp only [List.mem_cons, List.not_mem_nil, or_false] at hp ⊢
    rcases hp with rfl | rfl
    · exact ⟨.inr (.inl rfl), (show Str.ofString "signs" ≠ Str.ofString "times" by decide)⟩
    · exact ⟨.inl rfl, (show Str.ofString "wish" ≠ Str.ofString "times" by decide)⟩
  intro g' L' h₁ tk oK CE' C' hoK H' hlt
  obtain ⟨its, hrest, hcase⟩ : ∃ its, rest = its ++ (tabs ++ base0) ∧ ((itv = .ref dct ∧ its = []) ∨ ∃ it oI, itv = .ref it ∧ its = [(it, oI)] ∧ KIt oI dct tks ep tks ∧ ∀ p ∈ tabs ++ base0, p.1 ≠ it) := by
    rcases hit with ⟨a, b⟩ | ⟨it, oI, a, b, c⟩
    · exact ⟨[], b, .inl ⟨a, rfl⟩⟩
    · exact ⟨[(it, oI)], b, .inr ⟨it, oI, a, rfl, c⟩⟩
  obtain ⟨oP, hoP⟩ := hT.mem
  have hPi : ∀ p ∈ its, p.1 ≠ 101 := by
    intro p hp
    rcases hcase with ⟨_, rfl⟩ | ⟨it, oI, _, rfl, _, q⟩
    · cases hp
    · rw [List.mem_singleton] at hp
      subst hp
      exact fun e => q _ (List.mem_append_left _ hoP) e.symm
  have hPL : 101 ≠ L' + 1 := by
    have := hlt _ (show (101, oP) ∈ rest by rw [hrest]; exact List.mem_append_right _ (List.mem_append_left _ hoP))
    have : @LT.lt Nat _ 101 L' := this
    intro e
    have e' : @Eq Nat 101 (L' + 1) := e
    omega
  -- the call, once the lambda stands
  have go : ∀ {A' : Around} {env' : Env} (f c' : Addr) (oc : Obj) (vs : Array Value) (t : Tok) (ctv pm : Value) (hh : Heap) (tk' : Tok) (tabs' : List (Addr × Obj)) {q p1 p2 p3 p4 p5 p6 p7 : Pos}, CxE w A' L' g' env' (L :: fs) → Cx w A' L' g' (d + 1) (u + 3) → oc.data = .fields vs → vs[1]? = some (.str (Str.ofString "_law_most.<locals>.<lambda>") t) → TabSt 101 (Str.ofString "_law_most.<locals>.<lambda>") 217 37 tabs' → (c', oc) ∈ tabs' →
      ∀ X, At g' L' hh [(Str.ofString "signs", itv), (Str.ofString "wish", .int n tn)] ((f, kla_obj "<lambda>" (Str.ofString "_law_most.<locals>.<lambda>") (lamParams q) (lamBody p1 p2 p3 p4 p5 p6 p7) lamScope [(Str.ofString "times", L' + 1)] pm c' ctv) :: X) → (∀ p ∈ its ++ ((L' + 1, oK) :: (tabs' ++ base0)), p ∈ X) →
      (∀ p ∈ tabs', p.1 = 101 ∨ p ∈ tabs ∨ @LT.lt Nat _ L' p.1) → @LT.lt Nat _ L' f →
      wpAny (MM w) A' (call (.ref 82) [.int n tn, itv] [(Str.ofString "key", .ref f)]) (fun v s' => ∃ g₂ l' news', KtsTurn (L :: fs) g' g₂ ∧ At g₂ L' s'.heap l' news' ∧ (∀ gc, KtsTurn fs g gc → At gc L s'.heap l news' → Q v s')) (fun _ _ => False) { s with heap := hh, toks := tk' } := by
    intro A' env' f c' oc vs t ctv pm hh tk' tabs' q p1 p2 p3 p4 p5 p6 p7 CE'' C'' hoc hv hT' hc' X HX hX htb hfL
    have HA : At g' L' hh [(Str.ofString "signs", itv), (Str.ofString "wish", .int n tn)] (its ++ ((f, kla_obj "<lambda>" (Str.ofString "_law_most.<locals>.<lambda>") (lamParams q) (lamBody p1 p2 p3 p4 p5 p6 p7) lamScope [(Str.ofString "times", L' + 1)] pm c' ctv) :: (L' + 1, oK) :: (tabs' ++ base0))) := HX.new fun p hp => by
      simp only [List.mem_cons, List.mem_append] at hp ⊢
      rcases hp with hp | hp | hp
      · exact .inr (hX p (List.mem_append_left _ hp))
      · exact .inl hp
      · exact .inr (hX p (List.mem_append_right _ (by simp only [List.mem_cons, List.mem_append]; exact hp)))
    refine nlargest_ok (rest := its ++ ((f, kla_obj "<lambda>" (Str.ofString "_law_most.<locals>.<lambda>") (lamParams q) (lamBody p1 p2 p3 p4 p5 p6 p7) lamScope [(Str.ofString "times", L' + 1)] pm c' ctv) :: (L' + 1, oK) :: (tabs' ++ base0))) (base := (f, kla_obj "<lambda>" (Str.ofString "_law_most.<locals>.<lambda>") (lamParams q) (lamBody p1 p2 p3 p4 p5 p6 p7) lamScope [(Str.ofString "times", L' + 1)] pm c' ctv) :: (L' + 1, oK) :: (tabs' ++ base0)) (dct := dct) (ks := tks) (ep := ep) (R := R) C'' CE'' HA ⟨S.mono fun p hp => .tail _ (.tail _ (List.mem_append_right _ hp)), hsm, ?_⟩ (lam_ok (w := w) (f := f) (c' := c') (cT := L' + 1) (oc := oc) (oT := oK) (pm := pm) (ctv := ctv) (q := q) (p1 := p1) (p2 := p2) (p3 := p3) (p4 := p4) (p5 := p5) (p6 := p6) (p7 := p7) hoc hv hoK ht1 ht2) ?_ (by omega) (by omega) (kfT_inj ht1 ht2) tks_nodup (by rw [tks_len]; omega) (by rw [tks_len]; omega) hn1 hn2 hR hRs ?_
    · rcases hcase with ⟨a, rfl⟩ | ⟨it, oI, a, rfl, k, q⟩
      · exact .inl ⟨a, rfl⟩
      · refine .inr ⟨it, oI, a, rfl, k, ?_⟩
        have hitL : @LT.lt Nat _ it L' := hlt (it, oI) (by rw [hrest]; exact .head _)
        intro p hp e
        have e' : @Eq Nat p.1 it := e
        simp only [List.mem_cons, List.mem_append] at hp
        rcases hp with rfl | rfl | hp | hp
        · have e'' : @Eq Nat f it := e'; omega
        · have e'' : @Eq Nat (L' + 1) it := e'; omega
        · rcases htb p hp with z | z | z
          · exact q _ (List.mem_append_left _ hoP) (z ▸ e : 101 = it)
          · exact q p (List.mem_append_left _ z) e
          · omega
        · exact q p (List.mem_append_right _ hp) e
    · intro p hp
      simp only [List.mem_cons, List.not_mem_nil, or_false] at hp
      rcases hp with rfl | rfl | rfl
      · exact .head _
      · exact .tail _ (.tail _ (List.mem_append_left _ hc'))
      · exact .tail _ (.head _)
    · intro gc D h' tk2 ys N T2 hys Hc hltD
      have hLD : @LT.lt Nat _ (L' + 1) D := hltD (L' + 1, oK) (List.mem_append_right _ (.tail _ (.head _)))
      refine ⟨gc, _, (D, listOf ys.toArray N) :: (tabs' ++ base0), T2, Hc.new fun p hp => ?_, fun gk Tk Hk => h gk D h' tk2 ys N tabs' Tk hys hT' Hk (fun p hp => ?_) fun p hp => hltD p (List.mem_append_right _ (.tail _ (.tail _ hp)))⟩
      · rcases List.mem_cons.mp hp with rfl | hp
        · exact .head _
        · exact .tail _ (.tail _ (.tail _ hp))
      · have : @LT.lt Nat _ p.1 L' := hlt p hp
        omega
  obtain ⟨p, lo, mean, mg, mb, T⟩ := C'.top
  refine wpAny_execs_cons (wpAny_Return_some (CallKw (ldK C' H' (by k_is) (callWith_KW C'.kin (by k_is) rfl (spliced_more (ldA H' rfl (spliced_more (ldA H' rfl (spliced_none (kws_cons (kla_eval rfl ?_))))))))) rfl))
  have hcc : CodeHd g' 105 101 := C'.cod.2
  rcases hT with rfl | ⟨c', oc, vs, t, rfl, hoc, hv⟩
  · have H2 : At g' L' h₁ [(Str.ofString "signs", itv), (Str.ofString "wish", .int n tn)] ((101, tabObj #[]) :: (L' + 1, oK) :: (its ++ base0)) := H'.new fun p hp => by
      rw [hrest]
      simp only [List.mem_cons, List.mem_append, List.not_mem_nil, or_false] at hp ⊢
      rcases hp with hp | hp | hp | hp
      · exact .inr (.inr (.inl hp))
      · exact .inl hp
      · exact .inr (.inl hp)
      · exact .inr (.inr (.inr hp))
    obtain ⟨m, F2, hm⟩ := H2.fr
    refine kla_nest F2 H2.nw T hcc rfl (UpdF.head ?_) True.intro rfl rfl ?_
    · intro p hp
      simp only [List.mem_cons, List.mem_append] at hp
      rcases hp with rfl | hp | hp
      · exact Ne.symm hPL
      · exact hPi p hp
      · exact hP p hp
    intro f c' oc vs t ctv h' tk' F3 N3 hoc hv hlt1 hlt2
    refine kws_nil ⟨C'.kin.keeps F3.keep, ?_⟩
    have hc1 : @LT.lt Nat _ (L' + 1) c' := hlt1 (L' + 1, oK) (.tail _ (.head _))
    have hc2 : @LT.lt Nat _ c' f := hlt2
    refine go f c' oc vs t ctv _ h' _ [(101, tabObj #[rawInt 217, rawInt 37, .ref c']), (c', oc)] CE' C' hoc hv (.inr ⟨c', oc, vs, t, rfl, hoc, hv⟩) (.tail _ (.head _)) _ ⟨⟨m, F3, hm⟩, N3⟩ (fun p hp => ?_) (fun p hp => ?_) (by omega)
    · show p ∈ (c', oc) :: (101, tabObj (#[] ++ #[rawInt 217, rawInt 37, .ref c'])) :: (L' + 1, oK) :: (its ++ base0)
      simp only [List.mem_cons, List.mem_append, List.not_mem_nil, or_false] at hp ⊢
      rcases hp with hp | hp | (hp | hp) | hp
      · exact .inr (.inr (.inr (.inl hp)))
      · exact .inr (.inr (.inl hp))
      · exact .inr (.inl hp)
      · exact .inl hp
      · exact .inr (.inr (.inr (.inr hp)))
    · simp only [List.mem_cons, List.not_mem_nil, or_false] at hp
      rcases hp with rfl | rfl
      · exact .inl rfl
      · exact .inr (.inr (by show @LT.lt Nat _ L' c'; omega))
  · obtain ⟨m, F2, hm⟩ := H'.fr
    refine kla_hit (ps := #[rawInt 217, rawInt 37, .ref c']) F2 H'.nw T hcc rfl ?_ (show TriplesOk [rawInt 217, rawInt 37, Value.ref c'] by simp [TriplesOk, rawInt]) (by rfl) rfl ?_
    · rw [hrest]
      exact .tail _ (List.mem_append_right _ (.head _))
    intro f ctv h' tk' F3 N3 hlt1
    refine kws_nil ⟨C'.kin.keeps F3.keep, ?_⟩
    have hc1 : @LT.lt Nat _ (L' + 1) f := hlt1 (L' + 1, oK) (.head _)
    refine go f c' oc vs t ctv _ h' _ [(101, tabObj #[rawInt 217, rawInt 37, .ref c']), (c', oc)] CE' C' hoc hv (.inr ⟨c', oc, vs, t, rfl, hoc, hv⟩) (.tail _ (.head _)) _ ⟨⟨m, F3, hm⟩, N3⟩ (fun p hp => ?_) (fun p hp => .inr (.inl hp)) (by omega)
    rw [hrest]
    simp only [List.mem_cons, List.mem_append, List.not_mem_nil, or_false] at hp ⊢
    rcases hp with hp | hp | hp | hp
    · exact .inr (.inl hp)
    · exact .inl hp
    · exact .inr (.inr (.inl hp))
    · exact .inr (.inr (.inr hp))
end Mine
end
section
open PySem PySem.W PyProof.Rows PySem.Calls PyProof.Rows.LCg
namespace Mine
theorem tks_lay : ∀ c ∈ tks, PyData.canLay0 (.str c) = true := by decide +kernel
theorem strs_carried : ∀ {vs : List Value} {ns : List Str}, StrsAre vs ns → CarriedAll vs (ns.map PyData.str)
  | _, _, .nil => .nil
  | _, _, .cons _ t r => .cons (.str _ t) (strs_carried r)
theorem strs_eqv : ∀ ns : List Str, PyData.eqvAll (ns.map PyData.str) (ns.map PyData.str) = true
  | [] => by simp [PyData.eqvAll]
  | x :: r => by simp [PyData.eqvAll, PyData.eqv, strs_eqv r]
theorem strs_canLay : ∀ {ns : List Str}, (∀ c ∈ ns, PyData.canLay0 (.str c) = true) → PyData.canLayAll0 (ns.map PyData.str) = true
  | [], _ => rfl
  | x :: r, h => by
    rw [List.map_cons]
    simp only [PyData.canLayAll0]
    rw [h x (.head _), strs_canLay fun c hc => h c (.tail _ hc)]; rfl
theorem strs_depth : ∀ ns : List Str, PyData.depthAll (ns.map PyData.str) = 0
  | [] => rfl
  | _ :: r => by simp [PyData.depthAll, PyData.depth, strs_depth r]
theorem strs_shaped {ns : List Str} (h : ∀ c ∈ ns, PyData.canLay0 (.str c) = true) : SeqAt.shaped (.list (ns.map PyData.str)) = true := by
  simp [SeqAt.shaped, PyData.canLay0, PyData.depth, strs_canLay h, strs_depth]
section
variable {w : World} {A : Around} {E : Value → Shared → Prop} {s : Shared} {g : Heap} {L : Addr} {l : List (Str × Value)} {news : List (Addr × Obj)} {d u : Nat}
theorem listA {d : Addr} {vs : List Value} {n : Nat} (H : At g L s.heap l news) (hm : (d, listOf vs.toArray n) ∈ news) : s.heap.IsList d vs.toArray := PySem.IsL.isList (n := n) (H.get hm)
/-- two lists of the same texts -/
theorem neStrs {a b : Addr} {xs ys : List Value} {n k : Nat} {ns : List Str} {Q : Value → Shared → Prop} (H : At g L s.heap l news) (ha : (a, listOf xs.toArray n) ∈ news) (hb : (b, listOf ys.toArray k) ∈ news) (hx : StrsAre xs ns) (hy : StrsAre ys ns) (hok : ∀ c ∈ ns, PyData.canLay0 (.str c) = true) (hu : A.units + 64 < cLine)
    (h : Q (.bool false) s) : wpAny (MM w) A (compareOp .NotEq (.ref a) (.ref b)) Q E s := by
  refine ne_dataH (reads_newData (listA H ha) (strs_carried hx)) (reads_newData (listA H hb) (strs_carried hy)) (strs_shaped hok) (strs_shaped hok) hu ?_
  rw [show PyData.eqv (.list (ns.map PyData.str)) (.list (ns.map PyData.str)) = true from (by simp only [PyData.eqv]; exact strs_eqv ns)]
  exact h
/-- two lists of two lists of the same texts -/
theorem eqTold {a b p q r : Addr} {xs ys zs : List Value} {n k n1 n2 n3 : Nat} {ns : List Str} {Q : Value → Shared → Prop} (H : At g L s.heap l news) (ha : (a, listOf #[.ref p, .ref q] n) ∈ news) (hb : (b, listOf #[.ref r, .ref r] k) ∈ news) (hp : (p, listOf xs.toArray n1) ∈ news) (hq : (q, listOf ys.toArray n2) ∈ news) (hr : (r, listOf zs.toArray n3) ∈ news)
    (hx : StrsAre xs ns) (hy : StrsAre ys ns) (hz : StrsAre zs ns) (hok : ∀ c ∈ ns, PyData.canLay0 (.str c) = true) (hu : A.units + 64 < cLine)
    (h : Q (.bool true) s) : wpAny (MM w) A (compareOp .Eq (.ref a) (.ref b)) Q E s := by
  have rp := reads_newData (listA H hp) (strs_carried hx)
  have rq := reads_newData (listA H hq) (strs_carried hy)
  have rr := reads_newData (listA H hr) (strs_carried hz)
  have sh : SeqAt.shaped (.list [.list (ns.map PyData.str), .list (ns.map PyData.str)]) = true := by
    simp [SeqAt.shaped, PyData.canLay0, PyData.canLayAll0, PyData.depth, PyData.depthAll, strs_canLay hok, strs_depth]
  refine eq_dataH (reads_list_at (H.get ha) rfl rfl (.cons rp (.cons rq .nil))) (reads_list_at (H.get hb) rfl rfl (.cons rr (.cons rr .nil))) sh sh hu ?_
  rw [show PyData.eqv (.list [.list (ns.map PyData.str), .list (ns.map PyData.str)]) (.list [.list (ns.map PyData.str), .list (ns.map PyData.str)]) = true from (by simp [PyData.eqv, PyData.eqvAll, strs_eqv ns])]
  exact h
theorem hits_self {A : Around} {s : Shared} : ∀ {kvs all : List (Str × Value)}, (∀ p ∈ kvs, valueAt all p.1 = some p.2) → KeqHits A s all kvs true
  | [], _, _ => .nil
  | (k, v) :: r, all, h => by
    have := KeqHits.hit (A := A) (s := s) (k := k) (v := v) (h (k, v) (.head _)) (SeqAt.EqAt.same v) (hits_self fun p hp => h p (.tail _ hp))
    exact this
theorem valueAt_self : ∀ {kvs : List (Str × Value)}, (kvs.map (·.1)).Nodup → ∀ p ∈ kvs, valueAt kvs p.1 = some p.2
  | [], _, p, hp => nomatch hp
  | q :: r, nd, p, hp => by
    rw [List.map_cons, List.nodup_cons] at nd
    unfold valueAt
    rw [List.find?_cons]
    rcases List.mem_cons.mp hp with rfl | hp
    · simp
    · have hne : q.1 ≠ p.1 := fun e => nd.1 (e ▸ List.mem_map_of_mem hp)
      simp only [hne, decide_false]
      exact valueAt_self nd.2 p hp
theorem eqDict {a : Addr} {o : Obj} {ep : Nat} {Q : Value → Shared → Prop} (C : Cx w A L g d u) (H : At g L s.heap l news) (hm : (a, o) ∈ news) (hk : KdkAt (SK w) o tkv ep) (ha : (a == sysModules) = false) (hu : A.units < cLine) (h : Q (.bool true) s) :
    wpAny (MM w) A (compareOp .Eq (.ref 83) (.ref a)) Q E s := by
  obtain ⟨m, F, _⟩ := H.fr
  refine keq_eq (knd := SK w) (ka := tkv) (kb := tkv) (r := true) (by decide) ha ((tok_dict w).dictAt (F.keep _ _ (C.kin _ _ (tok_at w)))).dictOf (hk.dictAt (H.get hm)).dictOf hu (fun _ => hits_self (valueAt_self tks_nodup)) ?_
  simpa using h
theorem copyDict {Q : Value → Shared → Prop} (C : Cx w A L g d u) (H : At g L s.heap l news) (h : ∀ D h' o ep, KdkAt (SK w) o tkv ep → (D == sysModules) = false → At g L h' l ((D, o) :: news) → (∀ p ∈ news, @LT.lt Nat _ p.1 D) → Q (.ref D) { s with heap := h' }) :
    wpAny (MM w) A (call (.type "dict") [.ref 83]) Q E s := by
  obtain ⟨m, F, hm⟩ := H.fr
  obtain ⟨p, lo, mean, mg, mb, T⟩ := C.top
  refine kt_call_dict (knd := SK w) (by decide) ((tok_dict w).dictAt (F.keep _ _ (C.kin _ _ (tok_at w)))).dictOf (by rw [sizeLine_eq]; decide) fun h' hd hs => ?_
  obtain ⟨o, es, ep, ho, k⟩ := hd
  exact h _ h' o ep ⟨es, k⟩ (F.notModules (modules_low T.nolimit)) ((H.push _).same (fun p hp => Nat.ne_of_lt (H.lt p hp)) hs ho) H.lt
theorem maxI {a b : Int} {t v : Tok} {Q : Value → Shared → Prop} (C : Cx w A L g d u) (H : At g L s.heap l news) (h : ∀ h' t' tk, At g L h' l news → Q (.int (if b > a then b else a) t') { s with heap := h', toks := tk }) :
    wpAny (MM w) A (call (.builtin "max") [.int a t, .int b v]) Q E s := by
  obtain ⟨m, F, hm⟩ := H.fr
  exact max_two_N C.handled F H.nw fun h' tk F' N' => h h' _ tk ⟨⟨m, F', hm⟩, N'⟩
theorem mulTwo {a : Addr} {v : Value} {n : Nat} {t : Tok} {Q : Value → Shared → Prop} (H : At g L s.heap l news) (hm : (a, listOf #[v] n) ∈ news) (h : ∀ D h', At g L h' l ((D, listOf #[v, v] 0) :: news) → (∀ p ∈ news, @LT.lt Nat _ p.1 D) → Q (.ref D) { s with heap := h' }) :
    wpAny (MM w) A (binaryOp .Mult (.ref a) (.int 2 t)) Q E s := by
  obtain ⟨m, F, hm'⟩ := H.fr
  exact KMa.mul (vs := [v]) (ws := [v, v]) F H.nw (listA H hm) (by decide) (by decide) (by simp) rfl fun D h' F' N' lt => h D h' ⟨⟨m, F', hm'⟩, N'⟩ lt
theorem revAll (vs : List Value) : slicePick vs.toArray none none (some (-1)) = vs.reverse.toArray := krv_pick vs.toArray
/-- a turn of a tuple's iterator that the ledger holds first -/
abbrev tiObj (t : Addr) (i : Nat) : Obj := { cls := .type "tuple_iterator", data := .fields #[.ref t, .int i 0] }
theorem iterT {t : Addr} {vs : List Value} {n : Nat} {Q : Value → Shared → Prop} (H : At g L s.heap l news) (hm : (t, { cls := .type "tuple", data := .seq vs.toArray n }) ∈ news) (h : ∀ it h', At g L h' l ((it, tiObj t 0) :: news) → (∀ p ∈ news, @LT.lt Nat _ p.1 it) → Q (.ref it) { s with heap := h' }) :
    wpAny (MM w) A (pyIter (.ref t)) Q E s := wpAny_pyIter_tuple (items := vs.toArray) ⟨_, H.get hm, rfl, n, rfl⟩ (h _ _ (H.push _) H.lt)
theorem nextT {it t : Addr} {i : Nat} {vs : List Value} {n : Nat} {v : Value} {oi : Obj} {Q : Option Value → Shared → Prop} (H : At g L s.heap l ((it, oi) :: news)) (hi : oi.cls = .type "tuple_iterator" ∧ oi.data = .fields #[.ref t, .int i 0]) (hd : ∀ p ∈ news, p.1 ≠ it) (hm : (t, { cls := .type "tuple", data := .seq vs.toArray n }) ∈ news) (hx : vs[i]? = some v)
    (h : ∀ h' oi', oi'.cls = .type "tuple_iterator" ∧ oi'.data = .fields #[.ref t, .int ((i + 1 : Nat) : Int) 0] → At g L h' l ((it, oi') :: news) → Q (some v) { s with heap := h' }) : wpAny (MM w) A (pyNext (.ref it)) Q E s := by
  refine wpAny_pyNext_tuple_item (items := vs.toArray) ⟨_, H.get (.head _), hi.1, hi.2⟩ ⟨_, H.get (.tail _ hm), rfl, n, rfl⟩ (by simpa using hx) fun h' hq hs => ?_
  obtain ⟨o', ho', hc', hd'⟩ := hq
  exact h h' o' ⟨hc', hd'⟩ (H.same hd hs ho')
theorem nextTend {it t : Addr} {i : Nat} {vs : List Value} {n : Nat} {oi : Obj} {Q : Option Value → Shared → Prop} (hh : A.handled = none) (H : At g L s.heap l ((it, oi) :: news)) (hi : oi.cls = .type "tuple_iterator" ∧ oi.data = .fields #[.ref t, .int i 0]) (hd : ∀ p ∈ news, p.1 ≠ it) (hm : (t, { cls := .type "tuple", data := .seq vs.toArray n }) ∈ news) (hx : vs[i]? = none)
    (h : ∀ h', At g L h' l news → Q none { s with heap := h' }) : wpAny (MM w) A (pyNext (.ref it)) Q E s :=
  wpAny_pyNext_tuple_end hh (items := vs.toArray) ⟨_, H.get (.head _), hi.1, hi.2⟩ ⟨_, H.get (.tail _ hm), rfl, n, rfl⟩ (by simpa using hx) fun h' hs => h h' (H.ext hd hs)
/-- the row of the operators -/
def rowS : List Str := Txt.split (Str.ofString "( ) [ ] : , ; + - * / | & < > = . % { } == != <= >= ~ ^ << >> ** " ++ Str.ofString "+= -= *= /= %= &= |= ^= <<= >>= **= // //= @ @= -> ... := !") (Str.ofString " ")
theorem rowS_tv : rowS.map tv = (List.range 48).map (fun k : Nat => 7 + (k : Int)) := by decide +kernel
theorem rowS_sub : ∀ c ∈ rowS, c ∈ tks := by decide +kernel
theorem tks_sub : ∀ c ∈ tks, c ∈ rowS := fun c hc => by
  have lo := tv_lo c hc
  have : tv c ∈ rowS.map tv := by
    rw [rowS_tv]
    exact List.mem_map.mpr ⟨(tv c - 7).toNat, List.mem_range.mpr (by omega), by omega⟩
  obtain ⟨r, hr, e⟩ := List.mem_map.mp this
  rw [← inj_of_nodup tv_nodup r c (rowS_sub r hr) hc e]
  exact hr
theorem nodup_range_map : ((List.range 48).map (fun k : Nat => 7 + (k : Int))).Nodup := by decide +kernel
theorem nodup_of_nodup_map {α β : Type} {f : α → β} : ∀ {l : List α}, (l.map f).Nodup → l.Nodup
  | [], _ => .nil
  | x :: r, nd => by
    rw [List.map_cons, List.nodup_cons] at nd
    exact List.nodup_cons.mpr ⟨fun h => nd.1 (List.mem_map_of_mem h), nodup_of_nodup_map nd.2⟩
theorem rowS_nodup : rowS.Nodup := nodup_of_nodup_map (f := tv) (rowS_tv ▸ nodup_range_map)
theorem rowS_len : rowS.length = 48 := by
  have := congrArg List.length rowS_tv
  rwa [List.length_map, List.length_map, List.length_range] at this
theorem rowS_perm : rowS.Perm tks := (List.perm_ext_iff_of_nodup rowS_nodup tks_nodup).mpr fun c => ⟨rowS_sub c, tks_sub c⟩
theorem rowA {Q : Value → Shared → Prop} (C : Cx w A L g d u) (H : At g L s.heap l news) (hd : d < 400) (h : ∀ D h' tk ys, StrsAre ys rowS → At g L h' l ((D, listOf ys.toArray 0) :: news) → (∀ p ∈ news, @LT.lt Nat _ p.1 D) → Q (.ref D) { s with heap := h', toks := tk }) :
    wpAny (MM w) A (call (.ref 92) []) Q E s := by
  refine callA (f := 92) C H (by k_is) (by k_is) (by simp only [recursionLimit]; omega) (binds := []) (BindsTo.of_eq rfl) (locs rfl) ?_ rfl rfl rfl rfl (by decide)
  intro g' L' h₁ tk C' H' hlt
  refine wpAny_execs_cons (wpAny_Assign_Name (wpAny_Constant_str ?_) (by with_unfolding_all rfl))
  refine stA H' (fun h2 H2 => ?_)
  refine wpAny_execs_cons (wpAny_Assign_Name (wpAny_Constant_str ?_) (by with_unfolding_all rfl))
  refine stA H2 (fun h3 H3 => ?_)
  refine wpAny_execs_cons (wpAny_Return_some (MethodCall_ (wpAny_BinOp (ldA H3 rfl (ldA H3 rfl (add_str (fun t' tk' => ?_) (by rw [sizeLine_eq]; decide)))))))
  refine GM.split (callWith_method1 (spliced_more (wpAny_Constant_str (spliced_none ?_))))
  obtain ⟨m, F, hm⟩ := H3.fr
  refine KSpl.split1 F H3.nw (by decide) (fun D ls h4 k e hs F4 N4 lt => ?_) (by rw [sizeLine_eq]; decide)
  rw [e] at hs
  refine ⟨_, _, ⟨⟨m, F4, hm⟩, N4⟩, fun Hc => h D h4 k (strValues ls) hs Hc fun p hp => lt p hp⟩
end
end Mine
end
section
open PySem PySem.W PyProof.Rows PySem.Calls PyProof.Rows.LCg
namespace Mine
def bodyOf (o : Option Obj) : List Stmt := match o with
  | some ⟨_, _, .func fd, _⟩ => (match fd.body with | .stmts b => b | _ => [])
  | _ => []
def scopeOf (o : Option Obj) : Scope := match o with
  | some ⟨_, _, .func fd, _⟩ => fd.scope
  | _ => default
/-- what no step touches -/
def Same (s s' : Shared) : Prop := s'.os = s.os ∧ s'.gens = s.gens
theorem Same.trans {a b c : Shared} (x : Same a b) (y : Same b c) : Same a c := ⟨y.1.trans x.1, y.2.trans x.2⟩
theorem At.turn0 {g gc : Heap} {L : Addr} {h : Heap} {l : List (Str × Value)} {news : List (Addr × Obj)} (T : KtsTurn [] g gc) (H : At gc L h l news) : At g L h l news := by
  obtain ⟨m, F, hm⟩ := H.fr
  refine ⟨⟨m, ⟨F.ns, fun b o e => F.keep b o (T.other b o e (fun q => nomatch q)), T.size ▸ F.above⟩, hm⟩, fun p hp => ?_⟩
  have z := H.nw p hp
  refine ⟨z.1, z.2.1, ?_⟩
  cases e : g.get? p.1 with
  | none => rfl
  | some o => have := T.other _ o e (fun q => nomatch q); rw [z.2.2] at this; cases this
section
variable {w : World} {A : Around} {E : Value → Shared → Prop} {s : Shared} {g : Heap} {L : Addr} {l : List (Str × Value)} {news : List (Addr × Obj)} {d u : Nat}
theorem iterD {dK : Addr} {o : Obj} {ep : Nat} {Q : Value → Shared → Prop} (H : At g L s.heap l news) (hm : (dK, o) ∈ news) (hk : KdkAt (SK w) o tkv ep) (hs : (dK == sysModules) = false)
    (h : ∀ it oI h', KIt oI dK tks ep tks → At g L h' l ((it, oI) :: news) → (∀ p ∈ news, @LT.lt Nat _ p.1 it) → Q (.ref it) { s with heap := h' }) : wpAny (MM w) A (call (.builtin "iter") [.ref dK]) Q E s := by
  refine call_function_entry (by decide +kernel) (by decide +kernel) kdk_entry_iter (kdk_args_iter _) ?_
  unfold Builtin.«iter»
  refine wpAny_bind (m := someArgs "iter" 1 2 _) (wpAny_of_eq (a := [Value.ref dK]) (by first | rfl | kernel_rfl!) ?_)
  show wpAny _ _ (pyIter (.ref dK) >>= _) _ _ _
  refine wpAny_bind (wpAny_pyIter_dict hs (hk.dictAt (H.get hm)) ?_)
  exact wpAny_pure ⟨_, rfl, h _ _ _ (.inl ⟨0, ⟨rfl, rfl⟩, rfl⟩) (H.push _) H.lt⟩
end
theorem strs_len9 {vs : List Value} {ns : List Str} (h : StrsAre vs ns) : vs.length = ns.length := strs_len' h
theorem lawE {w : World} {A : Around} {s : Shared} {g : Heap} {L fa cR : Addr} {cd : Value} {dR dK : Addr} {yr : List Value} {nR ep : Nat} {oT oK oL : Obj} {n times : Int} {tn tt tm : Tok} {R : List Str} {Q : Flow → Shared → Prop}
    (CE : CxE w A L g (envX "law" (scopeOf ((Mine.hd0.heap_1 w.params).lookup 111)) L fa cd [("row", cR), ("times", L + 1)]) []) (C : Cx w A L g 310 50)
    (H : At g L s.heap [("kept", .ref dK), ("many", .int (if 0 > n then 0 else n) tm), ("rising", .ref dR), ("wish", .int n tn)] [(dR, listOf yr.toArray nR), (L + 1, oT), (dK, oK), (94, oL), (101, tabObj #[])])
    (hoT : oT.data = .cell (some (.int times tt))) (hK : KdkAt (SK w) oK tkv ep) (hKs : (dK == sysModules) = false) (hyr : StrsAre yr R) (h1 : dR ≠ 101) (h2 : L + 1 ≠ 101) (h3 : dK ≠ 101)
    (ht1 : 1 ≤ times) (ht2 : times ≤ 52) (hn1 : -100 < n) (hn2 : n < 100) (hR : R.Perm tks) (hRs : R.Pairwise fun a b => kfT times a < kfT times b)
    (h : ∀ s' l' oM, (∃ ps, oM = tabObj ps) → Same s s' → At g L s'.heap l' [(94, oL), (101, oM)] → Q (.ret (.bool true)) s') :
    wpAny (MM w) A (execs ((bodyOf ((Mine.hd0.heap_1 w.params).lookup 111)).drop 8) (envX "law" (scopeOf ((Mine.hd0.heap_1 w.params).lookup 111)) L fa cd [("row", cR), ("times", L + 1)])) Q (fun _ _ => False) s := by
  have hcl := cLine_is
  have hAu := C.units
  revert CE
  rw [show (Mine.hd0.heap_1 w.params).lookup 111 = some _ from by k_is]
  intro CE
  have hRt : ∀ c ∈ R, PyData.canLay0 (.str c) = true := fun c hc => tks_lay c (hR.mem_iff.mp hc)
  have hcp : ∀ p ∈ [(dR, listOf yr.toArray nR), (L + 1, oT), (dK, oK), (94, oL)], p.1 ≠ 101 := by
    intro p hp
    simp only [List.mem_cons, List.not_mem_nil, or_false] at hp
    rcases hp with rfl | rfl | rfl | rfl
    · exact h1
    · exact h2
    · exact h3
    · exact (by decide : (94 : Addr) ≠ 101)
  have hkp : ∀ b o, g.get? b = some o → s.heap.get? b = some o := by
    obtain ⟨_, F, _⟩ := H.fr
    exact F.keep
  -- told = [_law_most(wish, TABLE, times), _law_most(wish, iter(kept), times)]
  refine wpAny_execs_cons (wpAny_Assign_Name (List_ (spliced_more (Call_ (ldK C H (by k_is) (callWith_K C.kin (by k_is) (spliced_more (ldA H rfl (spliced_more (ldK C H (by k_is) (spliced_more (ldX H rfl (.tail _ (.head _)) hoT (spliced_none ⟨C.kin.keeps hkp, ?_⟩)) rfl)) rfl)) rfl) rfl rfl)) rfl) rfl)) (by with_unfolding_all rfl))
  refine most_ok (rest := (101, tabObj #[]) :: [(dR, listOf yr.toArray nR), (L + 1, oT), (dK, oK), (94, oL)]) (tabs := [(101, tabObj #[])]) (base0 := [(dR, listOf yr.toArray nR), (L + 1, oT), (dK, oK), (94, oL)]) (dct := 83) (ep := 48) (R := R) C CE (H.new fun p hp => ?_) ⟨tokObj w, tkv, tok_dict w, tkv_keys, .inl (tok_at w)⟩ (by decide) (.inl ⟨rfl, rfl⟩) (.inl rfl) hcp (by omega) (by omega) ht1 ht2 hn1 hn2 hR hRs ?_
  · simp only [List.mem_cons, List.not_mem_nil, or_false] at hp ⊢
    rcases hp with hp | hp | hp | hp | hp <;> simp [hp]
  intro gc D1 h1' tk1 ys1 N1 tabs1 T1 hys1 hT1 H1 hltr1 hlt1
  replace H1 := H1.turn0 T1
  have hkp1 : ∀ b o, g.get? b = some o → h1'.get? b = some o := by
    obtain ⟨_, F, _⟩ := H1.fr
    exact F.keep
  have mem1 : ∀ {p}, p ∈ [(dR, listOf yr.toArray nR), (L + 1, oT), (dK, oK), (94, oL)] → p ∈ (D1, listOf ys1.toArray N1) :: (tabs1 ++ [(dR, listOf yr.toArray nR), (L + 1, oT), (dK, oK), (94, oL)]) := fun hp => .tail _ (List.mem_append_right _ hp)
  refine spliced_more (Call_ (ldK C H1 (by k_is) (callWith_K C.kin (by k_is) (spliced_more (ldA H1 rfl (spliced_more (Call_ (ldB C H1 (by k_is) (by boot_by_name) (by decide) (PyProof.Rows.callWith_builtin1 (spliced_more (ldA H1 rfl (spliced_none (iterD H1 (mem1 (.tail _ (.tail _ (.head _)))) hK hKs fun it oI h2' hIt H2 hlt2 => ?_))) rfl) rfl rfl)) rfl) rfl)) rfl) rfl rfl)) rfl) rfl
  have hkp2 : ∀ b o, g.get? b = some o → h2'.get? b = some o := by
    obtain ⟨_, F, _⟩ := H2.fr
    exact F.keep
  refine spliced_more (ldX H2 rfl (.tail _ (mem1 (.tail _ (.head _)))) hoT (spliced_none ⟨C.kin.keeps hkp2, ?_⟩)) rfl
  refine most_ok (rest := (it, oI) :: (tabs1 ++ ((D1, listOf ys1.toArray N1) :: [(dR, listOf yr.toArray nR), (L + 1, oT), (dK, oK), (94, oL)]))) (tabs := tabs1) (base0 := (D1, listOf ys1.toArray N1) :: [(dR, listOf yr.toArray nR), (L + 1, oT), (dK, oK), (94, oL)]) (dct := dK) (ep := ep) (R := R) C CE (H2.new fun p hp => ?_) ⟨oK, tkv, hK, tkv_keys, .inr (.tail _ (.tail _ (.tail _ (.head _))))⟩ hKs (.inr ⟨it, oI, rfl, rfl, hIt, fun p hp => Nat.ne_of_lt (hlt2 p ?_)⟩) hT1 (fun p hp => ?_) (by omega) (by omega) ht1 ht2 hn1 hn2 hR hRs ?_
  · simp only [List.mem_cons, List.mem_append] at hp ⊢
    rcases hp with hp | hp | hp | hp
    · exact .inl hp
    · exact .inr (.inr (.inl hp))
    · exact .inr (.inl hp)
    · exact .inr (.inr (.inr hp))
  · simp only [List.mem_cons, List.mem_append] at hp ⊢
    rcases hp with hp | hp | hp
    · exact .inr (.inl hp)
    · exact .inl hp
    · exact .inr (.inr hp)
  · rcases List.mem_cons.mp hp with rfl | hp
    · obtain ⟨oP, hoP⟩ := hT1.mem
      exact Nat.ne_of_gt (hlt1 _ (List.mem_append_left _ hoP))
    · exact hcp p hp
  intro gc2 D2 h3' tk2 ys2 N2 tabs2 T2 hys2 hT2 H3 hltr2 hlt2'
  replace H3 := H3.turn0 T2
  have mem3 : ∀ {p}, p ∈ ((D1, listOf ys1.toArray N1) :: [(dR, listOf yr.toArray nR), (L + 1, oT), (dK, oK), (94, oL)]) → p ∈ (D2, listOf ys2.toArray N2) :: (tabs2 ++ ((D1, listOf ys1.toArray N1) :: [(dR, listOf yr.toArray nR), (L + 1, oT), (dK, oK), (94, oL)])) := fun hp => .tail _ (List.mem_append_right _ hp)
  refine spliced_none (wpAny_newList ?_ (by size_fits))
  have H4 := H3.push { cls := .type "list", data := .seq #[.ref D1, .ref D2] }
  refine stA H4 fun h5 H5 => ?_
  -- the answer
  have nR' : yr.length = 48 := by rw [strs_len' hyr, hR.length_eq, tks_len]
  have hm0 : (0 : Int) ≤ (if 0 > n then 0 else n) := by split <;> omega
  have hmN : (if 0 > n then 0 else n).toNat = n.toNat := by split <;> omega
  refine wpAny_execs_cons (wpAny_Return_some (wpAny_And2 (wpAny_Compare1 (ldA H5 rfl (wpAny_BinOp (List_ (spliced_more (Subscript_ (Subscript_ (ldA H5 rfl ?_))) rfl)))) (by with_unfolding_all rfl))))
  refine wpAny_Slice (evalPart_none_step (evalPart_none_step (evalPart_some_step (wpAny_UnaryOp (wpAny_Constant_int (neg_int ?_))))))
  refine sliceA (lo := none) (hi := none) (st := some (-1)) (vl := .none) (vu := .none) H5 (.tail _ (mem3 (.tail _ (.head _)))) .none .none (.int (-1) _) (by intro q; cases q) (by omega) (fun D6 h6 H6 hD6 => ?_) (by with_unfolding_all rfl)
  rw [revAll] at H6
  refine wpAny_Slice (evalPart_none_step (evalPart_some_step (ldA H6 rfl (evalPart_none_step ?_))))
  refine sliceA (lo := none) (hi := some (if 0 > n then 0 else n)) (st := none) (vl := .none) (vk := .none) H6 (.head _) .none (.int _ _) .none (by intro q; cases q) (by rw [List.length_reverse]; omega) (fun D7 h7 H7 hD7 => ?_) (by with_unfolding_all rfl)
  rw [pick_upto _ hm0, hmN] at H7
  refine spliced_none (wpAny_newList ?_ (by size_fits))
  have H8 := H7.push { cls := .type "list", data := .seq #[.ref D7] }
  refine wpAny_Constant_int (mulTwo H8 (.head _) fun D9 h9 H9 hD9 => ?_)
  refine eqTold (ns := R.reverse.take n.toNat) H9 (.tail _ (.tail _ (.tail _ (.tail _ (.head _))))) (.head _) (.tail _ (.tail _ (.tail _ (.tail _ (.tail _ (mem3 (.head _))))))) (.tail _ (.tail _ (.tail _ (.tail _ (.tail _ (.head _)))))) (.tail _ (.tail _ (.head _))) hys1 hys2 (strs_take (strs_rev hyr) _) (fun c hc => hRt c (List.mem_reverse.mp (List.mem_of_mem_take hc))) (by omega) ?_
  refine wpAny_truthy_bool ?_
  rw [if_pos rfl]
  refine wpAny_Compare1 (ldK C H9 (by k_is) (ldA H9 rfl (eqDict C H9 (.tail _ (.tail _ (.tail _ (.tail _ (.tail _ (mem3 (.tail _ (.tail _ (.tail _ (.head _)))))))))) hK hKs (by omega) ?_))) (by with_unfolding_all rfl)
  obtain ⟨oM, hoM, hps⟩ : ∃ oM, (101, oM) ∈ tabs2 ∧ ∃ ps, oM = tabObj ps := by
    rcases hT2 with rfl | ⟨_, _, _, _, rfl, _⟩
    · exact ⟨_, .head _, _, rfl⟩
    · exact ⟨_, .head _, _, rfl⟩
  refine h _ _ oM hps ⟨rfl, rfl⟩ (H9.new fun p hp => ?_)
  simp only [List.mem_cons, List.not_mem_nil, or_false] at hp
  rcases hp with rfl | rfl
  · exact .tail _ (.tail _ (.tail _ (.tail _ (.tail _ (mem3 (.tail _ (.tail _ (.tail _ (.tail _ (.head _))))))))))
  · exact .tail _ (.tail _ (.tail _ (.tail _ (.tail _ (.tail _ (List.mem_append_left _ hoM))))))
end Mine
end
section
open PySem PySem.W PyProof.Rows PySem.Calls PyProof.Rows.LCg
namespace Mine
def forBody (o : List Stmt) : List Stmt := match o with
  | .For _ _ b _ _ :: _ => b
  | _ => []
theorem tab_ne {g : Heap} {L : Addr} {h : Heap} {l : List (Str × Value)} {news tabs : List (Addr × Obj)} {x : Addr} {oX : Obj} {q : Str} {li co : Nat} {vx : Array Value} (H : At g L h l news) (hi : (x, oX) ∈ news) (ht : ∀ p ∈ tabs, p ∈ news) (T : TabSt 94 q li co tabs) (hd : oX.data = .fields vx) (hx : ∀ q t, vx[1]? ≠ some (.str q t)) (h94 : (94 : Addr) ≠ x) : ∀ p ∈ tabs, p.1 ≠ x := by
  intro p hp e
  have hp' := H.get (ht p hp)
  rw [e, H.get hi] at hp'
  rcases T with rfl | ⟨c', oc, vs, t, rfl, hoc, hv⟩
  · simp only [List.mem_cons, List.not_mem_nil, or_false] at hp
    subst hp
    exact h94 e
  · simp only [List.mem_cons, List.not_mem_nil, or_false] at hp
    rcases hp with rfl | rfl
    · exact h94 e
    · have : oX = oc := Option.some.inj hp'
      subst this
      rw [hoc] at hd
      injection hd with hd
      rw [hd] at hv
      exact hx _ _ hv
theorem KIt.fields {o : Obj} {d : Addr} {ks rem : List Str} {ep : Nat} (k : KIt o d ks ep rem) : ∃ vx, o.data = .fields vx ∧ ∀ q t, vx[1]? ≠ some (.str q t) := by
  rcases k with ⟨i, ki, _⟩ | ⟨_, _, i, n, e', hd⟩
  · exact ⟨_, ki.2, fun q t => by simp⟩
  · exact ⟨_, hd, fun q t => by simp⟩
theorem lawTurn {w : World} {A : Around} {s : Shared} {g : Heap} {L fa cR : Addr} {cd : Value} {dR dK : Addr} {yr : List Value} {nR ep : Nat} {oT : Obj} {n times : Int} {tn tt tm : Tok} {R : List Str} {Q : Flow → Shared → Prop} {o : Option Obj} {b : List Stmt} {itv : Value} {dct : Addr} {rest tabs base0 : List (Addr × Obj)}
    (ho : o = (Mine.hd0.heap_1 w.params).lookup 111) (hb : b = forBody ((bodyOf o).drop 7))
    (CE : CxE w A L g (envX "law" (scopeOf o) L fa cd [("row", cR), ("times", L + 1)]) []) (C : Cx w A L g 310 50)
    (H : At g L s.heap [("signs", itv), ("kept", .ref dK), ("many", .int (if 0 > n then 0 else n) tm), ("rising", .ref dR), ("wish", .int n tn)] rest)
    (S : Src w base0 dct tks ep) (hsm : (dct == sysModules) = false) (hit : (itv = .ref dct ∧ rest = tabs ++ base0) ∨ ∃ it oI, itv = .ref it ∧ rest = (it, oI) :: (tabs ++ base0) ∧ KIt oI dct tks ep tks ∧ ∀ p ∈ tabs ++ base0, p.1 ≠ it)
    (hT : TabSt 94 (Str.ofString "_law_least.<locals>.<lambda>") 215 38 tabs) (hP : ∀ p ∈ base0, p.1 ≠ 94)
    (hmR : (dR, listOf yr.toArray nR) ∈ base0) (hmT : (L + 1, oT) ∈ base0)
    (hoT : oT.data = .cell (some (.int times tt))) (hyr : StrsAre yr R)
    (ht1 : 1 ≤ times) (ht2 : times ≤ 52) (hn1 : -100 < n) (hn2 : n < 100) (hR : R.Perm tks) (hRs : R.Pairwise fun a b => kfT times a < kfT times b)
    (h : ∀ s' tabs', TabSt 94 (Str.ofString "_law_least.<locals>.<lambda>") 215 38 tabs' → Same s s' → At g L s'.heap [("kept", .ref dK), ("many", .int (if 0 > n then 0 else n) tm), ("rising", .ref dR), ("wish", .int n tn)] (tabs' ++ base0) → Q .next s') :
    wpAny (MM w) A (execs b (envX "law" (scopeOf o) L fa cd [("row", cR), ("times", L + 1)])) Q (fun _ _ => False) s := by
  have hcl := cLine_is
  have hAu := C.units
  subst hb
  revert CE
  rw [ho, show (Mine.hd0.heap_1 w.params).lookup 111 = some _ from by k_is]
  intro CE
  have hRt : ∀ c ∈ R, PyData.canLay0 (.str c) = true := fun c hc => tks_lay c (hR.mem_iff.mp hc)
  have hsub : ∀ p ∈ base0, p ∈ rest := by
    intro p hp
    rcases hit with ⟨_, rfl⟩ | ⟨_, _, _, rfl, _⟩
    · exact List.mem_append_right _ hp
    · exact .tail _ (List.mem_append_right _ hp)
  have hkp : ∀ b o, g.get? b = some o → s.heap.get? b = some o := by
    obtain ⟨_, F, _⟩ := H.fr
    exact F.keep
  have nR' : yr.length = 48 := by rw [strs_len' hyr, hR.length_eq, tks_len]
  have hm0 : (0 : Int) ≤ (if 0 > n then 0 else n) := by split <;> omega
  have hmN : (if 0 > n then 0 else n).toNat = n.toNat := by split <;> omega
  refine wpAny_execs_cons (wpAny_If (wpAny_isTrue_Compare1 (Call_ (ldK C H (by k_is) (callWith_K C.kin (by k_is) (spliced_more (ldA H rfl (spliced_more (ldA H rfl (spliced_more (ldX H rfl (hsub _ hmT) hoT (spliced_none ⟨C.kin.keeps hkp, ?_⟩)) rfl)) rfl)) rfl) rfl rfl)) rfl)))
  refine least_ok (rest := rest) (tabs := tabs) (base0 := base0) (dct := dct) (ep := ep) (R := R) C CE H S hsm hit hT hP (by omega) (by omega) ht1 ht2 hn1 hn2 hR hRs ?_
  intro gc D1 h1' tk1 ys1 N1 tabs1 T1 hys1 hT1 H1 hltr1 hlt1
  replace H1 := H1.turn0 T1
  refine Subscript_ (ldA H1 rfl ?_)
  refine wpAny_Slice (evalPart_none_step (evalPart_some_step (ldA H1 rfl (evalPart_none_step ?_))))
  refine sliceA (lo := none) (hi := some (if 0 > n then 0 else n)) (st := none) (vl := .none) (vk := .none) H1 (.tail _ (List.mem_append_right _ hmR)) .none (.int _ _) .none (by intro q; cases q) (by omega) (fun D2 h2 H2 hD2 => ?_) (by with_unfolding_all rfl)
  rw [pick_upto _ hm0, hmN] at H2
  refine neStrs (ns := R.take n.toNat) H2 (.tail _ (.head _)) (.head _) hys1 (strs_take hyr _) (fun c hc => hRt c (List.mem_of_mem_take hc)) (by omega) ?_
  refine wpAny_truthy_bool ?_
  rw [if_neg Bool.false_ne_true]
  refine wpAny_execs_nil ?_
  refine wpAny_execs_nil (h _ tabs1 hT1 ⟨rfl, rfl⟩ (H2.sub (fun p hp => .tail _ hp) fun p hp => .tail _ (.tail _ hp)))
theorem lawD {w : World} {A : Around} {s : Shared} {g : Heap} {L fa cR : Addr} {cd : Value} {dR dK : Addr} {yr : List Value} {nR ep : Nat} {oT oK : Obj} {n times : Int} {tn tt tm : Tok} {R : List Str} {Q : Flow → Shared → Prop}
    (CE : CxE w A L g (envX "law" (scopeOf ((Mine.hd0.heap_1 w.params).lookup 111)) L fa cd [("row", cR), ("times", L + 1)]) []) (C : Cx w A L g 310 50)
    (H : At g L s.heap [("kept", .ref dK), ("many", .int (if 0 > n then 0 else n) tm), ("rising", .ref dR), ("wish", .int n tn)] [(dR, listOf yr.toArray nR), (L + 1, oT), (dK, oK), (94, tabObj #[]), (101, tabObj #[])])
    (hoT : oT.data = .cell (some (.int times tt))) (hK : KdkAt (SK w) oK tkv ep) (hKs : (dK == sysModules) = false) (hyr : StrsAre yr R) (h1 : @LT.lt Nat _ 101 dR) (h2 : @LT.lt Nat _ 101 L) (h3 : @LT.lt Nat _ 101 dK)
    (ht1 : 1 ≤ times) (ht2 : times ≤ 52) (hn1 : -100 < n) (hn2 : n < 100) (hR : R.Perm tks) (hRs : R.Pairwise fun a b => kfT times a < kfT times b)
    (h : ∀ s' l' oL oM, (∃ ps, oL = tabObj ps) → (∃ ps, oM = tabObj ps) → Same s s' → At g L s'.heap l' [(94, oL), (101, oM)] → Q (.ret (.bool true)) s') :
    wpAny (MM w) A (execs ((bodyOf ((Mine.hd0.heap_1 w.params).lookup 111)).drop 7) (envX "law" (scopeOf ((Mine.hd0.heap_1 w.params).lookup 111)) L fa cd [("row", cR), ("times", L + 1)])) Q (fun _ _ => False) s := by
  have CE0 := CE
  have tail := fun (s' : Shared) (hS0 : Same s s') (oL : Obj) (hps : ∃ ps, oL = tabObj ps) (H' : At g L s'.heap [("kept", .ref dK), ("many", .int (if 0 > n then 0 else n) tm), ("rising", .ref dR), ("wish", .int n tn)] [(dR, listOf yr.toArray nR), (L + 1, oT), (dK, oK), (94, oL), (101, tabObj #[])]) =>
    lawE (Q := Q) CE C H' hoT hK hKs hyr (fun e => by have e' : @Eq Nat dR 101 := e; omega) (fun e => by have e' : @Eq Nat (L + 1) 101 := e; omega) (fun e => by have e' : @Eq Nat dK 101 := e; omega) ht1 ht2 hn1 hn2 hR hRs (fun s'' l' oM hM hS H'' => h s'' l' oL oM hps hM (hS0.trans hS) H'')
  revert CE tail
  have e := (show (Mine.hd0.heap_1 w.params).lookup 111 = some _ from by k_is)
  rw [e]
  intro CE tail
  -- what the ledger holds besides the table of the code
  have hbase : ∀ p ∈ [(dR, listOf yr.toArray nR), (L + 1, oT), (dK, oK), (101, tabObj #[])], p.1 ≠ (94 : Addr) := by
    intro p hp
    simp only [List.mem_cons, List.not_mem_nil, or_false] at hp
    rcases hp with rfl | rfl | rfl | rfl
    · exact fun e => by have e' : @Eq Nat dR 94 := e; omega
    · exact fun e => by have e' : @Eq Nat (L + 1) 94 := e; omega
    · exact fun e => by have e' : @Eq Nat dK 94 := e; omega
    · exact (by decide : (101 : Addr) ≠ 94)
  refine wpAny_execs_cons (forA ?_)
  refine Tuple_ (spliced_more (ldK C H (by k_is) (spliced_more (Call_ (ldB C H (by k_is) (by boot_by_name) (by decide) (PyProof.Rows.callWith_builtin1 (spliced_more (ldA H rfl (spliced_none (iterD H (.tail _ (.tail _ (.head _))) hK hKs fun it oI h2' hIt H2 hlt2 => ?_))) rfl) rfl rfl)) rfl) rfl)) rfl)
  refine spliced_none (wpAny_newTuple ?_)
  have H3 := H2.push { cls := .type "tuple", data := .seq [Value.ref 83, Value.ref it].toArray }
  have hlt3 := H2.lt
  generalize htup : h2'.objs.size = tup at H3 hlt3
  refine iterT (vs := [Value.ref 83, Value.ref it]) (n := 0) H3 (.head _) fun ti h4 H4 hlt4 => ?_
  have h94it : (94 : Addr) ≠ it := Nat.ne_of_lt (hlt2 (94, tabObj #[]) (.tail _ (.tail _ (.tail _ (.head _)))))
  have h94tup : (94 : Addr) ≠ tup := Nat.ne_of_lt (hlt3 (94, tabObj #[]) (.tail _ (.tail _ (.tail _ (.tail _ (.head _))))))
  have h94ti : (94 : Addr) ≠ ti := Nat.ne_of_lt (hlt4 (94, tabObj #[]) (.tail _ (.tail _ (.tail _ (.tail _ (.tail _ (.head _)))))))
  have hne4 : ∀ p ∈ (tup, ({ cls := .type "tuple", data := .seq [Value.ref 83, Value.ref it].toArray } : Obj)) :: (it, oI) :: [(dR, listOf yr.toArray nR), (L + 1, oT), (dK, oK), (94, tabObj #[]), (101, tabObj #[])], p.1 ≠ ti := fun p hp => Nat.ne_of_lt (hlt4 p hp)
  have hititi : it ≠ ti := hne4 _ (.tail _ (.head _))
  have httup : it ≠ tup := Nat.ne_of_lt (hlt3 _ (.head _))
  have hbit : ∀ p ∈ [(dR, listOf yr.toArray nR), (L + 1, oT), (dK, oK), (101, tabObj #[])], p.1 ≠ it ∧ p.1 ≠ ti := by
    intro p hp
    have hp' : p ∈ [(dR, listOf yr.toArray nR), (L + 1, oT), (dK, oK), (94, tabObj #[]), (101, tabObj #[])] := by
      simp only [List.mem_cons, List.not_mem_nil, or_false] at hp ⊢
      rcases hp with hp | hp | hp | hp <;> simp [hp]
    exact ⟨Nat.ne_of_lt (hlt2 p hp'), hne4 p (.tail _ (.tail _ hp'))⟩
  refine ⟨fun k s' => ∃ (i : Nat) (oi : Obj) (tabs its : List (Addr × Obj)), Same s s' ∧ k + i = 2 ∧ (oi.cls = .type "tuple_iterator" ∧ oi.data = .fields #[.ref tup, .int i 0]) ∧ TabSt 94 (Str.ofString "_law_least.<locals>.<lambda>") 215 38 tabs ∧ (i ≤ 1 → its = [(it, oI)]) ∧ (∀ p ∈ its, p = (it, oI)) ∧
    At g L s'.heap [("kept", .ref dK), ("many", .int (if 0 > n then 0 else n) tm), ("rising", .ref dR), ("wish", .int n tn)] ((ti, oi) :: (tup, { cls := .type "tuple", data := .seq [Value.ref 83, Value.ref it].toArray }) :: (its ++ (tabs ++ [(dR, listOf yr.toArray nR), (L + 1, oT), (dK, oK), (101, tabObj #[])]))), 2,
    ⟨0, tiObj tup 0, [(94, tabObj #[])], [(it, oI)], ⟨rfl, rfl⟩, rfl, ⟨rfl, rfl⟩, .inl rfl, fun _ => rfl, fun p hp => List.mem_singleton.mp hp, H4.new fun p hp => ?_⟩, ?_⟩
  · simp only [List.mem_cons, List.mem_append, List.not_mem_nil, or_false, false_or] at hp ⊢
    rcases hp with hp | hp | hp | hp | hp | hp | hp | hp <;> simp [hp]
  rintro k s' ⟨i, oi, tabs, its, hS, hki, hoi, hT, hits, hall, H5⟩
  obtain ⟨vI, hvI, hvx⟩ := hIt.fields
  have htab : ∀ p ∈ tabs, p.1 ≠ ti := tab_ne H5 (.head _) (fun p hp => .tail _ (.tail _ (List.mem_append_right _ (List.mem_append_left _ hp)))) hT hoi.2 (fun q t => by simp) h94ti
  have hd5 : ∀ p ∈ (tup, ({ cls := .type "tuple", data := .seq [Value.ref 83, Value.ref it].toArray } : Obj)) :: (its ++ (tabs ++ [(dR, listOf yr.toArray nR), (L + 1, oT), (dK, oK), (101, tabObj #[])])), p.1 ≠ ti := by
    intro p hp
    rcases List.mem_cons.mp hp with rfl | hp
    · exact hne4 _ (.head _)
    · rcases List.mem_append.mp hp with hp | hp
      · rw [hall p hp]; exact hititi
      · rcases List.mem_append.mp hp with hp | hp
        · exact htab p hp
        · exact (hbit p hp).2
  have hP' : ∀ oi', ∀ p ∈ (ti, oi') :: (tup, ({ cls := .type "tuple", data := .seq [Value.ref 83, Value.ref it].toArray } : Obj)) :: [(dR, listOf yr.toArray nR), (L + 1, oT), (dK, oK), (101, tabObj #[])], p.1 ≠ (94 : Addr) := by
    intro oi' p hp
    rcases List.mem_cons.mp hp with rfl | hp
    · exact h94ti.symm
    · rcases List.mem_cons.mp hp with rfl | hp
      · exact h94tup.symm
      · exact hbase p hp
  match i, hki, hoi, hits, H5 with
  | 0, hki, hoi, hits, H5 =>
    obtain rfl := hits (by omega)
    refine nextT (vs := [Value.ref 83, Value.ref it]) (n := 0) H5 hoi hd5 (.head _) rfl fun h6 oi' hoi' H6 => ?_
    dsimp only
    refine goN (wpAny_assign_Name (stA H6 fun h7 H7 => ?_))
    dsimp only
    refine lawTurn (itv := .ref 83) (dct := 83) (ep := 48) (tabs := tabs) (base0 := (it, oI) :: (ti, oi') :: (tup, { cls := .type "tuple", data := .seq [Value.ref 83, Value.ref it].toArray }) :: [(dR, listOf yr.toArray nR), (L + 1, oT), (dK, oK), (101, tabObj #[])]) (dK := dK) (dR := dR) (yr := yr) (nR := nR) (oT := oT) (n := n) (times := times) (tm := tm) (tn := tn) (tt := tt) (R := R) e.symm rfl CE C (At.new H7 fun p hp => ?_) ⟨tokObj w, tkv, tok_dict w, tkv_keys, .inl (tok_at w)⟩ (by decide) (.inl ⟨rfl, rfl⟩) hT (fun p hp => ?_) (.tail _ (.tail _ (.tail _ (.head _)))) (.tail _ (.tail _ (.tail _ (.tail _ (.head _))))) hoT hyr ht1 ht2 hn1 hn2 hR hRs fun s'' tabs' hT' hS8 H8 => ⟨1, by omega, 1, oi', tabs', [(it, oI)], hS.trans ⟨hS8.1, hS8.2⟩, rfl, hoi', hT', fun _ => rfl, fun p hp => List.mem_singleton.mp hp, H8.new fun p hp => ?_⟩
    · simp only [List.mem_cons, List.mem_append, List.not_mem_nil, or_false] at hp ⊢
      rcases hp with hp | hp | hp | hp | hp | hp | hp | hp <;> simp [hp]
    · rcases List.mem_cons.mp hp with rfl | hp
      · exact h94it.symm
      · exact hP' oi' p hp
    · simp only [List.mem_cons, List.mem_append, List.not_mem_nil, or_false] at hp ⊢
      rcases hp with hp | hp | hp | hp | hp | hp | hp | hp <;> simp [hp]
  | 1, hki, hoi, hits, H5 =>
    obtain rfl := hits (by omega)
    refine nextT (vs := [Value.ref 83, Value.ref it]) (n := 0) H5 hoi hd5 (.head _) rfl fun h6 oi' hoi' H6 => ?_
    dsimp only
    refine goN (wpAny_assign_Name (stA H6 fun h7 H7 => ?_))
    dsimp only
    have H7r : At g L h7 [("signs", .ref it), ("kept", .ref dK), ("many", .int (if 0 > n then 0 else n) tm), ("rising", .ref dR), ("wish", .int n tn)] ((it, oI) :: (tabs ++ ((ti, oi') :: (tup, { cls := .type "tuple", data := .seq [Value.ref 83, Value.ref it].toArray }) :: [(dR, listOf yr.toArray nR), (L + 1, oT), (dK, oK), (101, tabObj #[])]))) := At.new H7 fun p hp => by
      simp only [List.mem_cons, List.mem_append, List.not_mem_nil, or_false] at hp ⊢
      rcases hp with hp | hp | hp | hp | hp | hp | hp | hp <;> simp [hp]
    have htit : ∀ p ∈ tabs, p.1 ≠ it := tab_ne H7r (.head _) (fun p hp => .tail _ (List.mem_append_left _ hp)) hT hvI hvx h94it
    refine lawTurn (itv := .ref it) (dct := dK) (ep := ep) (tabs := tabs) (rest := (it, oI) :: (tabs ++ ((ti, oi') :: (tup, { cls := .type "tuple", data := .seq [Value.ref 83, Value.ref it].toArray }) :: [(dR, listOf yr.toArray nR), (L + 1, oT), (dK, oK), (101, tabObj #[])]))) (base0 := (ti, oi') :: (tup, { cls := .type "tuple", data := .seq [Value.ref 83, Value.ref it].toArray }) :: [(dR, listOf yr.toArray nR), (L + 1, oT), (dK, oK), (101, tabObj #[])]) (dK := dK) (dR := dR) (yr := yr) (nR := nR) (oT := oT) (n := n) (times := times) (tm := tm) (tn := tn) (tt := tt) (R := R) e.symm rfl CE C H7r ⟨oK, tkv, hK, tkv_keys, .inr (.tail _ (.tail _ (.tail _ (.tail _ (.head _)))))⟩ hKs (.inr ⟨it, oI, rfl, rfl, hIt, fun p hp => ?_⟩) hT (hP' oi') (.tail _ (.tail _ (.head _))) (.tail _ (.tail _ (.tail _ (.head _)))) hoT hyr ht1 ht2 hn1 hn2 hR hRs fun s'' tabs' hT' hS8 H8 => ⟨0, by omega, 2, oi', tabs', [], hS.trans ⟨hS8.1, hS8.2⟩, rfl, hoi', hT', fun q => absurd q (by omega), (fun p hp => nomatch hp), H8.new fun p hp => ?_⟩
    · rcases List.mem_append.mp hp with hp | hp
      · exact htit p hp
      · rcases List.mem_cons.mp hp with rfl | hp
        · exact hititi.symm
        · rcases List.mem_cons.mp hp with rfl | hp
          · exact httup.symm
          · exact (hbit p hp).1
    · simp only [List.mem_cons, List.mem_append, List.not_mem_nil, or_false, false_or] at hp ⊢
      rcases hp with hp | hp | hp | hp | hp | hp | hp <;> simp [hp]
  | 2, hki, hoi, hits, H5 =>
    refine nextTend (vs := [Value.ref 83, Value.ref it]) (n := 0) C.handled H5 hoi hd5 (.head _) rfl fun h6 H6 => ?_
    dsimp only
    obtain ⟨oL, hoL, hps⟩ : ∃ oL, (94, oL) ∈ tabs ∧ ∃ ps, oL = tabObj ps := by
      rcases hT with rfl | ⟨_, _, _, _, rfl, _⟩
      · exact ⟨_, .head _, _, rfl⟩
      · exact ⟨_, .head _, _, rfl⟩
    refine tail _ ⟨hS.1, hS.2⟩ oL hps (H6.new fun p hp => ?_)
    simp only [List.mem_cons, List.mem_append, List.not_mem_nil, or_false] at hp ⊢
    rcases hp with hp | hp | hp | hp | hp
    · simp [hp]
    · simp [hp]
    · simp [hp]
    · exact .inr (.inr (.inl (hp ▸ hoL)))
    · simp [hp]
  | i + 3, hki, _, _, _ => exact absurd hki (by omega)
end Mine
end
section
open PySem PySem.W PyProof.Rows PySem.Calls PyProof.Rows.LCg
namespace Mine
/-- pairs of the ledger: address and sign -/
structure Tab2 (kf : Str → Int) (tups : List (Addr × Obj)) (T : List (Addr × Str)) : Prop where
  tup : ∀ p ∈ T, ∃ t v, (p.1, tupOf [.int (kf p.2) t, .str p.2 v]) ∈ tups
  nd : (T.map (·.1)).Nodup
theorem Tab2.nil {kf : Str → Int} : Tab2 kf [] [] := ⟨fun _ h => (nomatch h), .nil⟩
theorem Tab2.add {kf : Str → Int} {tups : List (Addr × Obj)} {T : List (Addr × Str)} {a : Addr} {c : Str} {t v : Tok} (X : Tab2 kf tups T) (hf : ∀ p ∈ tups, p.1 ≠ a) : Tab2 kf ((a, tupOf [.int (kf c) t, .str c v]) :: tups) (T ++ [(a, c)]) := by
  refine ⟨fun p hp => ?_, ?_⟩
  · rcases List.mem_append.mp hp with hp | hp
    · obtain ⟨t, v, h⟩ := X.tup p hp
      exact ⟨t, v, .tail _ h⟩
    · rw [List.mem_singleton.mp hp]
      exact ⟨_, _, .head _⟩
  · rw [List.map_append, List.nodup_append]
    refine ⟨X.nd, by simp, ?_⟩
    intro x hx y hy
    simp only [List.map_cons, List.map_nil, List.mem_singleton] at hy
    obtain ⟨p, hp, rfl⟩ := List.mem_map.mp hx
    obtain ⟨t, v, ho⟩ := X.tup p hp
    rw [hy]
    exact hf _ ho
theorem strs_at : ∀ {vs : List Value} {ns : List Str}, StrsAre vs ns → ∀ {i : Nat} {c : Str}, ns[i]? = some c → ∃ t, vs[i]? = some (.str c t)
  | _, _, .nil, i, c, h => by simp at h
  | _, _, .cons n t r, 0, c, h => by
    simp at h
    subst h
    exact ⟨t, rfl⟩
  | _, _, .cons n t r, i + 1, c, h => by
    rw [List.getElem?_cons_succ] at h ⊢
    exact strs_at r h
section
variable {w : World} {A : Around} {E : Value → Shared → Prop} {s : Shared} {g : Heap} {L : Addr} {l : List (Str × Value)} {news : List (Addr × Obj)} {d u : Nat}
theorem modA {a b : Int} {t v : Tok} {Q : Value → Shared → Prop} (hb : b ≠ 0) (h : ∀ t' tk, Q (.int (a.fmod b) t') { s with toks := tk }) : wpAny (MM w) A (binaryOp .Mod (.int a t) (.int b v)) Q E s := mod_int hb (h _ _)
theorem pairComp {iter : PySem.Expr} {scope cs : Scope} {cn : Str} {ccd : Value} {ea cT cR dW : Addr} {oT oR : Obj} {ws : List Value} {nW : Nat} {rs : List Str} {times : Int} {tt : Tok} {kf : Str → Int} {p1 p2 p3 p4 p5 p6 p7 p8 p9 p10 p11 p12 p13 : Pos} {n1 : Nat} {Q : Value → Shared → Prop}
    (C : Cx w A L g d u) (hmT : (cT, oT) ∈ news) (hoT : oT.data = .cell (some (.int times tt))) (hmR : (cR, oR) ∈ news) (hoR : oR.data = .cell (some (.ref dW))) (hmW : (dW, listOf ws.toArray nW) ∈ news) (hws : StrsAre ws rs) (hlen : rs.length < 100) (ht1 : 0 ≤ times) (ht2 : times ≤ 60)
    (hkf : ∀ (i : Nat) c, rs[i]? = some c → ((7 + (i : Int)) * times).fmod 53 = kf c)
    (hclos : closureFor scope (envX cn cs L ea ccd [(Str.ofString "row", cR), (Str.ofString "times", cT)]) = pure [(Str.ofString "times", cT), (Str.ofString "row", cR)]) (hkind : scope.kind = .function) (hsc : scope.names = [(Str.ofString ".0", .local), (Str.ofString "k", .local), (Str.ofString "row", .free), (Str.ofString "times", .free)]) (hke : cs.kind = .function) (hkT : cs.names.lookup (Str.ofString "times") = some .cell) (hkR : cs.names.lookup (Str.ofString "row") = some .cell)
    (hit : ∀ (Q' : Value → Shared → Prop), (∀ r h' t u v tk, At g L h' l ((r, raObj 0 rs.length 1 t u v) :: news) → (∀ p ∈ news, @LT.lt Nat _ p.1 r) → Q' (.ref r) { s with heap := h', toks := tk }) → wpAny (MM w) A (eval iter (envX cn cs L ea ccd [(Str.ofString "row", cR), (Str.ofString "times", cT)])) Q' (fun _ _ => False) s)
    (h : ∀ D h' tk T tups, Tab2 kf tups T → T.map (·.2) = rs → At g L h' l ((D, lst (refs T)) :: (tups ++ news)) → (∀ p ∈ tups, @LT.lt Nat _ D p.1) → (∀ p ∈ news, @LT.lt Nat _ p.1 D) → Q (.ref D) { s with heap := h', toks := tk })
    (hs : ∀ x, foldedSetIterable iter (envX cn cs L ea ccd [(Str.ofString "row", cR), (Str.ofString "times", cT)]) x = pure x := by intro _; rfl) :
    wpAny (MM w) A (eval (.ListComp (.Tuple [.BinOp (.BinOp (.BinOp (.Constant (.int 7) 0 p1) .Add (.Name (Str.ofString "k") p2) p3) .Mult (.Name (Str.ofString "times") p4) p5) .Mod (.Constant (.int 53) 0 p6) p7, .Subscript (.Name (Str.ofString "row") p8) (.Name (Str.ofString "k") p9) p10] n1 p11) [⟨.Name (Str.ofString "k") p12, iter, [], 0⟩] scope p13) (envX cn cs L ea ccd [(Str.ofString "row", cR), (Str.ofString "times", cT)])) Q E s := by
  have hh := C.handled
  generalize henv : envX cn cs L ea ccd [(Str.ofString "row", cR), (Str.ofString "times", cT)] = env at *
  have hke' : env.scope.kind = .function := by rw [← henv]; exact hke
  have hkT' : env.kindOf (Str.ofString "times") = some .cell := by rw [← henv]; exact hkT
  have hkR' : env.kindOf (Str.ofString "row") = some .cell := by rw [← henv]; exact hkR
  have nl : scope.names.lookup (Str.ofString "k") = some .local := by rw [hsc]; decide
  have hck : ∀ Cc, (compEnvC scope [(Str.ofString "times", cT), (Str.ofString "row", cR)] Cc env).kindOf (Str.ofString "row") = some .cell ∧ (compEnvC scope [(Str.ofString "times", cT), (Str.ofString "row", cR)] Cc env).kindOf (Str.ofString "times") = some .cell := fun Cc => by
    show (relabel scope env).names.lookup (Str.ofString "row") = _ ∧ (relabel scope env).names.lookup (Str.ofString "times") = _
    unfold relabel
    rw [hsc]
    simp only [List.map_cons, List.map_nil, hke', hkT', hkR', show (NameKind.local == NameKind.free) = false from rfl, Bool.false_and, Bool.false_eq_true, if_false, show (NameKind.free == NameKind.free && ScopeKind.function == ScopeKind.function && some NameKind.cell == some NameKind.cell) = true from rfl, if_true]
    decide
  refine compA (g := g) (L := L) (l := l) hclos (by rw [hsc]; decide) hkind (by rw [hsc]; decide) (hit _ fun r h1 t1 u1 v1 tk1 H1 hlt1 => ?_) hs
  have esz : Builtin.Range.rangeSize 0 (rs.length : Int) 1 = rs.length := by rw [rsz1]; split <;> omega
  refine wpAny_pyIter_range (H1.get (.head _)) (small1 (by omega) (by omega)) ?_
  have H2 := H1.push (riObj 0 (Builtin.Range.rangeSize 0 (rs.length : Int) 1) 1)
  have hlt2 := H1.lt
  rw [esz] at H2 ⊢
  generalize hit0 : h1.objs.size = it at H2 hlt2
  refine ⟨_, fun n ys nw => ∃ tups T, nw = (it, riObj ys.length ((rs.length : Int) - ys.length) 1) :: (tups ++ ((r, raObj 0 rs.length 1 t1 u1 v1) :: news)) ∧ Tab2 kf tups T ∧ ys = refs T ∧ T.map (·.2) = rs.take ys.length ∧ ys.length ≤ rs.length ∧ n = rs.length + 1 - ys.length ∧ (∀ p ∈ tups, @LT.lt Nat _ (h1.push (riObj 0 (rs.length : Int) 1)).objs.size p.1), rs.length + 1, H2,
    ⟨[], [], by simp, Tab2.nil, rfl, by simp, Nat.zero_le _, rfl, fun _ h => (nomatch h)⟩, fun s' Q' E' H' q' => wpAny_pyIter_rangeiter (H'.get (.head _)) q', ?_⟩
  intro n ys nw Cc oC lc D h' tk' hDe hltD hDC hP hCT H' off
  obtain ⟨tups, T, rfl, X, hys, hes, hyl, hn, htl⟩ := hP
  have hDC' : @LT.lt Nat _ D Cc := hDC
  have hDit : @LT.lt Nat _ it D := hltD _ (.head _)
  have hDr : ∀ p ∈ (r, raObj 0 rs.length 1 t1 u1 v1) :: news, @LT.lt Nat _ p.1 D := fun p hp => hltD p (.tail _ hp)
  have hitn : ∀ p ∈ (r, raObj 0 rs.length 1 t1 u1 v1) :: news, p.1 ≠ it := fun p hp => Nat.ne_of_lt (hlt2 p hp)
  have hoffit : ∀ oC', ∀ p ∈ (Cc, oC') :: (D, lst ys) :: (tups ++ ((r, raObj 0 rs.length 1 t1 u1 v1) :: news)), p.1 ≠ it := fun oC' p hp => by
    rcases List.mem_cons.mp hp with rfl | hp
    · exact Nat.ne_of_gt (show @LT.lt Nat _ it Cc by omega)
    rcases List.mem_cons.mp hp with rfl | hp
    · exact Nat.ne_of_gt hDit
    rcases List.mem_append.mp hp with hp | hp
    · have := htl p hp
      rw [← hDe] at this
      exact Nat.ne_of_gt (show @LT.lt Nat _ it p.1 by omega)
    · exact hitn p hp
  have H3 : At g L h' l ((it, riObj ys.length ((rs.length : Int) - ys.length) 1) :: (Cc, oC) :: (D, lst ys) :: (tups ++ ((r, raObj 0 rs.length 1 t1 u1 v1) :: news))) := H'.new fun p hp => by
    simp only [List.mem_cons] at hp ⊢
    rcases hp with hp | hp | hp | hp
    · exact .inr (.inr (.inl hp))
    · exact .inl hp
    · exact .inr (.inl hp)
    · exact .inr (.inr (.inr hp))
  by_cases hend : ys.length = rs.length
  · refine nextRend hh H3 (hoffit oC) (by omega) fun h4 H4 => ?_
    rw [hend, List.take_length] at hes
    refine ⟨h4, _, tups ++ news, rfl, H4.new fun p hp => ?_, fun p hp => ?_, fun h5 H5 => h D h5 _ T tups X hes (hys ▸ H5) (fun p hp => ?_) fun p hp => hDr p (.tail _ hp)⟩
    · simp only [List.mem_cons, List.mem_append] at hp ⊢
      rcases hp with hp | hp | hp | hp
      · exact .inl hp
      · exact .inr (.inl hp)
      · exact .inr (.inr (.inl hp))
      · exact .inr (.inr (.inr (.inr hp)))
    · refine off p (.tail _ ?_)
      rcases List.mem_append.mp hp with hp | hp
      · exact List.mem_append_left _ hp
      · exact List.mem_append_right _ (.tail _ hp)
    · rw [hDe]; exact htl p hp
  · have hlt : ys.length < rs.length := by omega
    obtain ⟨c, hc⟩ : ∃ c, rs[ys.length]? = some c := ⟨_, List.getElem?_eq_getElem hlt⟩
    refine nextR H3 (hoffit oC) (by omega) fun h4 H4 => ?_
    dsimp only
    refine goN ?_
    have H4' : At g L h4 l ([] ++ (Cc, oC) :: (D, lst ys) :: (it, riObj ((ys.length : Int) + 1) ((rs.length : Int) - ys.length - 1) 1) :: (tups ++ ((r, raObj 0 rs.length 1 t1 u1 v1) :: news))) := H4.new fun p hp => by
      simp only [List.mem_cons, List.nil_append] at hp ⊢
      rcases hp with hp | hp | hp | hp
      · exact .inr (.inl hp)
      · exact .inr (.inr (.inl hp))
      · exact .inl hp
      · exact .inr (.inr (.inr hp))
    refine wpAny_assign_Name (stC [] H4' (fun _ q => nomatch q) (fun p hp => ?_) hCT (fun h5 oC5 hC5 H5 => ?_) hkind nl)
    · rcases List.mem_cons.mp hp with rfl | hp
      · exact Nat.ne_of_lt hDC'
      rcases List.mem_cons.mp hp with rfl | hp
      · exact Nat.ne_of_lt (show @LT.lt Nat _ it Cc by omega)
      · exact (off p (.tail _ hp)).1
    have lk : (put lc (Str.ofString "k") (.int (ys.length : Int) tk')).lookup (Str.ofString "k") = some (.int (ys.length : Int) tk') := by
      unfold put; simp
    have inN : ∀ p ∈ news, p ∈ ([] ++ (Cc, oC5) :: (D, lst ys) :: (it, riObj ((ys.length : Int) + 1) ((rs.length : Int) - ys.length - 1) 1) :: (tups ++ ((r, raObj 0 rs.length 1 t1 u1 v1) :: news)) : List (Addr × Obj)) := fun p hp =>
      .tail _ (.tail _ (.tail _ (List.mem_append_right _ (.tail _ hp))))
    obtain ⟨tc, htc⟩ : ∃ t, ws[ys.length]? = some (.str c t) := strs_at hws hc
    refine Tuple_ (spliced_more (wpAny_BinOp (wpAny_BinOp (wpAny_BinOp (wpAny_Constant_int (ldC H5 (.head _) hC5 lk (add_int ?_) hkind nl))))) rfl)
    refine ldCell (c := cT) H5 rfl (inN _ hmT) hoT (mul_int (wpAny_Constant_int (modA (by decide) fun t9 tk9 => ?_)) (IntMulOk.of_right (bits60 (by omega) (by omega)))) hkind (hck Cc).2
    rw [hkf _ c hc]
    refine spliced_more (Subscript_ (ldCell (c := cR) H5 rfl (inN _ hmR) hoR (ldC H5 (.head _) hC5 lk (itemA H5 (inN _ hmW) (by omega) (by omega) (v := .str c tc) (by rw [Int.toNat_natCast]; exact htc) ?_) hkind nl) hkind (hck Cc).1)) rfl
    refine spliced_none (wpAny_newObj_type ?_ (by size_fits))
    have H6 := H5.push (tupOf [.int (kf c) t9, .str c tc])
    have lt5 := H5.lt
    have hC6 : @LT.lt Nat _ Cc h5.objs.size := lt5 _ (.head _)
    have hes' : (T ++ [(h5.objs.size, c)]).map (·.2) = rs.take (ys.length + 1) := by
      rw [List.map_append, hes, List.take_add_one, hc]
      rfl
    have hlen' : (ys ++ [Value.ref h5.objs.size]).length = ys.length + 1 := by simp
    refine ⟨_, _, oC5, _, (it, riObj ((ys ++ [Value.ref h5.objs.size]).length : Nat) ((rs.length : Int) - ((ys ++ [Value.ref h5.objs.size]).length : Nat)) 1) :: (((h5.objs.size, tupOf [.int (kf c) t9, .str c tc]) :: tups) ++ ((r, raObj 0 rs.length 1 t1 u1 v1) :: news)), n - 1, rfl, by omega, by omega, hC5, H6.new fun p hp => ?_, fun p hp => ?_, ⟨(h5.objs.size, tupOf [.int (kf c) t9, .str c tc]) :: tups, T ++ [(h5.objs.size, c)], rfl, X.add fun p hp => Nat.ne_of_lt (lt5 p ?_), ?_, ?_, ?_, ?_, fun p hp => ?_⟩⟩
    · rw [hlen'] at hp
      simp only [List.mem_cons, List.cons_append, List.nil_append] at hp ⊢
      rcases hp with hp | hp | hp | hp | hp
      · exact .inr (.inl hp)
      · exact .inr (.inr (.inl hp))
      · refine .inr (.inr (.inr (.inl ?_)))
        rw [hp]
        congr 2
        omega
      · exact .inl hp
      · exact .inr (.inr (.inr (.inr hp)))
    · simp only [List.mem_cons, List.cons_append] at hp
      rcases hp with rfl | rfl | hp
      · exact ⟨Nat.ne_of_lt (show @LT.lt Nat _ it Cc by omega), Nat.ne_of_lt hDit⟩
      · exact ⟨Nat.ne_of_gt hC6, Nat.ne_of_gt (show @LT.lt Nat _ D h5.objs.size by omega)⟩
      · exact off p (.tail _ hp)
    · exact .tail _ (.tail _ (.tail _ (List.mem_append_left _ hp)))
    · rw [hys]; simp [refs]
    · rw [hlen']; exact hes'
    · rw [hlen']; omega
    · rw [hlen']; omega
    · rcases List.mem_cons.mp hp with rfl | hp
      · rw [← hDe]
        show @LT.lt Nat _ D h5.objs.size
        omega
      · exact htl p hp
end
theorem lawC {w : World} {A : Around} {s : Shared} {g : Heap} {L fa cR : Addr} {cd : Value} {dR : Addr} {yr : List Value} {nR : Nat} {oT : Obj} {n times : Int} {tn tt : Tok} {R : List Str} {Q : Flow → Shared → Prop}
    (CE : CxE w A L g (envX "law" (scopeOf ((Mine.hd0.heap_1 w.params).lookup 111)) L fa cd [("row", cR), ("times", L + 1)]) []) (C : Cx w A L g 310 50)
    (H : At g L s.heap [("rising", .ref dR), ("wish", .int n tn)] [(dR, listOf yr.toArray nR), (L + 1, oT), (94, tabObj #[]), (101, tabObj #[])])
    (hoT : oT.data = .cell (some (.int times tt))) (hyr : StrsAre yr R) (h1 : @LT.lt Nat _ 101 dR) (h2 : @LT.lt Nat _ 101 L)
    (ht1 : 1 ≤ times) (ht2 : times ≤ 52) (hn1 : -100 < n) (hn2 : n < 100) (hR : R.Perm tks) (hRs : R.Pairwise fun a b => kfT times a < kfT times b)
    (h : ∀ s' l' oL oM, (∃ ps, oL = tabObj ps) → (∃ ps, oM = tabObj ps) → Same s s' → At g L s'.heap l' [(94, oL), (101, oM)] → Q (.ret (.bool true)) s') :
    wpAny (MM w) A (execs ((bodyOf ((Mine.hd0.heap_1 w.params).lookup 111)).drop 5) (envX "law" (scopeOf ((Mine.hd0.heap_1 w.params).lookup 111)) L fa cd [("row", cR), ("times", L + 1)])) Q (fun _ _ => False) s := by
  have tail := fun (s' : Shared) (hS0 : Same s s') (dK : Addr) (oK : Obj) (ep : Nat) (tm : Tok) (H' : At g L s'.heap [("kept", .ref dK), ("many", .int (if 0 > n then 0 else n) tm), ("rising", .ref dR), ("wish", .int n tn)] [(dR, listOf yr.toArray nR), (L + 1, oT), (dK, oK), (94, tabObj #[]), (101, tabObj #[])]) (hK : KdkAt (SK w) oK tkv ep) (hKs : (dK == sysModules) = false) (h3 : @LT.lt Nat _ 101 dK) =>
    lawD (Q := Q) CE C H' hoT hK hKs hyr h1 h2 h3 ht1 ht2 hn1 hn2 hR hRs (fun s'' l' oL oM a b hS H'' => h s'' l' oL oM a b (hS0.trans hS) H'')
  revert CE tail
  rw [(show (Mine.hd0.heap_1 w.params).lookup 111 = some _ from by k_is)]
  intro CE tail
  refine wpAny_execs_cons (wpAny_Assign_Name (Call_ (ldB C H (by k_is) (by boot_by_name) (by decide) (PyProof.Rows.callWith_builtin1 (spliced_more (ldA H rfl (spliced_more (wpAny_Constant_int (spliced_none (maxI C H fun h2' t2 tk2 H2 => ?_))) rfl)) rfl) rfl rfl)) rfl) (by with_unfolding_all rfl))
  refine stA H2 fun h3 H3 => ?_
  refine wpAny_execs_cons (wpAny_Assign_Name (Call_ (ldB C H3 (by k_is) (by boot_by_name) (by decide) (PyProof.Rows.callWith_type1 (spliced_more (ldK C H3 (by k_is) (spliced_none (copyDict C H3 fun D h4 o ep hk hs H4 hlt => ?_))) rfl) rfl rfl)) rfl) (by with_unfolding_all rfl))
  refine stA H4 fun h5 H5 => ?_
  refine tail _ ⟨rfl, rfl⟩ D o ep t2 (At.new H5 fun p hp => ?_) hk hs (hlt (101, tabObj #[]) (.tail _ (.tail _ (.tail _ (.head _)))))
  simp only [List.mem_cons, List.not_mem_nil, or_false] at hp ⊢
  rcases hp with hp | hp | hp | hp | hp <;> simp [hp]
theorem lawB {w : World} {A : Around} {s : Shared} {g : Heap} {L fa cR : Addr} {cd : Value} {dW : Addr} {ws : List Value} {nW : Nat} {oT oR : Obj} {n times : Int} {tn tt : Tok} {Q : Flow → Shared → Prop}
    (CE : CxE w A L g (envX "law" (scopeOf ((Mine.hd0.heap_1 w.params).lookup 111)) L fa cd [("row", cR), ("times", L + 1)]) []) (C : Cx w A L g 310 50)
    (H : At g L s.heap [("wish", .int n tn)] [(cR, oR), (L + 1, oT), (dW, listOf ws.toArray nW), (94, tabObj #[]), (101, tabObj #[])])
    (hoT : oT.data = .cell (some (.int times tt))) (hoR : oR.data = .cell (some (.ref dW))) (hws : StrsAre ws rowS) (h2 : @LT.lt Nat _ 101 L)
    (ht1 : 1 ≤ times) (ht2 : times ≤ 52) (hn1 : -100 < n) (hn2 : n < 100)
    (h : ∀ s' l' oL oM, (∃ ps, oL = tabObj ps) → (∃ ps, oM = tabObj ps) → Same s s' → At g L s'.heap l' [(94, oL), (101, oM)] → Q (.ret (.bool true)) s') :
    wpAny (MM w) A (execs ((bodyOf ((Mine.hd0.heap_1 w.params).lookup 111)).drop 3) (envX "law" (scopeOf ((Mine.hd0.heap_1 w.params).lookup 111)) L fa cd [("row", cR), ("times", L + 1)])) Q (fun _ _ => False) s := by
  have tail := fun (s' : Shared) (hS0 : Same s s') (dR : Addr) (yr : List Value) (nR : Nat) (R : List Str) (H' : At g L s'.heap [("rising", .ref dR), ("wish", .int n tn)] [(dR, listOf yr.toArray nR), (L + 1, oT), (94, tabObj #[]), (101, tabObj #[])]) (hyr : StrsAre yr R) (h1 : @LT.lt Nat _ 101 dR) (hR : R.Perm tks) (hRs : R.Pairwise fun a b => kfT times a < kfT times b) =>
    lawC (Q := Q) CE C H' hoT hyr h1 h2 ht1 ht2 hn1 hn2 hR hRs (fun s'' l' oL oM a b hS H'' => h s'' l' oL oM a b (hS0.trans hS) H'')
  revert CE tail
  rw [(show (Mine.hd0.heap_1 w.params).lookup 111 = some _ from by k_is)]
  intro CE tail
  have hwl : ws.length = 48 := by rw [strs_len' hws, rowS_len]
  have hkf : ∀ (i : Nat) c, rowS[i]? = some c → ((7 + (i : Int)) * times).fmod 53 = kfT times c := by
    intro i c hc
    have e : (rowS.map tv)[i]? = ((List.range 48).map (fun k : Nat => 7 + (k : Int)))[i]? := congrArg (fun l : List Int => l[i]?) rowS_tv
    rw [List.getElem?_map, hc, List.getElem?_map] at e
    have hi : i < 48 := by
      rw [← rowS_len]
      exact (List.getElem?_eq_some_iff.mp hc).1
    rw [List.getElem?_range hi] at e
    simp only [Option.map_some, Option.some.injEq] at e
    unfold kfT
    rw [e]
  refine wpAny_execs_cons (wpAny_Assign_Name (Call_ (ldB C H (by k_is) (by boot_by_name) (by decide) (PyProof.Rows.callWith_builtin1 (spliced_more ?_ rfl) rfl rfl)) rfl) (by with_unfolding_all rfl))
  refine pairComp (l := [("wish", .int n tn)]) (news := [(cR, oR), (L + 1, oT), (dW, listOf ws.toArray nW), (94, tabObj #[]), (101, tabObj #[])]) (nW := nW) (ws := ws) (dW := dW) (rs := rowS) (kf := kfT times) (cT := L + 1) (cR := cR) (oT := oT) (oR := oR) (times := times) (tt := tt) C (.tail _ (.head _)) hoT (.head _) hoR (.tail _ (.tail _ (.head _))) hws (by rw [rowS_len]; omega) (by omega) (by omega) hkf rfl rfl rfl rfl rfl rfl (fun Q' hq => ?_) (fun D h' tk T tups X hT2 H2 hlt hlt' => ?_)
  · refine Call_ (ldB C H (by k_is) (by boot_by_name) (by decide) (PyProof.Rows.callWith_type1 (spliced_more (Call_ (ldB C H (by k_is) (by boot_by_name) (by decide) (PyProof.Rows.callWith_builtin1 (spliced_more (ldX H rfl (.head _) hoR (spliced_none (call_len_list (listA H (.tail _ (.tail _ (.head _)))) (by rw [List.size_toArray]; omega) ?_))) rfl) rfl rfl)) rfl) rfl) rfl rfl)) rfl
    rw [List.size_toArray, strs_len' hws]
    exact spliced_none (rangeA H fun r h3 t3 u3 v3 tk3 H3 lt3 => hq r h3 t3 u3 v3 tk3 H3 lt3)
  have hnd : ((refs T).map (fun v => kfT times (fT T v))).Nodup := by
    rw [show (refs T).map (fun v => kfT times (fT T v)) = ((refs T).map (fT T)).map (kfT times) from (List.map_map (f := fT T) (g := kfT times) (l := refs T)).symm, fT_refs X.nd, hT2]
    exact nodup_map rowS_nodup fun a b ha hb e => kfT_inj ht1 ht2 a b (rowS_sub a ha) (rowS_sub b hb) e
  have hTl : (refs T).length = 48 := by
    have := congrArg List.length hT2
    rw [List.length_map, rowS_len] at this
    simp [refs, this]
  refine spliced_none (sortedA (vs := refs T) (n := (refs T).length) (kf := fun v => kfT times (fT T v)) H2 (.head _) (fun v hv => ?_) hnd (by omega) (by omega) fun h3 out D3 c3 hperm hpw hlt3 H3 => ?_)
  · obtain ⟨a, rfl, ha⟩ := refs_mem X.nd hv
    obtain ⟨t, v, m⟩ := X.tup _ ha
    exact ⟨a, t, _, rfl, .tail _ (List.mem_append_left _ m)⟩
  refine stA H3 fun h4 H4 => ?_
  have hout : ∀ v ∈ out, ∃ a x0 t, v = .ref a ∧ (a, tupOf [x0, .str (fT T v) t]) ∈ (D3, listOf out.toArray c3) :: (D, lst (refs T)) :: (tups ++ [(cR, oR), (L + 1, oT), (dW, listOf ws.toArray nW), (94, tabObj #[]), (101, tabObj #[])]) := by
    intro v hv
    obtain ⟨a, rfl, ha⟩ := refs_mem X.nd (hperm.mem_iff.mp hv)
    obtain ⟨t, v, m⟩ := X.tup _ ha
    exact ⟨a, _, v, rfl, .tail _ (.tail _ (List.mem_append_left _ m))⟩
  refine wpAny_execs_cons (signComp (p4 := ⟨0, 0, 0, 0⟩) (vs := out) (n := c3) (φ := fT T) C H4 (.head _) hout (by rw [hperm.length_eq]; omega) rfl rfl rfl rfl (fun Q' E' q => ldA H4 rfl q) rfl rfl (fun D5 h5 tk5 ys5 hys5 H5 hlt5 => ?_) (by intro _; rfl))
  have h101 : @LT.lt Nat _ 101 D5 := hlt5 (101, tabObj #[]) (.tail _ (.tail _ (List.mem_append_right _ (.tail _ (.tail _ (.tail _ (.tail _ (.head _))))))))
  refine tail _ ⟨rfl, rfl⟩ D5 ys5 ys5.length (out.map (fT T)) (At.sub H5 (fun p hp => ?_) fun p hp => ?_) hys5 h101 ?_ ?_
  · simp only [List.mem_cons, List.not_mem_nil, or_false] at hp
    rcases hp with rfl | rfl
    · exact .head _
    · exact .tail _ (.tail _ (.head _))
  · simp only [List.mem_cons, List.mem_append, List.not_mem_nil, or_false] at hp ⊢
    rcases hp with hp | hp | hp | hp <;> simp [hp]
  · have := hperm.map (fT T)
    rw [fT_refs X.nd, hT2] at this
    exact this.trans rowS_perm
  · exact List.pairwise_map.mpr hpw
end Mine
end
section
open PySem PySem.W PyProof.Rows PySem.Calls PyProof.Rows.LCg
namespace Mine
theorem datum_int {v : Value} {i : Int} (h : IsDatum v (.int i)) : ∃ t, v = .int i t := by
  have r := h {}
  cases r with
  | int _ t => exact ⟨t, rfl⟩
theorem data_at : ∀ {vs : List Value} {ds : List PyData}, DataAre vs ds → (∀ d ∈ ds, ∃ v : Int, d = .int v ∧ -100 < v ∧ v < 100) → ∀ {i : Nat}, i < vs.length → ∃ (v : Int) (t : Tok), vs[i]? = some (.int v t) ∧ -100 < v ∧ v < 100
  | _, _, .nil, _, i, h => by simp at h
  | _, _, .cons hv r, hd, 0, h => by
    obtain ⟨v, rfl, h1, h2⟩ := hd _ (.head _)
    obtain ⟨t, rfl⟩ := datum_int hv
    exact ⟨v, t, rfl, h1, h2⟩
  | _, _, .cons hv r, hd, i + 1, h => by
    rw [List.getElem?_cons_succ]
    exact data_at r (fun d hd' => hd d (.tail _ hd')) (by simpa using h)
theorem ints_at : ∀ {vs : List Value} {ns : List Int}, IntsAre vs ns → ∀ {i : Nat}, i < vs.length → ∃ x t, vs[i]? = some (.int x t)
  | _, _, .nil, i, h => by simp at h
  | _, _, .cons n t r, 0, h => ⟨n, t, rfl⟩
  | _, _, .cons n t r, i + 1, h => by
    rw [List.getElem?_cons_succ]
    exact ints_at r (by simpa using h)
def wishDs : List PyData := [.int 0, .int 1, .int 2, .int 3, .int 4, .int 5, .int 6, .int 7, .int 8, .int 9, .int 10, .int 11, .int 48, .int 50]
theorem wishDs_ok : ∀ d ∈ wishDs, ∃ v : Int, d = .int v ∧ -100 < v ∧ v < 100 := by
  intro d hd
  simp only [wishDs, List.mem_cons, List.not_mem_nil, or_false] at hd
  rcases hd with rfl | rfl | rfl | rfl | rfl | rfl | rfl | rfl | rfl | rfl | rfl | rfl | rfl | rfl <;> exact ⟨_, rfl, by decide, by decide⟩
section
variable {w : World} {A : Around} {E : Value → Shared → Prop} {s : Shared} {g : Heap} {L a : Addr} {l : List (Str × Value)} {news : List (Addr × Obj)} {cn : Str} {cs : Scope} {ccd : Value} {cl : List (Str × Addr)} {d u : Nat}
theorem modB {a b : Int} {t v : Tok} {Q : Value → Shared → Prop} (hb : b ≠ 0) (h : ∀ t' tk, Q (.int (a.fmod b) t') { s with toks := tk }) : wpAny (MM w) A (binaryOp .Mod (.int a t) (.int b v)) Q E s := mod_int hb (h _ _)
/-- one of the fifteen wishes -/
theorem wishA {es : List PySem.Expr} {q1 q2 q3 p1 p2 p3 p4 p5 p6 p7 p8 p9 p10 p11 p12 p13 : Pos} {ds : Addr} {xs : List Value} {is : List Int} {Q : Value → Shared → Prop} (C : Cx w A L g d u) (H : At g L s.heap l news) (hl : g.IsList ds xs.toArray) (hI : IntsAre xs is) (hlen : xs.length < 64) (hsc : l.lookup (Str.ofString "script") = some (.ref ds))
    (hes : tupLitsOf es = some wishDs)
    (hk : cs.kind = .function) (hxs : cs.names.lookup (Str.ofString "script") = some .local) (hxl : cs.names.lookup (Str.ofString "len") = some .globalImplicit)
    (h : ∀ h' tk n t, -100 < n → n < 100 → At g L h' l news → Q (.int n t) { s with heap := h', toks := tk }) :
    wpAny (MM w) A (eval (.Subscript (.List (.UnaryOp .USub (.Constant (.int 1) 0 q1) q2 :: es) q3) (.IfExp (.Compare (.Call (.Name (Str.ofString "len") p1) [.Name (Str.ofString "script") p2] [] p3) [.Gt] [.Constant (.int 1) 0 p4] p5) (.BinOp (.Subscript (.Name (Str.ofString "script") p6) (.Constant (.int 1) 0 p7) p8) .Mod (.Constant (.int 15) 0 p9) p10) (.Constant (.int 4) 0 p11) p12) p13) (envX cn cs L a ccd cl)) Q E s := by
  refine Subscript_ (List_ (spliced_more (wpAny_UnaryOp (wpAny_Constant_int (neg_int ?_))) rfl))
  refine spliced_lits es wishDs _ _ hes fun vs tk hvs => ?_
  have hvl : vs.length = 14 := dataAre_len hvs
  refine wpAny_newList ?_ (by rw [List.length_cons, hvl, sizeLine_eq]; omega)
  have H1 := H.push { cls := .type "list", data := .seq (Value.int (-1) (s.toks + 1) :: vs).toArray }
  generalize hDD : s.heap.objs.size = D at H1
  have hkp1 : ∀ b o, g.get? b = some o → (s.heap.push { cls := .type "list", data := .seq (Value.int (-1) (s.toks + 1) :: vs).toArray }).get? b = some o := by
    obtain ⟨_, F, _⟩ := H1.fr
    exact F.keep
  have hl1 : (s.heap.push { cls := .type "list", data := .seq (Value.int (-1) (s.toks + 1) :: vs).toArray }).IsList ds xs.toArray := by
    obtain ⟨o, ho, hr⟩ := hl
    exact ⟨o, hkp1 _ _ ho, hr⟩
  have pick : ∀ j : Int, 0 ≤ j → j < 15 → ∃ (v : Int) (t : Tok), (Value.int (-1) (s.toks + 1) :: vs)[j.toNat]? = some (.int v t) ∧ -100 < v ∧ v < 100 := by
    intro j h0 h1
    cases hj : j.toNat with
    | zero => exact ⟨_, _, rfl, by decide, by decide⟩
    | succ i =>
      rw [List.getElem?_cons_succ]
      exact data_at hvs wishDs_ok (by omega)
  refine wpAny_IfExp (wpAny_isTrue_Compare1 (Call_ (ldB C H1 (by k_is) (by boot_by_name) (by decide) (PyProof.Rows.callWith_builtin1 (spliced_more (ldA H1 hsc (spliced_none (call_len_list hl1 (by rw [List.size_toArray]; omega) ?_)) hk hxs) rfl) rfl rfl) hk hxl) rfl))
  rw [List.size_toArray]
  refine wpAny_Constant_int (gt_int (wpAny_truthy_bool ?_))
  by_cases hg : (1 : Int) < xs.length
  · rw [if_pos (decide_eq_true hg)]
    obtain ⟨x, t, hx⟩ := ints_at hI (i := 1) (by omega)
    refine wpAny_BinOp (Subscript_ (ldA H1 hsc (wpAny_Constant_int (item_litK hl1 (by decide) (by decide) (v := .int x t) hx (wpAny_Constant_int (modB (by decide) fun t3 tk3 => ?_)))) hk hxs))
    have hm0 : 0 ≤ x.fmod 15 := Int.fmod_nonneg_of_pos _ (by decide)
    have hm1 : x.fmod 15 < 15 := Int.fmod_lt_of_pos _ (by decide)
    obtain ⟨v, tv, hv, h1, h2⟩ := pick _ hm0 hm1
    exact itemA H1 (.head _) hm0 (by omega) hv (h _ _ v tv h1 h2 (H1.new fun p hp => .tail _ hp))
  · rw [if_neg (by simpa using hg)]
    obtain ⟨v, tv, hv, h1, h2⟩ := pick 4 (by decide) (by decide)
    exact wpAny_Constant_int (itemA H1 (.head _) (by decide) (by decide) hv (h _ _ v tv h1 h2 (H1.new fun p hp => .tail _ hp)))
/-- the factor -/
theorem timesA {p1 p2 p3 p4 p5 p6 p7 p8 p9 p10 : Pos} {ds : Addr} {xs : List Value} {is : List Int} {Q : Value → Shared → Prop} (C : Cx w A L g d u) (H : At g L s.heap l news) (hl : g.IsList ds xs.toArray) (hI : IntsAre xs is) (hlen : xs.length < 64) (hsc : l.lookup (Str.ofString "script") = some (.ref ds))
    (hk : cs.kind = .function) (hxs : cs.names.lookup (Str.ofString "script") = some .local)
    (h : ∀ tk n t, 1 ≤ n → n ≤ 52 → Q (.int n t) { s with toks := tk }) :
    wpAny (MM w) A (eval (.BinOp (.Constant (.int 1) 0 p1) .Add (.IfExp (.Name (Str.ofString "script") p2) (.BinOp (.Subscript (.Name (Str.ofString "script") p3) (.Constant (.int 0) 0 p4) p5) .Mod (.Constant (.int 52) 0 p6) p7) (.Constant (.int 0) 0 p8) p9) p10) (envX cn cs L a ccd cl)) Q E s := by
  have hl1 : s.heap.IsList ds xs.toArray := by
    obtain ⟨_, F, _⟩ := H.fr
    obtain ⟨o, ho, hr⟩ := hl
    exact ⟨o, F.keep _ _ ho, hr⟩
  refine wpAny_BinOp (wpAny_Constant_int (wpAny_IfExp (wpAny_isTrue_value (ldA H hsc (wpAny_truthy_list hl1 (by rw [List.size_toArray]; omega) ?_) hk hxs) rfl)))
  by_cases hg : 0 < xs.length
  · rw [if_pos (by simp; intro e; rw [e] at hg; simp at hg)]
    obtain ⟨x, t, hx⟩ := ints_at hI (i := 0) hg
    refine wpAny_BinOp (Subscript_ (ldA H hsc (wpAny_Constant_int (item_litK hl1 (by decide) (by decide) (v := .int x t) hx (wpAny_Constant_int (modB (by decide) fun t3 tk3 => ?_)))) hk hxs))
    have hm0 : 0 ≤ x.fmod 52 := Int.fmod_nonneg_of_pos _ (by decide)
    have hm1 : x.fmod 52 < 52 := Int.fmod_lt_of_pos _ (by decide)
    exact add_int (h _ _ _ (by omega) (by omega))
  · have e : xs = [] := List.length_eq_zero_iff.mp (by omega)
    subst e
    exact wpAny_Constant_int (add_int (h _ _ _ (by decide) (by decide)))
end
end Mine
end
section
open PySem PySem.W PyProof.Rows PySem.Calls PyProof.Rows.LCg
namespace Mine
section
variable {w : World} {A : Around} {E : Value → Shared → Prop} {s : Shared} {g : Heap} {L a : Addr} {l : List (Str × Value)} {news : List (Addr × Obj)} {cn : Str} {cs : Scope} {ccd : Value} {cl : List (Str × Addr)} {x : Str} {v : Value}
theorem stX {c : Addr} {o : Obj} {v₀ : Option Value} {Q : Unit → Shared → Prop} (H : At g L s.heap l ((c, o) :: news)) (hc : cl.lookup x = some c) (hne : ∀ p ∈ news, p.1 ≠ c) (hd : o.data = .cell v₀) (h : ∀ h' o', o'.data = .cell (some v) → At g L h' l ((c, o') :: news) → Q () { s with heap := h' })
    (hk : cs.kind = .function := by rfl) (hx : (envX cn cs L a ccd cl).kindOf x = some .cell := by rfl) : wpAny (MM w) A (storeName (envX cn cs L a ccd cl) x v) Q E s := by
  obtain ⟨m, F, hm⟩ := H.fr
  exact storeX_C F H.nw hc (UpdF.head hne) hd (fun h' o' F' N' hd' => h h' o' hd' ⟨⟨m, F', hm⟩, N'⟩) hk hx
end
theorem lawA3 {w : World} {A : Around} {s : Shared} {g : Heap} {L fa : Addr} {cd : Value} {oT oR : Obj} {vR : Option Value} {n times : Int} {tn tt : Tok} {Q : Flow → Shared → Prop}
    (CE : CxE w A L g (envX "law" (scopeOf ((Mine.hd0.heap_1 w.params).lookup 111)) L fa cd [("row", L + 1 + 1), ("times", L + 1)]) []) (C : Cx w A L g 310 50)
    (H : At g L s.heap [("wish", .int n tn)] [(L + 1 + 1, oR), (L + 1, oT), (94, tabObj #[]), (101, tabObj #[])])
    (hoT : oT.data = .cell (some (.int times tt))) (hoR : oR.data = .cell vR) (h2 : @LT.lt Nat _ 101 L)
    (ht1 : 1 ≤ times) (ht2 : times ≤ 52) (hn1 : -100 < n) (hn2 : n < 100)
    (h : ∀ s' l' oL oM, (∃ ps, oL = tabObj ps) → (∃ ps, oM = tabObj ps) → Same s s' → At g L s'.heap l' [(94, oL), (101, oM)] → Q (.ret (.bool true)) s') :
    wpAny (MM w) A (execs ((bodyOf ((Mine.hd0.heap_1 w.params).lookup 111)).drop 2) (envX "law" (scopeOf ((Mine.hd0.heap_1 w.params).lookup 111)) L fa cd [("row", L + 1 + 1), ("times", L + 1)])) Q (fun _ _ => False) s := by
  have tail := fun (s' : Shared) (hS0 : Same s s') (dW : Addr) (ws : List Value) (nW : Nat) (oR' : Obj) (H' : At g L s'.heap [("wish", .int n tn)] [(L + 1 + 1, oR'), (L + 1, oT), (dW, listOf ws.toArray nW), (94, tabObj #[]), (101, tabObj #[])]) (hoR' : oR'.data = .cell (some (.ref dW))) (hws : StrsAre ws rowS) =>
    lawB (Q := Q) CE C H' hoT hoR' hws h2 ht1 ht2 hn1 hn2 (fun s'' l' oL oM a b hS H'' => h s'' l' oL oM a b (hS0.trans hS) H'')
  revert CE tail
  rw [(show (Mine.hd0.heap_1 w.params).lookup 111 = some _ from by k_is)]
  intro CE tail
  have hkp : ∀ b o, g.get? b = some o → s.heap.get? b = some o := by
    obtain ⟨_, F, _⟩ := H.fr
    exact F.keep
  refine wpAny_execs_cons (wpAny_Assign_Name (Call_ (ldK C H (by k_is) (callWith_K0 (C.kin.keeps hkp) (by k_is) (rowA C H (by omega) fun D h3 tk3 ws hws H3 hlt3 => ?_))) rfl) (by with_unfolding_all rfl))
  have H4 : At g L h3 [("wish", .int n tn)] ((L + 1 + 1, oR) :: [(L + 1, oT), (D, listOf ws.toArray 0), (94, tabObj #[]), (101, tabObj #[])]) := H3.new fun p hp => by
    simp only [List.mem_cons, List.not_mem_nil, or_false] at hp ⊢
    rcases hp with hp | hp | hp | hp | hp <;> simp [hp]
  refine stX H4 rfl (fun p hp => ?_) hoR fun h5 o5 ho5 H5 => ?_
  · have hD : @LT.lt Nat _ (L + 1 + 1) D := hlt3 _ (.head _)
    simp only [List.mem_cons, List.not_mem_nil, or_false] at hp
    intro e
    have e' : @Eq Nat p.1 (L + 1 + 1) := e
    rcases hp with rfl | rfl | rfl | rfl
    · have e'' : @Eq Nat (L + 1) (L + 1 + 1) := e'; omega
    · have e'' : @Eq Nat D (L + 1 + 1) := e'; omega
    · have e'' : @Eq Nat 94 (L + 1 + 1) := e'; omega
    · have e'' : @Eq Nat 101 (L + 1 + 1) := e'; omega
  exact tail _ ⟨rfl, rfl⟩ D ws 0 o5 H5 ho5 hws
theorem lawA2 {w : World} {A : Around} {s : Shared} {g : Heap} {L fa : Addr} {cd : Value} {oT oR : Obj} {vR : Option Value} {times : Int} {tt : Tok} {ds : Addr} {xs : List Value} {is : List Int} {Q : Flow → Shared → Prop}
    (CE : CxE w A L g (envX "law" (scopeOf ((Mine.hd0.heap_1 w.params).lookup 111)) L fa cd [("row", L + 1 + 1), ("times", L + 1)]) []) (C : Cx w A L g 310 50) (hl : g.IsList ds xs.toArray) (hI : IntsAre xs is) (hlen : xs.length < 64)
    (H : At g L s.heap [("script", .ref ds)] [(L + 1 + 1, oR), (L + 1, oT), (94, tabObj #[]), (101, tabObj #[])])
    (hoT : oT.data = .cell (some (.int times tt))) (hoR : oR.data = .cell vR) (h2 : @LT.lt Nat _ 101 L)
    (ht1 : 1 ≤ times) (ht2 : times ≤ 52)
    (h : ∀ s' l' oL oM, (∃ ps, oL = tabObj ps) → (∃ ps, oM = tabObj ps) → Same s s' → At g L s'.heap l' [(94, oL), (101, oM)] → Q (.ret (.bool true)) s') :
    wpAny (MM w) A (execs ((bodyOf ((Mine.hd0.heap_1 w.params).lookup 111)).drop 1) (envX "law" (scopeOf ((Mine.hd0.heap_1 w.params).lookup 111)) L fa cd [("row", L + 1 + 1), ("times", L + 1)])) Q (fun _ _ => False) s := by
  have tail := fun (s' : Shared) (hS0 : Same s s') (n : Int) (tn : Tok) (H' : At g L s'.heap [("wish", .int n tn)] [(L + 1 + 1, oR), (L + 1, oT), (94, tabObj #[]), (101, tabObj #[])]) (hn1 : -100 < n) (hn2 : n < 100) =>
    lawA3 (Q := Q) CE C H' hoT hoR h2 ht1 ht2 hn1 hn2 (fun s'' l' oL oM a b hS H'' => h s'' l' oL oM a b (hS0.trans hS) H'')
  revert CE tail
  rw [(show (Mine.hd0.heap_1 w.params).lookup 111 = some _ from by k_is)]
  intro CE tail
  refine wpAny_execs_cons (wpAny_Assign_Name (wishA C H hl hI hlen rfl rfl rfl rfl rfl fun h3 tk3 n tn hn1 hn2 H3 => ?_) (by with_unfolding_all rfl))
  refine stA H3 fun h4 H4 => ?_
  exact tail _ ⟨rfl, rfl⟩ n tn (H4.sub (fun p hp => by rw [List.mem_singleton.mp hp]; exact .head _) fun p hp => hp) hn1 hn2
theorem lawA {w : World} {A : Around} {s : Shared} {g : Heap} {L fa : Addr} {cd : Value} {oT oR : Obj} {vT vR : Option Value} {ds : Addr} {xs : List Value} {is : List Int} {Q : Flow → Shared → Prop}
    (CE : CxE w A L g (envX "law" (scopeOf ((Mine.hd0.heap_1 w.params).lookup 111)) L fa cd [("row", L + 1 + 1), ("times", L + 1)]) []) (C : Cx w A L g 310 50) (hl : g.IsList ds xs.toArray) (hI : IntsAre xs is) (hlen : xs.length < 64)
    (H : At g L s.heap [("script", .ref ds)] [(L + 1 + 1, oR), (L + 1, oT), (101, tabObj #[]), (94, tabObj #[])])
    (hoT : oT.data = .cell vT) (hoR : oR.data = .cell vR) (h2 : @LT.lt Nat _ 101 L)
    (h : ∀ s' l' oL oM, (∃ ps, oL = tabObj ps) → (∃ ps, oM = tabObj ps) → Same s s' → At g L s'.heap l' [(94, oL), (101, oM)] → Q (.ret (.bool true)) s') :
    wpAny (MM w) A (execs (bodyOf ((Mine.hd0.heap_1 w.params).lookup 111)) (envX "law" (scopeOf ((Mine.hd0.heap_1 w.params).lookup 111)) L fa cd [("row", L + 1 + 1), ("times", L + 1)])) Q (fun _ _ => False) s := by
  have tail := fun (s' : Shared) (hS0 : Same s s') (oT' : Obj) (times : Int) (tt : Tok) (H' : At g L s'.heap [("script", .ref ds)] [(L + 1 + 1, oR), (L + 1, oT'), (94, tabObj #[]), (101, tabObj #[])]) (hoT' : oT'.data = .cell (some (.int times tt))) (ht1 : 1 ≤ times) (ht2 : times ≤ 52) =>
    lawA2 (Q := Q) CE C hl hI hlen H' hoT' hoR h2 ht1 ht2 (fun s'' l' oL oM a b hS H'' => h s'' l' oL oM a b (hS0.trans hS) H'')
  revert CE tail
  rw [(show (Mine.hd0.heap_1 w.params).lookup 111 = some _ from by k_is)]
  intro CE tail
  refine wpAny_execs_cons (wpAny_Assign_Name (timesA C H hl hI hlen rfl rfl rfl fun tk3 n tn hn1 hn2 => ?_) (by with_unfolding_all rfl))
  have H4 : At g L s.heap [("script", .ref ds)] ((L + 1, oT) :: [(L + 1 + 1, oR), (101, tabObj #[]), (94, tabObj #[])]) := H.new fun p hp => by
    simp only [List.mem_cons, List.not_mem_nil, or_false] at hp ⊢
    rcases hp with hp | hp | hp | hp <;> simp [hp]
  refine stX H4 rfl (fun p hp => ?_) hoT fun h5 o5 ho5 H5 => ?_
  · simp only [List.mem_cons, List.not_mem_nil, or_false] at hp
    intro e
    have e' : @Eq Nat p.1 (L + 1) := e
    rcases hp with rfl | rfl | rfl
    · have e'' : @Eq Nat (L + 1 + 1) (L + 1) := e'; omega
    · have e'' : @Eq Nat 101 (L + 1) := e'; omega
    · have e'' : @Eq Nat 94 (L + 1) := e'; omega
  refine tail _ ⟨rfl, rfl⟩ o5 n tn (H5.new fun p hp => ?_) ho5 hn1 hn2
  simp only [List.mem_cons, List.not_mem_nil, or_false] at hp ⊢
  rcases hp with hp | hp | hp | hp <;> simp [hp]
end Mine
end
section
open PySem PySem.W PyProof.Rows PySem.Calls PyProof.Rows.LCg
namespace Mine
-- names taken ahead: the head then lays no quick twin beside these 26 large constants, and the kernel checks its looks on the constants themselves
theorem cw_fin.tw1903866087469309809 : True := True.intro
theorem cw_fin.tw9172075665653176669 : True := True.intro
theorem cw_fin.tw9432040131017342600 : True := True.intro
theorem cw_fin.tw10929899630185374765 : True := True.intro
theorem cw_fin.tw6543230508208081845 : True := True.intro
theorem cw_fin.tw7709438400658096668 : True := True.intro
theorem cw_fin.tw10168768832633245018 : True := True.intro
theorem cw_fin.tw8081078991021986649 : True := True.intro
theorem cw_fin.tw8405565468600973979 : True := True.intro
theorem cw_fin.tw6452041760599431586 : True := True.intro
theorem cw_fin.tw4832067421205526046 : True := True.intro
theorem cw_fin.tw17380831537770374586 : True := True.intro
theorem cw_fin.tw16932986750847867235 : True := True.intro
theorem cw_fin.tw11079362596510180349 : True := True.intro
theorem cw_fin.tw1764333747495278670 : True := True.intro
theorem cw_fin.tw6960853306977197319 : True := True.intro
theorem cw_fin.tw9808968293062513143 : True := True.intro
theorem cw_fin.tw1195587795237273916 : True := True.intro
theorem cw_fin.tw5842958814330693860 : True := True.intro
theorem cw_fin.tw4664397877034960742 : True := True.intro
theorem cw_fin.tw4041500409119606101 : True := True.intro
theorem cw_fin.tw14332715259498819101 : True := True.intro
theorem cw_fin.tw9126400525196110365 : True := True.intro
theorem cw_fin.tw885835548532360881 : True := True.intro
theorem cw_fin.tw5771646294065053607 : True := True.intro
theorem cw_fin.tw3906291090249744525 : True := True.intro
set_option Elab.async true in
theorem cw_fin : PySem.Challenge.rw_mg0060_01.Holds := by
  w_on
  o_law
  o_head (kmHook Mine.hd0.heap_1 [2, 3, 6, 15, 17, 18, 20, 21, 22, 24, 25, 27, 28, 29, 31, 32, 34, 35, 36, 38, 39, 41, 42, 43, 45, 46, 48, 49, 50, 52, 53, 55, 56, 57, 59, 60, 62, 63, 64, 66, 67, 69, 70, 71, 72, 75, 76, 77, 78, 81, 82, 83, 86, 88, 89, 91, 92, 93, 95, 96, 98, 99, 100, 102, 103, 105, 106, 107, 110, 111] (fun _ => by kernel_rfl) [101, 94])
  case hw => w_witness2
  k_go0
  rename News _ _ _ _ => N0
  rename Fr _ _ _ _ => F0
  rename Below _ _ _ _ => B0
  rename Top topProg _ _ _ _ _ => T0
  rename Frag.In _ _ => X0
  rename IntsAre _ _ => hI
  rename CellsAre _ _ _ => cells0
  rename ¬ (_ < _) => hlen0
  rename Shared.gens _ = #[] => hg0
  rename _ ∧ _ => l0
  rename CodeHd _ _ _ => c98
  revert c98
  rename CodeHd _ _ _ => c105
  intro c98
  rename Heap.IsList _ _ _ => hlist
  rename _ = Data.cell _ => hoA
  revert hoA
  rename _ = Data.cell _ => hoB
  intro hoA
  have H0 := At.mk (l := [(Str.ofString "script", _)]) ⟨_, F0, fun p hp => by rw [List.mem_singleton.mp hp]; rfl⟩ N0
  refine wpAny_mono (E := fun _ _ => False) (lawA ?CE ?C hlist hI ?len H0 hoA hoB ?lt ?fin) (fun _ _ q => q) (fun _ _ z => z.elim)
  case len =>
    have e := hI.length
    omega
  case lt => exact l0.1
  case CE => exact ⟨[], callerA, _, rfl, rfl, rfl, B0, ⟨X0, ⟨_, _, _, _, _, T0⟩, c98, c105⟩, rfl⟩
  case C => exact Cx.of (fs := []) ⟨[], callerA, _, rfl, rfl, rfl, B0, ⟨X0, ⟨_, _, _, _, _, T0⟩, c98, c105⟩, rfl⟩ (Nat.le_of_ble_eq_true rfl) (Nat.le_of_ble_eq_true rfl) rfl
  case fin =>
    intro s' l' oL oM hL hM hS H'
    obtain ⟨psL, rfl⟩ := hL
    obtain ⟨psM, rfl⟩ := hM
    obtain ⟨m', F', _⟩ := H'.fr
    have N' := H'.nw
    refine And.intro ?_ (And.intro (GrownAt.of N' (.tail _ (.head _))) (And.intro (GrownAt.of N' (.head _)) True.intro))
    kc_bool
    refine goodW_bool F' (hS.2.trans hg0) (raisesW_false ?_) ?_ hS.1
    · wrow_none_raised
    · kc_post
end Mine
end
theorem PySem.Challenge.cw_mg0060_01_holds : PySem.Challenge.rw_mg0060_01.Holds := by
  exact Mine.cw_fin
