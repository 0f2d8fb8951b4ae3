import PyProof.Rows.All
import Wide.All
import OpenK.AllK
import Wide.FinOn
import PySem.Challenge.RW_dz0097_01
open PySem PySem.W PyProof.Rows
set_option Elab.async false
namespace Mine
/-- the ends: k, what the table tells at k, and so on to 0 -/
def chain (t : List Nat) : Nat → Nat → List Nat
  | 0, k => [k]
  | f + 1, k => if k = 0 then [0] else k :: chain t f (t.getD (k - 1) 0)
def Low (t : List Nat) : Prop := ∀ j, t.getD j 0 ≤ j
def ends (t : List Nat) (k : Nat) : List Nat := chain t k k
theorem chain_fuel {t : List Nat} (h : Low t) : ∀ f k g, k ≤ f → k ≤ g → chain t f k = chain t g k
  | 0, k, 0, _, _ => rfl
  | 0, k, g + 1, hf, _ => by
    have : k = 0 := by omega
    subst this; simp [chain]
  | f + 1, k, 0, _, hg => by
    have : k = 0 := by omega
    subst this; simp [chain]
  | f + 1, k, g + 1, hf, hg => by
    unfold chain
    by_cases hk : k = 0
    · simp [hk]
    · simp only [hk, if_false]
      have h1 := h (k - 1)
      rw [chain_fuel h f _ g (by omega) (by omega)]
theorem ends_zero (t : List Nat) : ends t 0 = [0] := rfl
theorem ends_pos {t : List Nat} (h : Low t) {k : Nat} (hk : 0 < k) : ends t k = k :: ends t (t.getD (k - 1) 0) := by
  unfold ends
  obtain ⟨k, rfl⟩ : ∃ j, k = j + 1 := ⟨k - 1, by omega⟩
  conv => lhs; unfold chain
  simp only [Nat.add_one_ne_zero, if_false, Nat.add_sub_cancel]
  have h1 := h k
  rw [chain_fuel h k _ _ h1 (Nat.le_refl _)]
theorem ends_ne_nil (t : List Nat) (k : Nat) : ends t k ≠ [] := by
  unfold ends; cases k <;> simp [chain]
theorem ends_length (t : List Nat) : ∀ f k, (chain t f k).length ≤ f + 1
  | 0, k => by simp [chain]
  | f + 1, k => by
    unfold chain
    split
    · simp
    · simp only [List.length_cons]; have := ends_length t f (t.getD (k - 1) 0); omega
theorem ends_le {t : List Nat} (h : Low t) : ∀ k, ∀ j ∈ ends t k, j ≤ k := by
  intro k
  induction k using Nat.strongRecOn with
  | _ k ih =>
    intro j hj
    by_cases hk : k = 0
    · subst hk; simp [ends_zero] at hj; omega
    · rw [ends_pos h (by omega)] at hj
      rcases List.mem_cons.mp hj with rfl | hj
      · exact Nat.le_refl _
      · have h1 := h (k - 1)
        have := ih _ (by omega) j hj
        omega
/-- the first of the ends at which p holds, and one; 0 where there is none -/
def hit (p : Nat → Bool) (l : List Nat) : Nat := match l.find? p with | some j => j + 1 | none => 0
theorem hit_nil (p : Nat → Bool) : hit p [] = 0 := rfl
theorem hit_cons_pos {p : Nat → Bool} {k : Nat} {l : List Nat} (h : p k = true) : hit p (k :: l) = k + 1 := by simp [hit, h]
theorem hit_cons_neg {p : Nat → Bool} {k : Nat} {l : List Nat} (h : p k = false) : hit p (k :: l) = hit p l := by simp [hit, h]
theorem hit_congr {p q : Nat → Bool} : ∀ {l : List Nat}, (∀ k ∈ l, p k = q k) → hit p l = hit q l
  | [], _ => rfl
  | k :: l, h => by
    have h1 := h k (by simp)
    have h2 := hit_congr (p := p) (q := q) (l := l) fun j hj => h j (by simp [hj])
    cases hp : p k with
    | true => rw [hit_cons_pos hp, hit_cons_pos (h1 ▸ hp)]
    | false => rw [hit_cons_neg hp, hit_cons_neg (h1 ▸ hp), h2]
theorem hit_le {p : Nat → Bool} {m : Nat} : ∀ {l : List Nat}, (∀ k ∈ l, k ≤ m) → hit p l ≤ m + 1
  | [], _ => by simp [hit]
  | k :: l, h => by
    have h1 := h k (by simp)
    have h2 := hit_le (p := p) (m := m) (l := l) fun j hj => h j (by simp [hj])
    cases hp : p k with
    | true => rw [hit_cons_pos hp]; omega
    | false => rw [hit_cons_neg hp]; exact h2
theorem hit_zero {p : Nat → Bool} : ∀ {l : List Nat}, hit p l = 0 → ∀ k ∈ l, p k = false
  | [], _, k, hk => by simp at hk
  | j :: l, h, k, hk => by
    cases hp : p j with
    | true => rw [hit_cons_pos hp] at h; omega
    | false =>
      rw [hit_cons_neg hp] at h
      rcases List.mem_cons.mp hk with rfl | hk
      · exact hp
      · exact hit_zero h k hk
theorem hit_none {p : Nat → Bool} {l : List Nat} (h : ∀ k ∈ l, p k = false) : hit p l = 0 := by
  induction l with
  | nil => rfl
  | cons j l ih => rw [hit_cons_neg (h j (by simp))]; exact ih fun k hk => h k (by simp [hk])
/-- the table: e i j tells whether the items at i and j are the same -/
def tab (e : Nat → Nat → Bool) : Nat → List Nat
  | 0 => []
  | 1 => [0]
  | i + 2 => tab e (i + 1) ++ [hit (e (i + 1)) (ends (tab e (i + 1)) ((tab e (i + 1)).getD i 0))]
theorem tab_length (e : Nat → Nat → Bool) : ∀ n, (tab e n).length = n
  | 0 => rfl
  | 1 => rfl
  | i + 2 => by simp [tab, tab_length e (i + 1)]
theorem low_of_lt {t : List Nat} (h : ∀ j, j < t.length → t.getD j 0 ≤ j) : Low t := fun j => by
  by_cases hj : j < t.length
  · exact h j hj
  · rw [List.getD_eq_getElem?_getD, List.getElem?_eq_none (by omega)]; simp
theorem tab_low (e : Nat → Nat → Bool) : ∀ n, Low (tab e n)
  | 0 => fun j => by simp [tab]
  | 1 => fun j => by cases j <;> simp [tab]
  | i + 2 => by
    have ih := tab_low e (i + 1)
    have hl := tab_length e (i + 1)
    refine low_of_lt fun j hj => ?_
    have hj' : j < i + 2 := by rw [tab_length] at hj; exact hj
    simp only [tab, List.getD_eq_getElem?_getD]
    by_cases h : j < i + 1
    · rw [List.getElem?_append_left (by omega)]
      have := ih j
      rw [List.getD_eq_getElem?_getD] at this
      exact this
    · have : j = i + 1 := by omega
      subst this
      rw [List.getElem?_append_right (by omega), hl]
      simp only [Nat.sub_self, List.getElem?_cons_zero, Option.getD_some]
      have h1 := ih i
      have h2 := hit_le (p := e (i + 1)) (m := i) (l := ends (tab e (i + 1)) ((tab e (i + 1)).getD i 0)) fun k hk => Nat.le_trans (ends_le ih _ k hk) h1
      simpa [List.getD_eq_getElem?_getD] using h2
theorem tab_take (e : Nat → Nat → Bool) : ∀ n k, k ≤ n → (tab e n).take k = tab e k
  | 0, k, h => by
    have : k = 0 := by omega
    subst this; rfl
  | 1, k, h => by
    have : k = 0 ∨ k = 1 := by omega
    rcases this with rfl | rfl <;> rfl
  | i + 2, k, h => by
    by_cases hk : k = i + 2
    · subst hk; rw [List.take_of_length_le (by rw [tab_length]; exact Nat.le_refl _)]
    · rw [tab, List.take_append_of_le_length (by rw [tab_length]; omega)]
      exact tab_take e (i + 1) k (by omega)
theorem tab_get (e : Nat → Nat → Bool) {n j : Nat} (h : j < n) : (tab e n).getD j 0 = (tab e (j + 1)).getD j 0 := by
  have h1 := tab_take e n (j + 1) h
  rw [← h1, List.getD_eq_getElem?_getD, List.getD_eq_getElem?_getD, List.getElem?_take_of_lt (by omega)]
theorem tab_step (e : Nat → Nat → Bool) {i : Nat} (h : 0 < i) : tab e (i + 1) = tab e i ++ [hit (e i) (ends (tab e i) ((tab e i).getD (i - 1) 0))] := by
  obtain ⟨i, rfl⟩ : ∃ j, i = j + 1 := ⟨i - 1, by omega⟩
  rfl
theorem tab_congr {e f : Nat → Nat → Bool} : ∀ {n : Nat}, (∀ i j, i < n → j < n → e i j = f i j) → tab e n = tab f n
  | 0, _ => rfl
  | 1, _ => rfl
  | i + 2, h => by
    have ih := tab_congr (e := e) (f := f) (n := i + 1) fun a b ha hb => h a b (by omega) (by omega)
    simp only [tab, ih]
    have hl := tab_low f (i + 1)
    rw [hit_congr fun k hk => h (i + 1) k (by omega) (by have := ends_le hl _ k hk; have := hl i; omega)]
/-- chains look at a table's beginning alone -/
theorem chain_pre {t u : List Nat} {m : Nat} (h : ∀ j, j < m → t.getD j 0 = u.getD j 0) (hl : Low t) : ∀ f k, k ≤ m → chain t f k = chain u f k
  | 0, k, _ => rfl
  | f + 1, k, hk => by
    unfold chain
    by_cases h0 : k = 0
    · simp [h0]
    · simp only [h0, if_false]
      have h1 := h (k - 1) (by omega)
      have h2 := hl (k - 1)
      rw [← h1, chain_pre h hl f _ (by omega)]
theorem ends_pre {t u : List Nat} {m k : Nat} (h : ∀ j, j < m → t.getD j 0 = u.getD j 0) (hl : Low t) (hk : k ≤ m) : ends t k = ends u k := chain_pre h hl _ _ hk
theorem rep_flat (n : Nat) : (List.replicate n 0).map Int.ofNat = (List.replicate ((n : Int)).toNat [(0 : Int)]).flatten := by
  rw [Int.toNat_natCast]
  induction n with
  | zero => rfl
  | succ n ih => simp [List.replicate_succ, ih]
theorem getD_map (t : List Nat) (i : Nat) : (List.map Int.ofNat t).getD i 0 = ((t.getD i 0 : Nat) : Int) := by
  simp [List.getD_eq_getElem?_getD, List.getElem?_map]; cases t[i]? <;> rfl
theorem take_low (e : Nat → Nat → Bool) (n k r : Nat) : Low ((tab e n).take k ++ List.replicate r 0) := by
  refine fun j => ?_
  rw [List.getD_eq_getElem?_getD, List.getElem?_append]
  split
  · rw [List.getElem?_take]
    split
    · have := tab_low e n j
      rwa [List.getD_eq_getElem?_getD] at this
    · simp
  · rw [List.getElem?_replicate]
    split <;> simp
theorem set_step {e : Nat → Nat → Bool} {n i : Nat} {t : List Nat} (ht : t = (tab e n).take (i + 1) ++ List.replicate (n - (i + 1)) 0) (hi : i + 1 < n) (x : Nat)
    (hx : x = hit (e (i + 1)) (ends t (t.getD i 0))) : t.set (i + 1) x = (tab e n).take (i + 1 + 1) ++ List.replicate (n - (i + 1 + 1)) 0 := by
  have h1 : (tab e n).take (i + 1) = tab e (i + 1) := tab_take e n _ (by omega)
  have h2 : (tab e n).take (i + 1 + 1) = tab e (i + 1 + 1) := tab_take e n _ (by omega)
  have hl := tab_length e (i + 1)
  rw [h1] at ht
  have hg : ∀ j, j < i + 1 → t.getD j 0 = (tab e (i + 1)).getD j 0 := by
    intro j hj
    rw [ht, List.getD_eq_getElem?_getD, List.getD_eq_getElem?_getD, List.getElem?_append_left (by omega)]
  have hlow : Low t := by rw [ht, ← h1]; exact take_low e n _ _
  have he : ends t (t.getD i 0) = ends (tab e (i + 1)) ((tab e (i + 1)).getD i 0) := by
    rw [hg i (by omega)]
    exact ends_pre hg hlow (by have := tab_low e (i + 1) i; omega)
  rw [h2, tab_step e (by omega : 0 < i + 1), hx, he, ht]
  obtain ⟨r, hr⟩ : ∃ r, n - (i + 1) = r + 1 := ⟨n - (i + 1) - 1, by omega⟩
  have hr' : n - (i + 1 + 1) = r := by omega
  rw [hr, hr', List.replicate_succ, List.set_append_right _ _ (by omega), hl, Nat.sub_self, List.set_cons_zero, List.append_assoc]
  rfl
theorem map_set (t : List Nat) (i x : Nat) : (t.map Int.ofNat).set i (x : Int) = (t.set i x).map Int.ofNat := by
  rw [List.map_set]; rfl
def eqs (r : List Int) (i j : Nat) : Bool := r.getD i 0 == r.getD j 0
/-- the row, its table, its letters -/
structure Good (r : List Int) (t : List Nat) (le : List Int) : Prop where
  pos : 0 < r.length
  tab : t = tab (eqs r) r.length
  nodup : le.Nodup
  sub : ∀ y ∈ r, y ∈ le
  len : le.length ≤ r.length
theorem good_start (x : Int) : Good [x] [0] [x] := ⟨by simp, rfl, by simp, by simp, by simp⟩
theorem Good.tlen {r : List Int} {t : List Nat} {le : List Int} (g : Good r t le) : t.length = r.length := by rw [g.tab, tab_length]
theorem Good.low {r : List Int} {t : List Nat} {le : List Int} (g : Good r t le) : Low t := by rw [g.tab]; exact tab_low _ _
theorem Good.ends_lt {r : List Int} {t : List Nat} {le : List Int} (g : Good r t le) : ∀ k ∈ ends t (t.getD (t.length - 1) 0), k < r.length := by
  intro k hk
  have h1 := ends_le g.low _ k hk
  have h2 := g.low (t.length - 1)
  have h3 := g.tlen
  have h4 := g.pos
  omega
/-- what is known of the numbers behind the ends so far, and their lengths -/
structure BInv (r : List Int) (pre : List Nat) (b : List Int) (q : List Nat) : Prop where
  len : b.length = q.length
  le : b.length ≤ pre.length
  pos : ∀ j, j < b.length → 0 < q.getD j 0
  hits : ∀ j, j < b.length → hit (fun k => r.getD k 0 == b.getD j 0) pre = q.getD j 0
  all : ∀ k ∈ pre, r.getD k 0 ∈ b
  sub : ∀ y ∈ b, ∃ k ∈ pre, y = r.getD k 0
theorem hit_append {p : Nat → Bool} {l m : List Nat} : hit p (l ++ m) = if hit p l = 0 then hit p m else hit p l := by
  induction l with
  | nil => rfl
  | cons k l ih =>
    cases h : p k with
    | true => rw [List.cons_append, hit_cons_pos h, hit_cons_pos h]; simp
    | false => rw [List.cons_append, hit_cons_neg h, hit_cons_neg h]; exact ih
theorem BInv.start (r : List Int) : BInv r [] [] [] := ⟨rfl, Nat.le_refl _, by simp, by simp, by simp, by simp⟩
theorem BInv.seen {r : List Int} {pre : List Nat} {b : List Int} {q : List Nat} {k : Nat} (h : BInv r pre b q) (hk : r.getD k 0 ∈ b) : BInv r (pre ++ [k]) b q where
  len := h.len
  le := by have := h.le; simp; omega
  pos := h.pos
  hits := fun j hj => by
    have h1 := h.hits j hj
    have h2 := h.pos j hj
    rw [hit_append, if_neg (by omega), h1]
  all := fun i hi => by
    rcases List.mem_append.mp hi with hi | hi
    · exact h.all i hi
    · rw [List.mem_singleton.mp hi]; exact hk
  sub := fun y hy => by obtain ⟨i, hi, e⟩ := h.sub y hy; exact ⟨i, by simp [hi], e⟩
theorem BInv.new {r : List Int} {pre : List Nat} {b : List Int} {q : List Nat} {k : Nat} (h : BInv r pre b q) (hk : r.getD k 0 ∉ b) : BInv r (pre ++ [k]) (b ++ [r.getD k 0]) (q ++ [k + 1]) := by
  have hl := h.len
  have gb : ∀ j, j < b.length → (b ++ [r.getD k 0]).getD j 0 = b.getD j 0 := fun j hj => by simp [List.getD_eq_getElem?_getD, List.getElem?_append_left hj]
  have gq : ∀ j, j < b.length → (q ++ [k + 1]).getD j 0 = q.getD j 0 := fun j hj => by simp [List.getD_eq_getElem?_getD, List.getElem?_append_left (show j < q.length by omega)]
  have eb : (b ++ [r.getD k 0]).getD b.length 0 = r.getD k 0 := by simp [List.getD_eq_getElem?_getD]
  have eq : (q ++ [k + 1]).getD b.length 0 = k + 1 := by rw [hl]; simp [List.getD_eq_getElem?_getD]
  refine ⟨by simp [hl], by have := h.le; simp; omega, fun j hj => ?_, fun j hj => ?_, fun i hi => ?_, fun y hy => ?_⟩
  · rw [List.length_append, List.length_singleton] at hj
    by_cases e : j = b.length
    · subst e; rw [eq]; omega
    · rw [gq j (by omega)]; exact h.pos j (by omega)
  · rw [List.length_append, List.length_singleton] at hj
    by_cases e : j = b.length
    · subst e
      rw [eq, eb, hit_append, if_pos]
      · exact hit_cons_pos (by simp)
      · refine hit_none fun i hi => ?_
        have := h.all i hi
        simp only [beq_eq_false_iff_ne, ne_eq]
        intro e; rw [e] at this; exact hk this
    · have hj' : j < b.length := by omega
      rw [gq j hj', gb j hj', hit_append, if_neg (by rw [h.hits j hj']; have := h.pos j hj'; omega), h.hits j hj']
  · rcases List.mem_append.mp hi with hi | hi
    · exact List.mem_append.mpr (.inl (h.all i hi))
    · rw [List.mem_singleton.mp hi]; simp
  · rcases List.mem_append.mp hy with hy | hy
    · obtain ⟨i, hi, e⟩ := h.sub y hy; exact ⟨i, by simp [hi], e⟩
    · exact ⟨k, by simp, List.mem_singleton.mp hy⟩
theorem getD_snoc_lt {r : List Int} {V : Int} {k : Nat} (h : k < r.length) : (r ++ [V]).getD k 0 = r.getD k 0 := by
  simp [List.getD_eq_getElem?_getD, List.getElem?_append_left h]
theorem getD_snoc {r : List Int} {V : Int} : (r ++ [V]).getD r.length 0 = V := by
  simp [List.getD_eq_getElem?_getD]
theorem Good.step {r : List Int} {t : List Nat} {le : List Int} (g : Good r t le) (V : Int) (x : Nat) (hx : hit (fun k => r.getD k 0 == V) (ends t (t.getD (t.length - 1) 0)) = x) :
    t ++ [x] = Mine.tab (eqs (r ++ [V])) (r ++ [V]).length := by
  have hp := g.pos
  have hl := g.tlen
  have he := g.ends_lt
  have h1 : Mine.tab (eqs (r ++ [V])) r.length = t := by
    rw [g.tab]
    refine tab_congr fun i j hi hj => ?_
    simp only [eqs, getD_snoc_lt hi, getD_snoc_lt hj]
  rw [List.length_append, List.length_singleton, tab_step _ hp, h1, ← hx]
  congr 2
  rw [hl] at he ⊢
  refine hit_congr fun k hk => ?_
  simp only [eqs, getD_snoc, getD_snoc_lt (he k hk)]
  rw [Bool.eq_iff_iff, beq_iff_eq, beq_iff_eq]
  exact eq_comm
theorem getD_mem {l : List Int} {j : Nat} (h : j < l.length) : l.getD j 0 ∈ l := by
  rw [List.getD_eq_getElem?_getD, List.getElem?_eq_getElem h]
  exact List.getElem_mem h
theorem Good.pick {r : List Int} {t : List Nat} {le : List Int} (g : Good r t le) {b : List Int} {q : List Nat} (h : BInv r (ends t (t.getD (t.length - 1) 0)) b q) {j : Nat} (hj : j < b.length) :
    Good (r ++ [b.getD j 0]) (t ++ [q.getD j 0]) le := by
  refine ⟨by simp, g.step _ _ (h.hits j hj), g.nodup, fun y hy => ?_, by have := g.len; simp; omega⟩
  rcases List.mem_append.mp hy with hy | hy
  · exact g.sub y hy
  · rw [List.mem_singleton.mp hy]
    obtain ⟨k, hk, e⟩ := h.sub _ (getD_mem hj)
    rw [e]
    exact g.sub _ (getD_mem (g.ends_lt k hk))
theorem Good.behind {r : List Int} {t : List Nat} {le : List Int} (g : Good r t le) {b : List Int} {q : List Nat} (h : BInv r (ends t (t.getD (t.length - 1) 0)) b q) : ∀ y ∈ b, y ∈ le := by
  intro y hy
  obtain ⟨k, hk, e⟩ := h.sub y hy
  rw [e]
  exact g.sub _ (getD_mem (g.ends_lt k hk))
theorem Good.none {r : List Int} {t : List Nat} {le : List Int} (g : Good r t le) {b : List Int} {q : List Nat} (h : BInv r (ends t (t.getD (t.length - 1) 0)) b q) {V : Int} (hV : V ∉ b) :
    t ++ [0] = Mine.tab (eqs (r ++ [V])) (r ++ [V]).length := by
  refine g.step V 0 (hit_none fun k hk => ?_)
  have := h.all k hk
  simp only [beq_eq_false_iff_ne, ne_eq]
  intro e; rw [e] at this; exact hV this
theorem Good.old {r : List Int} {t : List Nat} {le : List Int} (g : Good r t le) {b : List Int} {q : List Nat} (h : BInv r (ends t (t.getD (t.length - 1) 0)) b q) {V : Int} (hV : V ∉ b) (hl : V ∈ le) :
    Good (r ++ [V]) (t ++ [0]) le := by
  refine ⟨by simp, g.none h hV, g.nodup, fun y hy => ?_, by have := g.len; simp; omega⟩
  rcases List.mem_append.mp hy with hy | hy
  · exact g.sub y hy
  · rw [List.mem_singleton.mp hy]; exact hl
theorem Good.new {r : List Int} {t : List Nat} {le : List Int} (g : Good r t le) {b : List Int} {q : List Nat} (h : BInv r (ends t (t.getD (t.length - 1) 0)) b q) {V : Int} (hl : V ∉ le) :
    Good (r ++ [V]) (t ++ [0]) (le ++ [V]) := by
  refine ⟨by simp, g.none h (fun hb => hl (g.behind h V hb)), ?_, fun y hy => ?_, by have := g.len; simp; omega⟩
  · refine List.nodup_append.mpr ⟨g.nodup, by simp, fun a ha b hb => ?_⟩
    rw [List.mem_singleton.mp hb]
    intro e; rw [e] at ha; exact hl ha
  rcases List.mem_append.mp hy with hy | hy
  · exact List.mem_append.mpr (.inl (g.sub y hy))
  · exact List.mem_append.mpr (.inr hy)
/-- the row r' is read off the table t, so far -/
structure ReadOff (t : List Nat) (r : List Int) : Prop where
  pos : 0 < r.length
  le : r.length ≤ t.length
  old : ∀ i, 0 < i → i < r.length → 0 < t.getD i 0 → r.getD i 0 = r.getD (t.getD i 0 - 1) 0
  new : ∀ i, 0 < i → i < r.length → t.getD i 0 = 0 → ∀ k ∈ ends t (t.getD (i - 1) 0), r.getD i 0 ≠ r.getD k 0
/-- the ends of a prefix: members are ends of one another -/
theorem ends_sub {t : List Nat} (h : Low t) : ∀ k, ∀ j ∈ ends t k, ∀ i ∈ ends t k, i < j → 0 < j ∧ i ∈ ends t (t.getD (j - 1) 0) := by
  intro k
  induction k using Nat.strongRecOn with
  | _ k ih =>
    intro j hj i hi hij
    by_cases hk : k = 0
    · subst hk; simp [ends_zero] at hj hi; omega
    · rw [ends_pos h (by omega)] at hj hi
      have hlk := h (k - 1)
      rcases List.mem_cons.mp hj with rfl | hj
      · rcases List.mem_cons.mp hi with rfl | hi
        · omega
        · exact ⟨by omega, hi⟩
      · rcases List.mem_cons.mp hi with rfl | hi
        · have := ends_le h _ j hj; omega
        · exact ih _ (by omega) j hj i hi hij
theorem hit_pos {p : Nat → Bool} : ∀ {l : List Nat}, 0 < hit p l → hit p l - 1 ∈ l ∧ p (hit p l - 1) = true
  | [], h => by simp [hit] at h
  | k :: l, h => by
    cases hp : p k with
    | true => rw [hit_cons_pos hp]; simp [hp]
    | false =>
      rw [hit_cons_neg hp] at h ⊢
      have := hit_pos (p := p) (l := l) h
      exact ⟨by simp [this.1], this.2⟩
/-- in a falling list the first hit is the greatest -/
theorem hit_first {p : Nat → Bool} : ∀ {l : List Nat}, l.Pairwise (· > ·) → ∀ k ∈ l, p k = true → k + 1 ≤ hit p l
  | [], _, k, hk, _ => by simp at hk
  | j :: l, hl, k, hk, hp => by
    have h1 := List.pairwise_cons.mp hl
    cases hj : p j with
    | true =>
      rw [hit_cons_pos hj]
      rcases List.mem_cons.mp hk with rfl | hk
      · exact Nat.le_refl _
      · have := h1.1 k hk; omega
    | false =>
      rw [hit_cons_neg hj]
      rcases List.mem_cons.mp hk with rfl | hk
      · rw [hp] at hj; cases hj
      · exact hit_first h1.2 k hk hp
theorem ends_falling {t : List Nat} (h : Low t) : ∀ k, (ends t k).Pairwise (· > ·) := by
  intro k
  induction k using Nat.strongRecOn with
  | _ k ih =>
    by_cases hk : k = 0
    · subst hk; simp [ends_zero]
    · rw [ends_pos h (by omega)]
      have hlk := h (k - 1)
      refine List.pairwise_cons.mpr ⟨fun j hj => ?_, ih _ (by omega)⟩
      have := ends_le h _ j hj
      omega
theorem tab_at (e : Nat → Nat → Bool) {n i : Nat} (h0 : 0 < i) (hi : i < n) : (tab e n).getD i 0 = hit (e i) (ends (tab e n) ((tab e n).getD (i - 1) 0)) := by
  have h1 := tab_get e hi
  rw [h1, tab_step e h0, List.getD_eq_getElem?_getD, List.getElem?_append_right (by rw [tab_length]; exact Nat.le_refl _), tab_length]
  simp only [Nat.sub_self, List.getElem?_cons_zero, Option.getD_some]
  have h2 : ∀ j, j < i → (tab e i).getD j 0 = (tab e n).getD j 0 := by
    intro j hj
    rw [← tab_take e n i (by omega), List.getD_eq_getElem?_getD, List.getD_eq_getElem?_getD, List.getElem?_take_of_lt hj]
  rw [h2 (i - 1) (by omega)]
  rw [ends_pre h2 (tab_low e i) (by have := tab_low e n (i - 1); omega)]
/-- the heart: the row's pattern on the ends is the same -/
theorem same_pattern {r r' : List Int} {t : List Nat} {le : List Int} (g : Good r t le) (o : ReadOff t r') (hl : r'.length = t.length) :
    ∀ i, i < t.length → 0 < i → ∀ k ∈ ends t (t.getD (i - 1) 0), (eqs r i k = true ↔ eqs r' i k = true) := by
  intro i
  induction i using Nat.strongRecOn with
  | _ i ih =>
    intro hi h0 k hk
    have hlow := g.low
    have htl := g.tlen
    have hlt : ∀ j ∈ ends t (t.getD (i - 1) 0), j < i := fun j hj => by
      have := ends_le hlow _ j hj
      have := hlow (i - 1)
      omega
    have hat : t.getD i 0 = hit (eqs r i) (ends t (t.getD (i - 1) 0)) := by
      have := tab_at (eqs r) h0 (show i < r.length by omega)
      rw [← g.tab] at this
      exact this
    by_cases hz : t.getD i 0 = 0
    · have h1 := hit_zero (hat.symm.trans hz) k hk
      have h2 := o.new i h0 (by omega) hz k hk
      constructor
      · intro h; rw [h1] at h; cases h
      · intro h; exact absurd (by simpa [eqs] using h) h2
    · have hp : 0 < hit (eqs r i) (ends t (t.getD (i - 1) 0)) := by omega
      obtain ⟨hm, he⟩ := hit_pos hp
      rw [← hat] at hm he
      have hr' := o.old i h0 (by omega) (by omega)
      have he' : r.getD i 0 = r.getD (t.getD i 0 - 1) 0 := by simpa [eqs] using he
      have hd : t.getD i 0 - 1 < i := hlt _ hm
      rcases Nat.lt_trichotomy k (t.getD i 0 - 1) with hlt' | heq | hgt
      · obtain ⟨hp', hk'⟩ := ends_sub hlow _ _ hm k hk hlt'
        have := ih (t.getD i 0 - 1) hd (by omega) hp' k hk'
        simp only [eqs, beq_iff_eq] at this ⊢
        rw [he', hr']; exact this
      · simp only [eqs, beq_iff_eq]
        rw [heq]
        exact ⟨fun _ => hr', fun _ => he'⟩
      · obtain ⟨hp', hk'⟩ := ends_sub hlow _ k hk _ hm hgt
        have := ih k (hlt k hk) (by have := hlt k hk; omega) hp' _ hk'
        simp only [eqs, beq_iff_eq] at this ⊢
        rw [he', hr']
        exact ⟨fun h => (this.mp h.symm).symm, fun h => (this.mpr h.symm).symm⟩
/-- the row that is read off has the same table -/
theorem read_tab {r r' : List Int} {t : List Nat} {le : List Int} (g : Good r t le) (o : ReadOff t r') (hl : r'.length = t.length) : tab (eqs r') r'.length = t := by
  have key : ∀ n, n ≤ t.length → tab (eqs r') n = t.take n := by
    intro n
    induction n with
    | zero => intro _; simp [tab]
    | succ n ih =>
      intro hn
      have htl := g.tlen
      have hlow := g.low
      by_cases h0 : n = 0
      · subst h0
        have h1 : t.take 1 = tab (eqs r) 1 := by rw [g.tab]; exact tab_take _ _ _ (by omega)
        rw [h1]; rfl
      · have h1 := ih (by omega)
        rw [tab_step _ (by omega : 0 < n), h1]
        have hg : ∀ j, j < n → (t.take n).getD j 0 = t.getD j 0 := fun j hj => by
          rw [List.getD_eq_getElem?_getD, List.getD_eq_getElem?_getD, List.getElem?_take_of_lt hj]
        have hlow' : Low (t.take n) := fun j => by
          by_cases hj : j < n
          · rw [hg j hj]; exact hlow j
          · rw [List.getD_eq_getElem?_getD, List.getElem?_take]; simp [hj]
        rw [hg (n - 1) (by omega), ends_pre hg hlow' (by have := hlow (n - 1); omega)]
        have hat : t.getD n 0 = hit (eqs r n) (ends t (t.getD (n - 1) 0)) := by
          have := tab_at (eqs r) (by omega : 0 < n) (show n < r.length by omega)
          rw [← g.tab] at this
          exact this
        rw [hit_congr (q := eqs r n) fun k hk => by
          have := same_pattern g o hl n (by omega) (by omega) k hk
          rw [Bool.eq_iff_iff]; exact this.symm, ← hat]
        rw [List.take_add_one, List.getD_eq_getElem?_getD, List.getElem?_eq_getElem (by omega)]
        rfl
  rw [hl, key _ (Nat.le_refl _), List.take_length]
theorem mex_exists (b : List Int) : ∃ V rest, ((List.range (b.length + 1)).map Int.ofNat).filter (fun a => decide (a ∉ b)) = V :: rest ∧ V ∉ b := by
  cases hf : ((List.range (b.length + 1)).map Int.ofNat).filter (fun a => decide (a ∉ b)) with
  | nil =>
    exfalso
    have hs : (List.range (b.length + 1)).map Int.ofNat ⊆ b := by
      intro a ha
      have := List.filter_eq_nil_iff.mp hf a ha
      simpa using this
    have hn : ((List.range (b.length + 1)).map Int.ofNat).Nodup := by
      refine List.Pairwise.map Int.ofNat (fun a b h => ?_) List.nodup_range
      intro e; exact h (Int.ofNat.inj e)
    have := hn.length_le_of_subset hs
    simp at this
    omega
  | cons V rest =>
    refine ⟨V, rest, rfl, ?_⟩
    have : V ∈ ((List.range (b.length + 1)).map Int.ofNat).filter (fun a => decide (a ∉ b)) := by rw [hf]; exact .head _
    simpa using (List.mem_filter.mp this).2
theorem readOff_start {t : List Nat} (h : 0 < t.length) : ReadOff t [0] := ⟨by simp, by simp; omega, fun i h0 h1 => by simp at h1; omega, fun i h0 h1 => by simp at h1; omega⟩
theorem ReadOff.old_step {t : List Nat} {r : List Int} (h : ReadOff t r) (hlow : Low t) (hi : r.length < t.length) (hp : 0 < t.getD r.length 0) : ReadOff t (r ++ [r.getD (t.getD r.length 0 - 1) 0]) := by
  have hd := hlow r.length
  refine ⟨by simp, by simp; omega, fun i h0 h1 h2 => ?_, fun i h0 h1 h2 k hk => ?_⟩
  · have hdi := hlow i
    by_cases e : i = r.length
    · subst e
      rw [getD_snoc, getD_snoc_lt (by omega)]
    · have h3 : i < r.length := by simp at h1; omega
      rw [getD_snoc_lt h3, getD_snoc_lt (by omega)]
      exact h.old i h0 h3 h2
  · by_cases e : i = r.length
    · subst e; omega
    · have h3 : i < r.length := by simp at h1; omega
      have h4 := ends_le hlow _ k hk
      have h5 := hlow (i - 1)
      rw [getD_snoc_lt h3, getD_snoc_lt (by omega)]
      exact h.new i h0 h3 h2 k hk
theorem ReadOff.new_step {t : List Nat} {r : List Int} {V : Int} (h : ReadOff t r) (hlow : Low t) (hi : r.length < t.length) (hz : t.getD r.length 0 = 0) (hV : ∀ k ∈ ends t (t.getD (r.length - 1) 0), V ≠ r.getD k 0) : ReadOff t (r ++ [V]) := by
  have hpos := h.pos
  refine ⟨by simp, by simp; omega, fun i h0 h1 h2 => ?_, fun i h0 h1 h2 k hk => ?_⟩
  · have hdi := hlow i
    by_cases e : i = r.length
    · subst e; omega
    · have h3 : i < r.length := by simp at h1; omega
      rw [getD_snoc_lt h3, getD_snoc_lt (by omega)]
      exact h.old i h0 h3 h2
  · have h4 := ends_le hlow _ k hk
    have h5 := hlow (i - 1)
    by_cases e : i = r.length
    · subst e
      rw [getD_snoc, getD_snoc_lt (by omega)]
      exact hV k hk
    · have h3 : i < r.length := by simp at h1; omega
      rw [getD_snoc_lt h3, getD_snoc_lt (by omega)]
      exact h.new i h0 h3 h2 k hk
theorem take_getD {t : List Nat} {i j : Nat} (h : j < i) : (t.take i).getD j 0 = t.getD j 0 := by
  rw [List.getD_eq_getElem?_getD, List.getD_eq_getElem?_getD, List.getElem?_take_of_lt h]
theorem low_take {t : List Nat} (h : Low t) (i : Nat) : Low (t.take i) := fun j => by
  by_cases hj : j < i
  · rw [take_getD hj]; exact h j
  · rw [List.getD_eq_getElem?_getD, List.getElem?_take]; simp [hj]
theorem ends_take {t : List Nat} (h : Low t) {i : Nat} (h0 : 0 < i) (hi : i ≤ t.length) : ends (t.take i) ((t.take i).getD ((t.take i).length - 1) 0) = ends t (t.getD (i - 1) 0) := by
  have hl : (t.take i).length = i := by rw [List.length_take]; omega
  rw [hl, take_getD (by omega)]
  exact ends_pre (m := i) (fun j hj => take_getD hj) (low_take h i) (by have := h (i - 1); omega)
section
open PyProof.Rows.LCg PyProof.Rows.LCt
/-- the values ys, each in the relation R to its number -/
inductive Els (R : Int → Value → Prop) : List Value → List Int → Prop where
  | nil : Els R [] []
  | cons {a : Int} {y : Value} {ys : List Value} {as : List Int} : R a y → Els R ys as → Els R (y :: ys) (a :: as)
theorem Els.snoc {R : Int → Value → Prop} {a : Int} {y : Value} : ∀ {ys : List Value} {as : List Int}, Els R ys as → R a y → Els R (ys ++ [y]) (as ++ [a])
  | _, _, .nil, h => .cons h .nil
  | _, _, .cons h r, h' => .cons h (r.snoc h')
theorem Els.ints {R : Int → Value → Prop} {f : Int → Int} (hR : ∀ a y, R a y → ∃ t, y = .int (f a) t) : ∀ {ys : List Value} {as : List Int}, Els R ys as → IntsAre ys (as.map f)
  | _, _, .nil => .nil
  | _, _, .cons h r => by
    obtain ⟨t, rfl⟩ := hR _ _ h
    exact .cons _ _ (r.ints hR)
theorem Els.strs {R : Int → Value → Prop} {f : Int → Str} (hR : ∀ a y, R a y → ∃ t, y = .str (f a) t) : ∀ {ys : List Value} {as : List Int}, Els R ys as → StrsAre ys (as.map f)
  | _, _, .nil => .nil
  | _, _, .cons h r => by
    obtain ⟨t, rfl⟩ := hR _ _ h
    exact .cons _ _ (r.strs hR)
theorem off1_ne {D : Addr} : ∀ {l : List (Addr × Obj)}, Off1 D l → ∀ p ∈ l, p.1 ≠ D
  | [], _, _, h => nomatch h
  | _ :: _, x, p, h => by
    rcases List.mem_cons.mp h with rfl | h
    · exact x.1
    · exact off1_ne x.2 p h
section
variable {prog : Program} {w : World} {A : Around} {E : Value → Shared → Prop} {s : Shared} {h₀ : Heap} {L : Addr} {m : Str → Option Value} {env : Env}
/-- the end of an element or a test: everything that is known stands -/
def ElEnd (h₀ : Heap) (L : Addr) (m : Str → Option Value) (s₁ : Shared) (need : List (Addr × Obj)) (G : Prop) (s₂ : Shared) : Prop :=
  ∃ h' tk all, s₂ = { s₁ with heap := h', toks := tk } ∧ Fr h₀ L h' m ∧ News h₀ L h' all ∧ (∀ p ∈ need, p ∈ all) ∧ G
theorem elEnd {G : Prop} {s₁ : Shared} {need all : List (Addr × Obj)} {h' : Heap} {tk : Nat} (F : Fr h₀ L h' m) (N : News h₀ L h' all) (hs : ∀ p ∈ need, p ∈ all) (g : G) : ElEnd h₀ L m s₁ need G { s₁ with heap := h', toks := tk } := ⟨h', tk, all, rfl, F, N, hs, g⟩
theorem restT {ct elt : Expr} {x : Str} {scope : Scope} {cl : List (Str × Addr)} {S : List (Addr × Obj) → Prop} {P : Nat → Value → Prop} {Fin : List Value → List (Addr × Obj) → Prop} {news : List (Addr × Obj)} {ks : List Int} (R : Int → Value → Prop) (p : Int → Bool)
    (hP : ∀ i v, i < ks.length → P i v → ∃ a t, ks[i]? = some a ∧ v = .int a t) (hS : S news)
    (turn : ∀ a t I oI C oC D m₂ h tk ys (E' : Value → Shared → Prop), a ∈ ks → NsObj oC m₂ → m₂ x = some (.int a t) → Fr h₀ L h m → News h₀ L h ((I, oI) :: (C, oC) :: (D, lst ys) :: news) →
      wpAny (model prog w) A (isTrue ct (compEnvC scope cl C env) (eval ct (compEnvC scope cl C env))) (fun ok s' => if ok = true then
        wpAny (model prog w) A (eval elt (compEnvC scope cl C env)) (fun y => ElEnd h₀ L m { s with heap := h, toks := tk } ((I, oI) :: (C, oC) :: (D, lst ys) :: news) (p a = true ∧ R a y)) E' s'
        else ElEnd h₀ L m { s with heap := h, toks := tk } ((I, oI) :: (C, oC) :: (D, lst ys) :: news) (p a = false) s') E' { s with heap := h, toks := tk })
    (fin : ∀ ys, Els R ys (ks.filter p) → Fin ys news) :
    ∀ k i ys, i + k = ks.length → Els R ys ((ks.take i).filter p) → CompRestT prog w A h₀ L m env ct elt x scope cl s S P Fin k i ys news := by
  intro k
  induction k with
  | zero =>
    intro i ys hi he
    refine CompRestT.zero (fin ys ?_)
    rwa [List.take_of_length_le (by omega)] at he
  | succ k ih =>
    intro i ys hi he
    refine CompRestT.succ fun v I oI C oC D m₂ h tk E' hv hN hx F N off ne => ?_
    obtain ⟨a, t, ha, rfl⟩ := hP i v (by omega) hv
    have htake : (ks.take (i + 1)).filter p = (ks.take i).filter p ++ (if p a then [a] else []) := by
      rw [List.take_add_one, ha]
      simp only [Option.toList_some, List.filter_append]
      congr 1
      cases hp : p a <;> simp [hp]
    refine wpAny_mono (turn a t I oI C oC D m₂ h tk ys E' (List.mem_of_getElem? ha) hN hx F N) (fun ok s' q => ?_) fun _ _ e => e
    cases ok with
    | true =>
      simp only [if_true] at q ⊢
      refine wpAny_mono q (fun y s'' q => ?_) fun _ _ e => e
      obtain ⟨h', tk', all, rfl, F', N', hs, hp, hR⟩ := q
      refine CompEnd.intro F' N' news hs off hS (ih (i + 1) _ (by omega) ?_)
      rw [htake, hp]
      exact he.snoc hR
    | false =>
      simp only [Bool.false_eq_true, if_false] at q ⊢
      obtain ⟨h', tk', all, rfl, F', N', hs, hp⟩ := q
      refine CompEnd.intro F' N' news hs off hS (ih (i + 1) _ (by omega) ?_)
      rw [htake, hp]
      simpa using he
theorem restU {elt : Expr} {x : Str} {scope : Scope} {cl : List (Str × Addr)} {S : List (Addr × Obj) → Prop} {P : Nat → Value → Prop} {Fin : List Value → List (Addr × Obj) → Prop} {news : List (Addr × Obj)} {ks : List Int} (R : Int → Value → Prop)
    (hP : ∀ i v, i < ks.length → P i v → ∃ a t, ks[i]? = some a ∧ v = .int a t) (hS : S news)
    (turn : ∀ a t I oI C oC D m₂ h tk ys (E' : Value → Shared → Prop), a ∈ ks → NsObj oC m₂ → m₂ x = some (.int a t) → Fr h₀ L h m → News h₀ L h ((I, oI) :: (C, oC) :: (D, lst ys) :: news) →
      wpAny (model prog w) A (eval elt (compEnvC scope cl C env)) (fun y => ElEnd h₀ L m { s with heap := h, toks := tk } ((I, oI) :: (C, oC) :: (D, lst ys) :: news) (R a y)) E' { s with heap := h, toks := tk })
    (fin : ∀ ys, Els R ys ks → Fin ys news) :
    ∀ k i ys, i + k = ks.length → Els R ys (ks.take i) → CompRest prog w A h₀ L m env elt x scope cl s S P Fin k i ys news := by
  intro k
  induction k with
  | zero =>
    intro i ys hi he
    refine CompRest.zero (fin ys ?_)
    rwa [List.take_of_length_le (by omega)] at he
  | succ k ih =>
    intro i ys hi he
    refine CompRest.succ fun v I oI C oC D m₂ h tk E' hv hN hx F N off ne => ?_
    obtain ⟨a, t, ha, rfl⟩ := hP i v (by omega) hv
    have htake : ks.take (i + 1) = ks.take i ++ [a] := by
      rw [List.take_add_one, ha]; rfl
    refine wpAny_mono (turn a t I oI C oC D m₂ h tk ys E' (List.mem_of_getElem? ha) hN hx F N) (fun y s'' q => ?_) fun _ _ e => e
    obtain ⟨h', tk', all, rfl, F', N', hs, hR⟩ := q
    refine CompEnd.intro F' N' news hs off hS (ih (i + 1) _ (by omega) ?_)
    rw [htake]
    exact he.snoc hR
theorem intsAre_at {vs : List Value} {ns : List Int} (hi : IntsAre vs ns) : ∀ (i : Nat) (v : Value), vs.toArray[i]? = some v → ∃ a t, ns[i]? = some a ∧ v = .int a t := by
  intro i v hv
  have hv' : vs[i]? = some v := by simpa using hv
  have hlt : i < ns.length := by rw [← hi.length]; exact (List.getElem?_eq_some_iff.mp hv').1
  obtain ⟨t, ht⟩ := hi.get i ns[i] (by simp [hlt])
  refine ⟨ns[i], t, by simp [hlt], ?_⟩
  rw [ht] at hv'; exact (Option.some.inj hv').symm
theorem srcT_list {ct elt : Expr} {x : Str} {scope : Scope} {cl : List (Str × Addr)} {Q : Value → Shared → Prop} {ax : Addr} {vs : List Value} {ns : List Int} {n : Nat} {news : List (Addr × Obj)} (R : Int → Value → Prop) (p : Int → Bool)
    (hh : A.handled = none) (F : Fr h₀ L s.heap m) (N : News h₀ L s.heap news) (hm : (ax, listOf vs.toArray n) ∈ news) (hi : IntsAre vs ns) (hsz : ns.length ≤ 1000)
    (turn : ∀ a t I oI C oC D m₂ h tk ys (E' : Value → Shared → Prop), a ∈ ns → NsObj oC m₂ → m₂ x = some (.int a t) → Fr h₀ L h m → News h₀ L h ((I, oI) :: (C, oC) :: (D, lst ys) :: news) →
      wpAny (model prog w) A (isTrue ct (compEnvC scope cl C env) (eval ct (compEnvC scope cl C env))) (fun ok s' => if ok = true then
        wpAny (model prog w) A (eval elt (compEnvC scope cl C env)) (fun y => ElEnd h₀ L m { s with heap := h, toks := tk } ((I, oI) :: (C, oC) :: (D, lst ys) :: news) (p a = true ∧ R a y)) E' s'
        else ElEnd h₀ L m { s with heap := h, toks := tk } ((I, oI) :: (C, oC) :: (D, lst ys) :: news) (p a = false) s') E' { s with heap := h, toks := tk })
    (fin : ∀ D ys k h tk, Fr h₀ L h m → News h₀ L h ((D, listOf ys.toArray k) :: news) → (∀ q ∈ news, q.1 ≠ D) → Els R ys (ns.filter p) → Q (.ref D) { s with heap := h, toks := tk }) :
    CompSrcT prog w A h₀ L m env ct elt x scope cl (fun s₂ => FinE h₀ L m s₂ Q) (.ref ax) s := by
  have hlen := hi.length
  refine CompSrcT.ledger hh F N hm (by rw [List.size_toArray, sizeLine_eq]; omega) fun g => ?_
  have hz : vs.toArray.size = ns.length := by rw [List.size_toArray]; exact hlen
  refine restT (ks := ns) R p (fun i v _ => intsAre_at hi i v) (.inr ⟨_, hm, rfl, _, rfl⟩) ?_ ?_ _ 0 [] (by omega) .nil
  · exact turn
  · intro ys he D h tk F' N' o1
    exact fin D ys _ h tk F' N' (off1_ne o1) he
theorem srcT_range {ct elt : Expr} {x : Str} {scope : Scope} {cl : List (Str × Addr)} {Q : Value → Shared → Prop} {r : Addr} {b : Int} {t u v : Tok} {n : Nat} {news : List (Addr × Obj)} (R : Int → Value → Prop) (p : Int → Bool)
    (hh : A.handled = none) (F : Fr h₀ L s.heap m) (N : News h₀ L s.heap news) (hr : IsRange s.heap r 0 b 1 t u v) (hb : b = (n : Int)) (hsz : n ≤ 1000)
    (turn : ∀ a t I oI C oC D m₂ h tk ys (E' : Value → Shared → Prop), a ∈ (List.range n).map Int.ofNat → NsObj oC m₂ → m₂ x = some (.int a t) → Fr h₀ L h m → News h₀ L h ((I, oI) :: (C, oC) :: (D, lst ys) :: news) →
      wpAny (model prog w) A (isTrue ct (compEnvC scope cl C env) (eval ct (compEnvC scope cl C env))) (fun ok s' => if ok = true then
        wpAny (model prog w) A (eval elt (compEnvC scope cl C env)) (fun y => ElEnd h₀ L m { s with heap := h, toks := tk } ((I, oI) :: (C, oC) :: (D, lst ys) :: news) (p a = true ∧ R a y)) E' s'
        else ElEnd h₀ L m { s with heap := h, toks := tk } ((I, oI) :: (C, oC) :: (D, lst ys) :: news) (p a = false) s') E' { s with heap := h, toks := tk })
    (fin : ∀ D ys k h tk, Fr h₀ L h m → News h₀ L h ((D, listOf ys.toArray k) :: news) → (∀ q ∈ news, q.1 ≠ D) → Els R ys (((List.range n).map Int.ofNat).filter p) → Q (.ref D) { s with heap := h, toks := tk }) :
    CompSrcT prog w A h₀ L m env ct elt x scope cl (fun s₂ => FinE h₀ L m s₂ Q) (.ref r) s := by
  subst hb
  refine CompSrcT.range (n := n) hh F N hr (small_one (by omega) (by omega) (by omega) (by omega)) (by rw [rangeSize_nat]; omega) (by rw [sizeLine_eq]; omega) fun g => ?_
  refine restT (S := fun _ => True) (ks := (List.range n).map Int.ofNat) R p ?_ trivial ?_ ?_ n 0 [] (by simp) .nil
  · rintro i v hi ⟨t, rfl⟩
    rw [List.length_map, List.length_range] at hi
    exact ⟨(i : Int), t, by simp [hi], by rw [Int.zero_add]⟩
  · exact turn
  · intro ys he D h tk F' N' o1
    exact fin D ys _ h tk F' N' (off1_ne o1) he
theorem srcU_list {elt : Expr} {x : Str} {scope : Scope} {cl : List (Str × Addr)} {Q : Value → Shared → Prop} {ax : Addr} {vs : List Value} {ns : List Int} {n : Nat} {news : List (Addr × Obj)} (R : Int → Value → Prop)
    (hh : A.handled = none) (F : Fr h₀ L s.heap m) (N : News h₀ L s.heap news) (hm : (ax, listOf vs.toArray n) ∈ news) (hi : IntsAre vs ns) (hsz : ns.length ≤ 1000)
    (turn : ∀ a t I oI C oC D m₂ h tk ys (E' : Value → Shared → Prop), a ∈ ns → NsObj oC m₂ → m₂ x = some (.int a t) → Fr h₀ L h m → News h₀ L h ((I, oI) :: (C, oC) :: (D, lst ys) :: news) →
      wpAny (model prog w) A (eval elt (compEnvC scope cl C env)) (fun y => ElEnd h₀ L m { s with heap := h, toks := tk } ((I, oI) :: (C, oC) :: (D, lst ys) :: news) (R a y)) E' { s with heap := h, toks := tk })
    (fin : ∀ D ys k h tk, Fr h₀ L h m → News h₀ L h ((D, listOf ys.toArray k) :: news) → (∀ q ∈ news, q.1 ≠ D) → Els R ys ns → Q (.ref D) { s with heap := h, toks := tk }) :
    CompSrc prog w A h₀ L m env elt x scope cl (fun s₂ => FinE h₀ L m s₂ Q) (.ref ax) s := by
  have hlen := hi.length
  refine CompSrc.ledger hh F N hm (by rw [List.size_toArray, sizeLine_eq]; omega) fun g => ?_
  have hz : vs.toArray.size = ns.length := by rw [List.size_toArray]; exact hlen
  refine restU (ks := ns) R (fun i v _ => intsAre_at hi i v) (.inr ⟨_, hm, rfl, _, rfl⟩) ?_ ?_ _ 0 [] (by omega) .nil
  · exact turn
  · intro ys he D h tk F' N' o1
    exact fin D ys _ h tk F' N' (off1_ne o1) he
end
end
set_option maxRecDepth 100000 in
set_option maxHeartbeats 8000000 in
open_top hd01 for PySem.Challenge.rw_dz0097_01
abbrev P1 := PySem.Challenge.rw_dz0097_01.row.prog
abbrev myA (dp un : Nat) (gd : Option (List Code)) (fr : List Env) : Around := { handled := none, depth := dp, frames := some fr, guards := gd, units := un }
def Con (w : World) (mean : ExcName → Option Value) (mg mb : Str → Option Value) (d : Nat) (f : Addr) (args : List Value) (news : List (Addr × Obj)) (Post : Value → List (Addr × Obj) → Prop) : Prop :=
  ∀ (dp un : Nat) (gd : Option (List Code)) (env : Env) (outer : List Env) (A₀ : Around) (base h₀ : Heap) (L : Addr) (m : Str → Option Value) (s : Shared)
    (Q E : Value → Shared → Prop),
    Below A₀ base outer h₀ → Fr h₀ L s.heap m → (Mine.hd01.heap_39 w.params).In h₀ → News h₀ L s.heap news → Top Mine.hd01.view_39 (looseW Mine.hd01.view_39 []) mean mg mb h₀ → env.frame = some L → env.scope.kind = .function → dp + d < recursionLimit → un + 8 * d < cLine →
    (∀ r tl h' tk', Fr h₀ L h' m → News h₀ L h' (tl ++ news) → (∀ q ∈ news, ∀ p ∈ tl, q.1 < p.1) → Post r tl → Q r { s with heap := h', toks := tk' }) →
    wpAny (model PySem.Challenge.rw_dz0097_01.row.prog w) (myA dp un gd (env :: outer)) (call (.ref f) args) Q E s
section
variable {prog : Program} {w : World} {A : Around} {E : Value → Shared → Prop} {Q : Flow → Shared → Prop} {s : Shared} {env : Env} {h₀ : Heap} {L : Addr}
theorem while_else {σ : Type} {test : Expr} {body orelse : List Stmt} {pos : Pos} {m₀ : Str → Option Value} (Led : σ → List (Addr × Obj)) (ps : σ → List (Str × Value)) (Facts : σ → Prop) (stored : List Str) (P : σ → Prop) (μ : σ → Nat) (c₀ : σ)
    (F : Fr h₀ L s.heap m₀) (N : News h₀ L s.heap (Led c₀)) (hf : Facts c₀) (hk : ∀ p ∈ ps c₀, m₀ p.1 = some p.2) (hp : P c₀)
    (turn : ∀ (c : σ) (u : Str → Option Value) h tk, Facts c → P c → Fr h₀ L h (kstB (fun z => if stored.contains z then u z else m₀ z) (ps c)) → News h₀ L h (Led c) →
      wpAny (model prog w) A (isTrue test env (eval test env)) (fun b s₂ =>
        if b = true then wpAny (model prog w) A (execs body env) (KswPost h₀ L s Led ps Facts stored m₀ P μ Q c) E s₂ else wpAny (model prog w) A (execs orelse env) Q E s₂) E { s with heap := h, toks := tk })
    (hE : PassesOwn (model prog w) A env E) :
    wpAny (model prog w) A (exec (.While test body orelse pos) env) Q E s := by
  refine wpAny_While (codeAny_whileLoop (fun n s' => ∃ c h₁ tk₁ m₁, s' = { s with heap := h₁, toks := tk₁ } ∧ Fr h₀ L h₁ m₁ ∧ News h₀ L h₁ (Led c) ∧ μ c = n ∧ Facts c ∧ (∀ p ∈ ps c, m₁ p.1 = some p.2) ∧ (∀ z, (∀ p ∈ ps c, z ≠ p.1) → stored.contains z = false → m₁ z = m₀ z) ∧ P c) ?_ (μ c₀) ⟨c₀, s.heap, s.toks, m₀, rfl, F, N, rfl, hf, hk, fun _ _ _ => rfl, hp⟩)
  rintro n s' ⟨c, h₁, tk₁, m₁, rfl, F₁, N₁, hsz, hf', h1, h2, hp'⟩
  refine wpAny_mono (turn c m₁ h₁ tk₁ hf' hp' (ksw_fr h1 h2 F₁) N₁) (fun b s₂ q => ?_) hE
  cases b with
  | false =>
    simp only [Bool.false_eq_true, if_false] at q ⊢
    exact wpAny_mono q (fun _ _ x => x) hE
  | true =>
    simp only [if_true] at q ⊢
    refine wpAny_mono q (fun f s₃ q => ?_) hE
    cases f with
    | ret v => exact q
    | brk => exact q
    | next =>
      obtain ⟨c', h', tk', m', news', rfl, F', N', hn, hf9, hk9, hr9, hp9, hm9⟩ := q
      exact ⟨μ c', by omega, c', h', tk', m', rfl, F', fun p hp => N' p (hn p hp), rfl, hf9, hk9, hr9, hp9⟩
    | cont =>
      obtain ⟨c', h', tk', m', news', rfl, F', N', hn, hf9, hk9, hr9, hp9, hm9⟩ := q
      exact ⟨μ c', by omega, c', h', tk', m', rfl, F', fun p hp => N' p (hn p hp), rfl, hf9, hk9, hr9, hp9⟩
end
theorem sub_own {α : Type} {x : α} {a b : List α} : ∀ p ∈ x :: a, p ∈ x :: (a ++ b) := by
  intro p hp; rcases List.mem_cons.mp hp with rfl | hp
  · exact .head _
  · exact .tail _ (List.mem_append.mpr (.inl hp))
theorem own_sub {α : Type} {x : α} {a b : List α} : ∀ p ∈ b, p ∈ x :: (a ++ b) := fun _ hp => .tail _ (List.mem_append.mpr (.inr hp))
theorem my_set {prog : Program} {w : World} {A : Around} {E : Value → Shared → Prop} {s : Shared} {h₀ : Heap} {L D : Addr} {m : Str → Option Value} {rest : List (Addr × Obj)} {vs : List Value} {ns : List Int} {n : Nat} {k x : Int} {t u : Tok} {Q : Unit → Shared → Prop}
    (F : Fr h₀ L s.heap m) (N : News h₀ L s.heap ((D, listOf vs.toArray n) :: rest)) (hne : ∀ p ∈ rest, p.1 ≠ D) (hi : IntsAre vs ns) (h0 : 0 ≤ k) (h1 : k < ns.length) (hfit : k < 2 ^ 63)
    (h : ∀ h' vs', Fr h₀ L h' m → News h₀ L h' ((D, listOf vs'.toArray n) :: rest) → IntsAre vs' (ns.set k.toNat x) → Q () { s with heap := h' }) :
    wpAny (model prog w) A (setItem (.ref D) (.int k t) (.int x u)) Q E s :=
  ksa_set F N (Upd.head hne) hi h0 h1 hfit fun h' F' N' i' _ _ => h h' _ F' N' i'
theorem con_use {w : World} {mean : ExcName → Option Value} {mg mb : Str → Option Value} {d : Nat} {f : Addr} {args : List Value} {news : List (Addr × Obj)} {Post : Value → List (Addr × Obj) → Prop} {dp un : Nat} {gd : Option (List Code)} {env : Env} {outer : List Env} {A A₀ : Around} {base h₀ : Heap} {L : Addr} {m : Str → Option Value} {s : Shared}
    {Q E : Value → Shared → Prop} (C : Con w mean mg mb d f args news Post) (B : Below A₀ base outer h₀) (F : Fr h₀ L s.heap m) (X : (Mine.hd01.heap_39 w.params).In h₀) (N : News h₀ L s.heap news) (T : Top Mine.hd01.view_39 (looseW Mine.hd01.view_39 []) mean mg mb h₀)
    (hA : A = myA dp un gd (env :: outer)) (hf : env.frame = some L) (hk : env.scope.kind = .function) (hd : dp + d < recursionLimit) (hu : un + 8 * d < cLine)
    (h : ∀ r tl h' tk', Fr h₀ L h' m → News h₀ L h' (tl ++ news) → (∀ q ∈ news, ∀ p ∈ tl, q.1 < p.1) → Post r tl → Q r { s with heap := h', toks := tk' }) :
    wpAny (model PySem.Challenge.rw_dz0097_01.row.prog w) A (call (.ref f) args) Q E s := by
  subst hA
  exact C _ _ _ _ _ _ _ _ _ _ _ _ _ B F X N T hf hk hd hu h
theorem news_list {h₀ : Heap} {L : Addr} {h : Heap} {news : List (Addr × Obj)} {l : Addr} {vs : List Value} {n : Nat} (N : News h₀ L h news) (hm : (l, listOf vs.toArray n) ∈ news) : h.IsList l vs.toArray := PySem.IsL.isList (n := n) (N _ hm).1
theorem my_notin {prog : Program} {w : World} {A : Around} {E : Value → Shared → Prop} {s : Shared} {l : Addr} {vs : List Value} {ns : List Int} {k : Int} {t : Tok} {Q : Value → Shared → Prop} (hl : s.heap.IsList l vs.toArray) (hi : IntsAre vs ns)
    (h1 : k ∉ ns → Q (.bool true) s) (h2 : k ∈ ns → Q (.bool false) s) : wpAny (model prog w) A (compareOp .NotIn (.int k t) (.ref l)) Q E s := by
  refine notin_list_ints hl hi ?_
  by_cases h : k ∈ ns
  · have : (!ns.any (· == k)) = false := by simp [h]
    rw [this]; exact h2 h
  · have : (!ns.any (· == k)) = true := by
      simp only [Bool.not_eq_true', List.any_eq_false, beq_iff_eq]
      intro x hx e; exact h (e ▸ hx)
    rw [this]; exact h1 h
theorem my_append {prog : Program} {w : World} {A : Around} {E : Value → Shared → Prop} {s : Shared} {h₀ : Heap} {L D : Addr} {m : Str → Option Value} {news : List (Addr × Obj)} {g : Obj → List (Addr × Obj)} {vs : List Value} {ns : List Int} {n : Nat} {x : Int} {u : Tok} {Q : Value → Shared → Prop}
    (F : Fr h₀ L s.heap m) (N : News h₀ L s.heap news) (U : UpdF D (listOf vs.toArray n) news g) (hi : IntsAre vs ns) (hl : ns.length ≤ 1000)
    (h : ∀ h' vs', Fr h₀ L h' m → News h₀ L h' (g (listOf vs'.toArray (n + 1))) → IntsAre vs' (ns ++ [x]) → Q .none { s with heap := h' }) :
    wpAny (model prog w) A (call (.builtin "list.append") [.ref D, .int x u]) Q E s := by
  obtain ⟨pre, post, rfl, hg, a, b⟩ := U.split
  have hlen := hi.length
  refine append_K (n := n) (its := vs.toArray) (news' := g (listOf (vs ++ [Value.int x u]).toArray (n + 1))) F N ?_ (fun h' F' N' => h h' _ F' N' (IntsAre.append hi (.cons _ _ .nil))) (by rw [List.size_toArray, sizeLine_eq]; omega)
  rw [hg, ← List.push_toArray]
  clear N hg F h U
  induction pre with
  | nil => exact Upd.head b
  | cons p pre ih => exact Upd.tail (a p (.head _)) (ih fun q hq => a q (.tail _ hq))
theorem cut_same {α : Type} {M : Model} {A : Around} {E : Value → Shared → Prop} {s : Shared} {h₀ : Heap} {L : Addr} {m : Str → Option Value} {news : List (Addr × Obj)} {t : Sem α} {Q : α → Shared → Prop} (F : Fr h₀ L s.heap m) (N : News h₀ L s.heap news) (G : α → Prop)
    (h1 : wpAny M A t (fun v s' => ElEnd h₀ L m s news (G v) s') E s)
    (h2 : ∀ v h' tk, Fr h₀ L h' m → News h₀ L h' news → G v → Q v { s with heap := h', toks := tk }) : wpAny M A t Q E s :=
  wpAny_mono h1 (fun v s' ⟨h', tk, all, e, F', N', hs, g⟩ => e ▸ h2 v h' tk F' (fun p hp => N' p (hs p hp)) g) fun _ _ x => x
def AllNe (d : Nat) : List (Addr × Obj) → Prop
  | [] => True
  | p :: r => @Ne Nat p.1 d ∧ AllNe d r
theorem allNe_of {d : Addr} : ∀ {l : List (Addr × Obj)}, (∀ p ∈ l, p.1 ≠ d) → AllNe d l
  | [], _ => trivial
  | p :: _, h => ⟨h p (.head _), allNe_of fun q hq => h q (.tail _ hq)⟩
theorem cells2 {news : List (Addr × Obj)} {L : Addr} (h : ∀ p : Addr × Obj, p ∈ news → p.1 < L) : (∀ p : Addr × Obj, p ∈ news → p.1 < L + 1) ∧ (∀ p : Addr × Obj, p ∈ news → p.1 < L + 1 + 1) ∧ @LT.lt Nat _ (L + 1) (L + 1 + 1) :=
  ⟨fun p hp => Nat.lt_succ_of_lt (h p hp), fun p hp => Nat.lt_succ_of_lt (Nat.lt_succ_of_lt (h p hp)), Nat.lt_succ_self (L + 1)⟩
theorem my_len {prog : Program} {w : World} {A : Around} {E : Value → Shared → Prop} {s : Shared} {l : Addr} {vs : List Value} {ns : List Int} {k : Nat} {Q : Value → Shared → Prop} (hl : s.heap.IsList l vs.toArray) (hi : IntsAre vs ns) (e : ns.length = k) (hk : k ≤ 1000)
    (h : ∀ t tk, Q (.int (k : Int) t) { s with toks := tk }) : wpAny (model prog w) A (call (.builtin "len") [.ref l]) Q E s := by
  have e2 : vs.toArray.size = k := by rw [List.size_toArray, hi.length, e]
  exact len_list hl (by rw [e2]; omega) (by rw [e2]; exact h _ _)
structure Pfx (w : World) (news : List (Addr × Obj)) (pv : Value) (n : Nat) (it : Nat → Value → Prop) (e : Nat → Nat → Bool) : Prop where
  len : ∀ {A E s h₀ L} {Q : Value → Shared → Prop}, News h₀ L s.heap news → (∀ t tk, Q (.int (n : Int) t) { s with toks := tk }) → wpAny (model P1 w) A (call (.builtin "len") [pv]) Q E s
  item : ∀ {A E s h₀ L} {Q : Value → Shared → Prop} {y : Str} {py : Pos} {slice : PySem.Expr} {k : Int} {u : Tok}, News h₀ L s.heap news → 0 ≤ k → k < n → (∀ v tk, it k.toNat v → Q v { s with toks := tk }) →
    (subscripted slice false pv (.int k u) = operate [pv, .int k u] (getItem pv (.int k u))) → wpAny (model P1 w) A (subscriptTail (.Name y py) slice pv (.int k u)) Q E s
  ne : ∀ {A E s} {Q : Value → Shared → Prop} {i j a b}, it i a → it j b → Q (.bool (!e i j)) s → wpAny (model P1 w) A (compareOp .NotEq a b) Q E s
def intIt (ns : List Int) (i : Nat) (v : Value) : Prop := ∃ t, v = .int (ns.getD i 0) t
theorem pfx_list {w : World} {news : List (Addr × Obj)} {l : Addr} {vs : List Value} {k : Nat} {ns : List Int} (hm : (l, listOf vs.toArray k) ∈ news) (hi : IntsAre vs ns) (hn : ns.length ≤ 1000) : Pfx w news (.ref l) ns.length (intIt ns) (eqs ns) where
  len := fun N h => my_len (news_list N hm) hi rfl hn h
  item := fun N h0 h1 h hs => item_anyK (news_list N hm) hi h0 h1 (by omega) (fun t => h _ _ ⟨t, rfl⟩) hs
  ne := fun {_ _ _ _ i j a b} ha hb h => by
    obtain ⟨t, rfl⟩ := ha
    obtain ⟨u, rfl⟩ := hb
    exact ne_int h
theorem pfx_tuple {w : World} {news : List (Addr × Obj)} {l : Addr} {vs : List Value} {k : Nat} {ns : List Int} (hm : (l, ({ cls := .type "tuple", data := .seq vs.toArray k } : Obj)) ∈ news) (hi : IntsAre vs ns) (hn : ns.length ≤ 1000) : Pfx w news (.ref l) ns.length (intIt ns) (eqs ns) where
  len := fun N h => by
    have e2 : vs.toArray.size = ns.length := by rw [List.size_toArray, hi.length]
    exact PyProof.Rows.len_tuple (News.isTup N hm) (by rw [e2]; omega) (by rw [e2]; exact h _ _)
  item := fun N h0 h1 h hs => item_tuple_ints (News.isTup N hm) hi h0 h1 (by omega) (fun t => h _ _ ⟨t, rfl⟩) hs (by intro _; with_unfolding_all rfl)
  ne := fun {_ _ _ _ i j a b} ha hb h => by
    obtain ⟨t, rfl⟩ := ha
    obtain ⟨u, rfl⟩ := hb
    exact ne_int h
def strIt (cs : List Nat) (i : Nat) (v : Value) : Prop := ∃ t, v = .str ⟨#[cs.getD i 0]⟩ t
def eqn (cs : List Nat) (i j : Nat) : Bool := cs.getD i 0 == cs.getD j 0
theorem pfx_str {w : World} {news : List (Addr × Obj)} {x : Str} {t : Tok} {cs : List Nat} (hx : x.cps = cs.toArray) (hn : cs.length ≤ 1000) : Pfx w news (.str x t) cs.length (strIt cs) (eqn cs) where
  len := fun N h => by
    have e2 : x.length = cs.length := by unfold PySem.Str.length; rw [hx, List.size_toArray]
    exact PyProof.Rows.len_str (by rw [e2]; omega) (by rw [e2]; exact h _ _)
  item := fun {_ _ _ _ _ _ _ _ _ k _} N h0 h1 h hs => by
    have e2 : x.length = cs.length := by unfold PySem.Str.length; rw [hx, List.size_toArray]
    have e4 : Txt.item x k = ⟨#[cs.getD k.toNat 0]⟩ := by
      unfold Txt.item Txt.charAt
      have e3 : seqIndex? k x.length = some k.toNat := by
        unfold seqIndex?
        have h2 : ¬ k < 0 := by omega
        simp only [h2, if_false, e2]
        rw [if_pos (by simp only [Bool.and_eq_true, decide_eq_true_eq]; omega)]
      rw [e3, Option.bind_some, hx, List.getElem?_toArray, List.getD_eq_getElem?_getD]
    exact KXi.item e2 (by omega) h1 (by omega) (fun _ => h _ _ ⟨_, by rw [e4]⟩) hs (by intro _; with_unfolding_all rfl)
  ne := fun {_ _ _ _ i j a b} ha hb h => by
    obtain ⟨t, rfl⟩ := ha
    obtain ⟨u, rfl⟩ := hb
    refine PyProof.Rows.ne_str ?_
    have : ((⟨#[cs.getD i 0]⟩ : Str) != ⟨#[cs.getD j 0]⟩) = !eqn cs i j := by
      unfold eqn
      by_cases e : cs.getD i 0 = cs.getD j 0
      · rw [e]; simp
      · have h1 : (⟨#[cs.getD i 0]⟩ : Str) ≠ ⟨#[cs.getD j 0]⟩ := fun q => e (by simpa using congrArg (fun z : Str => z.cps) q)
        rw [bne_iff_ne.mpr h1, beq_eq_false_iff_ne.mpr e]; rfl
    rw [this]; exact h
theorem idx_get {ns : List Int} {y : Int} (h : y ∈ ns) : ∃ hj : ns.idxOf y < ns.length, ns[ns.idxOf y] = y :=
  have hj := List.idxOf_lt_length_iff.mpr h
  ⟨hj, List.getElem_idxOf hj⟩
theorem idx_inj {ns : List Int} {a b : Int} (ha : a ∈ ns) (hb : b ∈ ns) (e : ns.idxOf a = ns.idxOf b) : a = b := by
  obtain ⟨h1, e1⟩ := idx_get ha
  obtain ⟨h2, e2⟩ := idx_get hb
  rw [← e1, ← e2]
  congr 1
theorem ints_getElem {vs : List Value} {ns : List Int} (hi : IntsAre vs ns) (i : Nat) (h : i < vs.length) : ∃ t, vs[i] = .int (ns.getD i 0) t := by
  have h' : i < ns.length := by rw [← hi.length]; exact h
  obtain ⟨t, ht⟩ := hi.get i ns[i] (by simp [h'])
  refine ⟨t, ?_⟩
  rw [List.getD_eq_getElem?_getD, List.getElem?_eq_getElem h', Option.getD_some]
  rw [List.getElem?_eq_getElem h] at ht
  exact Option.some.inj ht
theorem my_index {prog : Program} {w : World} {A : Around} {E : Value → Shared → Prop} {s : Shared} {h₀ : Heap} {L D : Addr} {news : List (Addr × Obj)} {vs : List Value} {ns : List Int} {n : Nat} {y : Int} {t : Tok} {Q : Value → Shared → Prop}
    (N : News h₀ L s.heap news) (hm : (D, listOf vs.toArray n) ∈ news) (hi : IntsAre vs ns) (hy : y ∈ ns) (hz : ns.length ≤ 1000)
    (h : ∀ t tk, Q (.int (ns.idxOf y : Nat) t) { s with toks := tk }) : wpAny (model prog w) A (call (.builtin "list.index") [.ref D, .int y t]) Q E s := by
  obtain ⟨hj, e⟩ := idx_get hy
  have hlen := hi.length
  have hget : ∀ i (hi' : i < vs.length), isInt y vs[i] = (ns.getD i 0 == y) := fun i hi' => by
    obtain ⟨t, ht⟩ := ints_getElem hi i hi'
    rw [ht]; rfl
  refine call_meets PySem.F.slot_list_index ⟨_, (N _ hm).1, rfl⟩ PySem.F.entry_list_index (PySem.F.args_list_index_2 _ _)
    (MeetsSeq.list_index D vs.toArray n (.int y t) (isInt y) (fun z hz => eq_isInt y t hi z (by simpa using hz)) (ns.idxOf y) (by rw [List.size_toArray]; omega) (by omega) ?_ ?_) ⟨(N _ hm).1, h _ _⟩
  · have := hget (ns.idxOf y) (by omega)
    rw [List.getElem_toArray, this, List.getD_eq_getElem?_getD, List.getElem?_eq_getElem hj, Option.getD_some, e]
    simp
  · intro i hi1 hi2
    rw [List.size_toArray] at hi1
    rw [List.getElem_toArray, hget i hi1, List.getD_eq_getElem?_getD, List.getElem?_eq_getElem (by omega), Option.getD_some]
    have := List.not_of_lt_findIdx (p := (· == y)) (xs := ns) (i := i) (by simpa [List.idxOf] using hi2)
    simpa using this
theorem join_cps (cs : List Nat) : (Txt.join (Str.ofString "") (cs.map fun c => (⟨#[c]⟩ : Str))).cps = cs.toArray := by
  have h0 : (Str.ofString "").cps = #[] := rfl
  have key : ∀ (l : List Nat) (acc : Array Nat), ((l.map fun c => (⟨#[c]⟩ : Str)).foldl (fun acc p => acc ++ (Str.ofString "").cps ++ p.cps) acc) = acc ++ l.toArray := by
    intro l
    induction l with
    | nil => intro acc; simp
    | cons c l ih =>
      intro acc
      rw [List.map_cons, List.foldl_cons, ih, h0]
      apply Array.toList_inj.mp
      simp
  cases cs with
  | nil => rfl
  | cons c l =>
    show ((l.map fun c => (⟨#[c]⟩ : Str)).foldl (fun acc p => acc ++ (Str.ofString "").cps ++ p.cps) #[c]) = _
    rw [key]
    apply Array.toList_inj.mp
    simp
theorem tab_text {r le : List Int} (hs : ∀ y ∈ r, y ∈ le) : tab (eqn (r.map fun a => 97 + le.idxOf a)) r.length = tab (eqs r) r.length := by
  refine tab_congr fun i j hi hj => ?_
  unfold eqn eqs
  have hg : ∀ k, k < r.length → (r.map fun a => 97 + le.idxOf a).getD k 0 = 97 + le.idxOf (r.getD k 0) := fun k hk => by
    rw [List.getD_eq_getElem?_getD, List.getD_eq_getElem?_getD, List.getElem?_map, List.getElem?_eq_getElem hk]
    rfl
  rw [hg i hi, hg j hj, Bool.eq_iff_iff, beq_iff_eq, beq_iff_eq]
  constructor
  · intro h
    exact idx_inj (hs _ (getD_mem hi)) (hs _ (getD_mem hj)) (by omega)
  · intro h; rw [h]
local macro_rules | `(tactic| walk_at "MINE enter") => `(tactic| (refine' code_def ?k1 ?k2 ?k3 ?k4 ?k5 ?kA ?kF ?kK ?k6 ?k7 ?k8 ?k9 ?kB ?_ ?c2 ?c3 ?c4 ?c5; (case kA => exact rfl); (case kF => assumption); (case kK => assumption); (case k1 => k_asm); (case k2 => k_asm); (case k3 => k_asm); (case k4 => k_asm); (case k5 => k_asm); (case k6 => k_is); (case k7 => k_is); (case k8 => (dsimp only; omega)); (case k9 => exact BindsTo.of_eq rfl); (case c5 => decide); (case kB => exact locs rfl); (case c2 => exact rfl); (case c3 => exact rfl); (case c4 => exact rfl); k_whole; intro g' L' h' FG' F' N' B' X' T'; (try dsimp only); (try k_fold)))
local macro_rules | `(tactic| walk_at "MINE steps") => `(tactic| repeat' ((fail_if_success (with_reducible show wpAny _ _ (pyIter _) _ _ _)); (fail_if_success (with_reducible show wpAny _ _ (compareOp CmpOp.NotIn _ _) _ _ _)); (fail_if_success (with_reducible show wpAny _ _ (eval (Expr.ListComp _ _ _ _) _) _ _ _)); (fail_if_success (with_reducible show wpAny _ _ (eval (Expr.IfExp _ _ _ _) _) _ _ _)); (fail_if_success (with_reducible show LCt.CompSrcT _ _ _ _ _ _ _ _ _ _ _ _ _ _ _)); (fail_if_success (with_reducible show LCg.CompSrc _ _ _ _ _ _ _ _ _ _ _ _ _ _)); (fail_if_success (with_reducible show ElEnd _ _ _ _ _ _ _)); (fail_if_success (with_reducible show InvEndN _ _ _ _ _ _ _)); (fail_if_success (with_reducible show KswEnd _ _ _ _ _ _ _ _ _ _ _ _)); (fail_if_success (with_reducible show wpAny _ _ (exec (Stmt.While _ _ _ _) _) _ _ _)); (fail_if_success (with_reducible show wpAny _ _ (exec (Stmt.For _ _ _ _ _) _) _ _ _)); (fail_if_success (with_reducible show wpAny _ _ (call (Value.ref _) _) _ _ _)); (fail_if_success (with_reducible show wpAny _ _ (subscriptTail _ (Expr.UnaryOp _ _ _) _ _) _ _ _)); first | (k_unfold; (try dsimp only)) | (k_end; wrow_close) | walk1 | (dsimp only; walk1) | (leave1; walk_say "STEP leave1"; try dsimp only) | fail "no step"))
local macro_rules | `(tactic| walk_at "MINE enterC") => `(tactic| (refine' code_defC ?k1 ?k2 ?k3 ?k4 ?k5 ?kA ?kF ?kK ?k6 ?k7 ?k8 ?k9 ?kB ?kD ?_ ?c2 ?c3 ?c4; (case kA => exact rfl); (case kF => assumption); (case kK => assumption); (case k1 => k_asm); (case k2 => k_asm); (case k3 => k_asm); (case k4 => k_asm); (case k5 => k_asm); (case k6 => k_is); (case k7 => k_is); (case k8 => (dsimp only; omega)); (case k9 => exact BindsTo.of_eq rfl); (case kB => exact rfl); (case kD => decide +kernel); (case c2 => exact rfl); (case c3 => exact rfl); (case c4 => exact rfl); k_whole; intro g' L' h' tk' cells' FG' F' N' Y' B' X' T' l1; (try k_lt l1); k_cells Y'; (try simp only [List.cons_append, List.nil_append] at N'); (try dsimp only); (try k_fold)))
local macro_rules | `(tactic| k_mem) => `(tactic| ((show (_ : Addr × Obj) ∈ (_ : List (Addr × Obj))); with_reducible assumption))
local macro_rules | `(tactic| walk_at "MINE for") => `(tactic| ((rename Fr _ _ _ _ => lF'); (with_unfolding_all refine' For_invVF lF' ?k1 ?k2 ?_; (case k1 => exact rfl); (case k2 => exact rfl))))
local macro_rules | `(tactic| walk_at "MINE use") => `(tactic| ((case uB => k_asm); (case uF => k_asm); (case uX => k_asm); (case uN => k_asm); (case uT => k_asm); (case ud => (dsimp only; omega)); (case uu => (dsimp only; omega))))
local macro_rules | `(tactic| walk_at "MINE compT") => `(tactic| (k_dflt (refine LCt.ListComp_T (F₀ := by k_asm) (by with_unfolding_all rfl) (by decide) (by rfl) (by decide) (by rfl) ?_)))
local macro_rules | `(tactic| walk_at "MINE compU") => `(tactic| (k_dflt (refine LCg.ListComp_U (F₀ := by k_asm) (by with_unfolding_all rfl) (by decide) (by rfl) (by decide) (by rfl) ?_)))
local macro_rules | `(tactic| walk_at "MINE same") => `(tactic| (intro z9 h91 h92 h93; (try simp only [List.contains_cons, List.contains_nil, Bool.or_false, Bool.or_eq_false_iff, beq_eq_false_iff_ne, ne_eq] at h93); first | (simp [h91, h93]; done) | (simp [h91, h93]; rfl) | (simp [h91]; rfl) | rfl))
local macro_rules | `(tactic| walk_at "MINE useTop") => `(tactic| ((case uB => k_asm); (case uF => k_asm); (case uX => k_asm); (case uN => k_asm); (case uT => k_asm); (case ud => decide); (case uu => (have hcL9 := cLine_is; (try simp only [units_deeper, units_caller]); (try dsimp only); omega))))
set_option maxRecDepth 100000 in
set_option maxHeartbeats 8000000 in
theorem gen_t (w mean mg mb) (news : List (Addr × Obj)) (pv : Value) (n : Nat) (it : Nat → Value → Prop) (e : Nat → Nat → Bool) (hp : Pfx w news pv n it e) (hn : n ≤ 100) :
    Con w mean mg mb 1 21 [pv] news (fun r tl => ∃ D vs k, r = .ref D ∧ tl = [(D, listOf vs.toArray k)] ∧ IntsAre vs ((tab e n).map Int.ofNat)) := by
  unfold Con
  k_fill
  w_top off
  intro dp un gd env outer A₀ base h₀ L m s Q E B F X N T hf hk hd hu hret
  refine wpAny_noRaise (wpAny_call ?_)
  k_dflt (walk_at "MINE enter")
  walk_at "MINE steps"
  rename News _ _ _ _ => N1
  refine hp.len (kst_newsOf N1 (by simp +contextual)) ?_
  intro t tk
  walk_at "MINE steps"
  k_fold
  walk_at "MINE for"
  walk_at "MINE steps"
  rename News _ _ _ _ => N1
  refine hp.len (kst_newsOf N1 (by simp +contextual)) ?_
  intro t tk
  walk_at "MINE steps"
  rename News _ _ _ _ => N2
  rename Fr _ _ _ _ => F2
  rename IsRange _ _ _ _ _ _ _ _ => R2
  rename IntsAre _ _ => i0
  rename _ ∧ AllLt _ _ => l1
  have hDn := kst_ltOf l1.2
  have N2 := kst_newsOf (l' := (_, listOf (_ : List Value).toArray 0) :: news) N2 (by intro p hp; rcases List.mem_cons.mp hp with rfl | hp; exact .head _; exact .tail _ (.tail _ hp))
  refine kst_range (σ := List Value × List Nat) (n := n - 1) (fun c => (_, listOf c.1.toArray 0) :: news) (fun _ => []) (fun c => IntsAre c.1 (c.2.map Int.ofNat)) [Str.ofString "idx"] (fun pre c => c.2 = (tab e n).take (pre.length + 1) ++ List.replicate (n - (pre.length + 1)) 0) (_, List.replicate n 0) (by rfl) R2 ?_ ?_ F2 N2 ?_ ?_ ?_ ?_ ?_
  · exact small_one (by omega) (by omega) (by omega) (by omega)
  · rw [rangeSize_nat]; omega
  · dsimp only; rw [rep_flat]; exact i0
  · intro p hp; cases hp
  · cases n with
    | zero => rfl
    | succ n => rw [List.length_nil, tab_take e (n + 1) 1 (by omega)]; simp [tab, List.replicate_succ]
  · intro c pre k t u h tk own hk hlt hoff hf hP F3 N3
    dsimp only [kstB, envOf] at hf hP F3 N3
    simp only [List.cons_append] at N3
    (try dsimp only)
    k_fold
    have hln : c.2.length = n := by rw [hP]; simp [tab_length]; omega
    have hln' : (c.2.map Int.ofNat).length = n := by simp [hln]
    walk_at "MINE steps"
    k_fold
    rename News _ _ _ _ => N4
    rename Fr _ _ _ _ => F4
    obtain ⟨i, rfl⟩ : ∃ i : Nat, k = (i : Int) + 1 := ⟨pre.length, by omega⟩
    have hi : i = pre.length := by omega
    have hx0 : ((i : Int) + 1 - 1).toNat = i := by omega
    rw [hx0, getD_map] at F4
    have hlow : Low c.2 := by rw [hP]; exact take_low _ _ _ _
    have hne : ∀ p ∈ news ++ own, p.1 ≠ _ := fun p hp => (List.mem_append.mp hp).elim (fun h => Nat.ne_of_lt (hDn p h)) fun h => hoff p h _ (.head _)
    refine' while_else (σ := Nat × Tok) (fun _ => _) (fun c => [(Str.ofString "idx", .int (c.1 : Int) c.2)]) (fun _ => True) [] (fun d => d.1 ≤ i ∧ hit (e (i + 1)) (ends c.2 d.1) = hit (e (i + 1)) (ends c.2 (c.2.getD i 0))) (fun d => d.1) (c.2.getD i 0, _) F4 N4 trivial ?hk ?hp ?ht ?he
    case hk => intro p hp; rw [List.mem_singleton.mp hp]; rfl
    case hp => exact ⟨hlow i, rfl⟩
    case he => exact PassesOwn.leaving
    case ht =>
      intro d u5 h5 tk5 _ hP5 F5 N5
      dsimp only [kstB, envOf] at hP5 F5 N5
      (try dsimp only)
      k_fold
      walk_at "MINE steps"
      refine hp.item (kst_newsOf (l' := news) N5 (by simp +contextual)) (by omega) (by omega) ?_ (by with_unfolding_all rfl)
      intro v1 tk6 hv1
      walk_at "MINE steps"
      refine hp.item (kst_newsOf (l' := news) N5 (by simp +contextual)) (by omega) (by omega) ?_ (by with_unfolding_all rfl)
      intro v2 tk7 hv2
      (try dsimp only)
      refine hp.ne hv1 hv2 ?_
      have hidx : (((i : Int) + 1).toNat) = i + 1 := by omega
      have hd1 : ((d.1 : Int)).toNat = d.1 := by omega
      rw [hidx, hd1]
      cases hE : e (i + 1) d.1 with
      | true =>
        walk_at "MINE steps"
        (try dsimp only)
        refine my_set F5 N5 hne hf (by omega) (by omega) (by omega) ?_
        intro h6 vs6 F6 N6 hi6
        walk_at "MINE steps"
        (try dsimp only)
        have hx : d.1 + 1 = hit (e (i + 1)) (ends c.2 (c.2.getD i 0)) := by
          rw [← hP5.2]
          by_cases h0 : d.1 = 0
          · rw [h0, ends_zero, hit_cons_pos (by rw [← h0]; exact hE)]
          · rw [ends_pos hlow (by omega), hit_cons_pos hE]
        refine kst_end (vs6, c.2.set (i + 1) (d.1 + 1)) F6 N6 sub_own own_sub rfl ?_ (fun p hp => by cases hp) (by kst_same) ?_
        · dsimp only; rw [hidx] at hi6; rw [← map_set]; exact hi6
        · dsimp only; rw [List.length_append, List.length_singleton, ← hi]; rw [← hi] at hP; exact set_step hP (by omega) _ hx
      | false =>
        walk_at "MINE steps"
        all_goals (try dsimp only)
        · refine my_set F5 N5 hne hf (by omega) (by omega) (by omega) ?_
          intro h6 vs6 F6 N6 hi6
          walk_at "MINE steps"
          (try dsimp only)
          have h0 : d.1 = 0 := by omega
          have hx : 0 = hit (e (i + 1)) (ends c.2 (c.2.getD i 0)) := by
            rw [← hP5.2, h0, ends_zero, hit_cons_neg (by rw [← h0]; exact hE), hit_nil]
          refine kst_end (vs6, c.2.set (i + 1) 0) F6 N6 sub_own own_sub rfl ?_ (fun p hp => by cases hp) (by kst_same) ?_
          · dsimp only; rw [hidx] at hi6; rw [← map_set]; exact hi6
          · dsimp only; rw [List.length_append, List.length_singleton, ← hi]; rw [← hi] at hP; exact set_step hP (by omega) _ hx
        · have h0 : 0 < d.1 := by omega
          rename Fr _ _ _ _ => F6
          rename News _ _ _ _ => N6
          have hx1 : ((d.1 : Int) - 1).toNat = d.1 - 1 := by omega
          rw [hx1, getD_map] at F6
          have hx2 := hlow (d.1 - 1)
          refine' ksw_end (c.2.getD (d.1 - 1) 0, _) F6 N6 (fun _ h => h) trivial ?hk1 (by ksw_same) ⟨by dsimp only; omega, ?hk2⟩ (by dsimp only; omega)
          case hk1 => intro p hp; rw [List.mem_singleton.mp hp]; rfl
          dsimp only
          rw [← hP5.2, ends_pos hlow h0, hit_cons_neg hE]
  · intro c u h tk hf hP F3 N3
    dsimp only [kstB, envOf] at hf hP F3 N3
    (try dsimp only)
    walk_at "MINE steps"
    rename Fr h₀ _ _ _ => F6
    rename News h₀ _ _ _ => N6
    refine hret _ [_] _ _ F6 N6 (fun q hq p hp => by rw [List.mem_singleton.mp hp]; exact hDn q hq) ⟨_, _, _, rfl, rfl, ?_⟩
    have hT : c.2 = tab e n := by
      rw [hP, rangeKs_length, tab_take e n n (Nat.le_refl _) |> fun h => (List.take_of_length_le (by rw [tab_length]; omega))]
      have : n - (n - 1 + 1) = 0 := by omega
      rw [this]; simp
    rw [← hT]; exact hf
theorem my_last {prog : Program} {w : World} {A : Around} {E : Value → Shared → Prop} {s : Shared} {value slice : PySem.Expr} {l : Addr} {vs : List Value} {ns : List Int} {u : Tok} {Q : Value → Shared → Prop} (hl : s.heap.IsList l vs.toArray) (hi : IntsAre vs ns)
    (h0 : 0 < ns.length) (h : ∀ t, Q (.int (ns.getD (ns.length - 1) 0) t) s)
    (hs : subscripted slice false (.ref l) (.int (-1) u) = operate [.ref l, .int (-1) u] (getItem (.ref l) (.int (-1) u))) :
    wpAny (model prog w) A (subscriptTail value slice (.ref l) (.int (-1) u)) Q E s := by
  have hlen := hi.length
  obtain ⟨t, ht⟩ := hi.get (ns.length - 1) (ns.getD (ns.length - 1) 0) (by rw [List.getD_eq_getElem?_getD, List.getElem?_eq_getElem (by omega)]; rfl)
  refine kde_neg hl (by omega) (by omega) (j := ns.length - 1) ?_ ht (h t) hs
  rw [seqIndex_neg (by omega) (by omega)]
  congr 1; omega
set_option maxRecDepth 100000 in
set_option maxHeartbeats 8000000 in
theorem ends_t (w mean mg mb) (news : List (Addr × Obj)) (l : Addr) (vs : List Value) (n : Nat) (t : List Nat) (hm : (l, listOf vs.toArray n) ∈ news) (hi : IntsAre vs (t.map Int.ofNat)) (h0 : 0 < t.length) (hl : t.length ≤ 100) (hlow : Low t) :
    Con w mean mg mb 1 28 [.ref l] news (fun r tl => ∃ D vs k, r = .ref D ∧ tl = [(D, listOf vs.toArray k)] ∧ IntsAre vs ((ends t (t.getD (t.length - 1) 0)).map Int.ofNat)) := by
  unfold Con
  k_fill
  w_top off
  intro dp un gd env outer A₀ base h₀ L m s Q E B F X N T hf hk hd hu hret
  refine wpAny_noRaise (wpAny_call ?_)
  k_dflt (walk_at "MINE enter")
  walk_at "MINE steps"
  (try dsimp only)
  rename News _ _ _ _ => N1
  refine my_last (news_list N1 hm) hi (by simp; exact h0) ?_ (by with_unfolding_all rfl)
  intro tt
  rw [List.length_map, getD_map]
  have kMk := kstMark
  walk_at "MINE steps"
  k_fold
  rename News _ _ _ _ => N2
  rename Fr _ _ _ _ => F2
  rename ∀ p : Addr × Obj, p ∈ news → p.1 < _ => hDn
  refine' while_else (σ := List Value × Nat × List Nat × Nat) (fun c => (_, listOf c.1.toArray c.2.1) :: news) (fun c => []) (fun c => IntsAre c.1 ((c.2.2.1 ++ [c.2.2.2]).map Int.ofNat)) [] (fun c => c.2.2.1 ++ ends t c.2.2.2 = ends t (t.getD (t.length - 1) 0) ∧ c.2.2.1.length + c.2.2.2 ≤ t.length ∧ c.2.2.2 ≤ t.length) (fun c => c.2.2.2) (_, 0, [], t.getD (t.length - 1) 0) F2 N2 ?hf ?hk ?hp ?ht ?he
  case hf => exact IntsAre.cons _ _ .nil
  case hk => intro p hp; cases hp
  case hp => have := hlow (t.length - 1); refine ⟨rfl, ?_, ?_⟩ <;> (dsimp only [List.length_nil]; omega)
  case he => exact PassesOwn.leaving
  case ht =>
    rintro ⟨ws, j, pre, k⟩ u5 h5 tk5 hf5 hP5 F5 N5
    dsimp only [kstB, envOf] at hP5 F5 N5 hf5
    (try dsimp only)
    k_fold
    have hlen : ((pre ++ [k]).map Int.ofNat).length = pre.length + 1 := by simp
    have hget : ((pre ++ [k]).map Int.ofNat).getD (((pre ++ [k]).map Int.ofNat).length - 1) 0 = (k : Int) := by
      rw [getD_map]; simp
    walk_at "MINE steps"
    refine my_last (news_list N5 (.head _)) hf5 (by omega) ?_ (by with_unfolding_all rfl)
    intro t1
    rw [hget]
    walk_at "MINE steps"
    · refine my_last (news_list N5 (.head _)) hf5 (by omega) ?_ (by with_unfolding_all rfl)
      intro t2
      rw [hget]
      have hk0 : 0 < k := by omega
      have hlt : (t.map Int.ofNat).length = t.length := by simp
      walk_at "MINE steps"
      rename News _ _ _ _ => N6
      rename Fr _ _ _ _ => F6
      have hx1 : ((k : Int) - 1).toNat = k - 1 := by omega
      rw [List.push_toArray, hx1, getD_map] at N6
      have hk1 := hlow (k - 1)
      refine ksw_end (_, _, pre ++ [k], t.getD (k - 1) 0) F6 N6 (fun _ h => h) ?_ (fun p hp => by cases hp) (by ksw_same) ⟨?_, ?_, ?_⟩ ?_
      · dsimp only; rw [List.map_append (l₂ := [t.getD (k - 1) 0])]; exact IntsAre.append hf5 (.cons _ _ .nil)
      · dsimp only; rw [← hP5.1, ends_pos hlow hk0]; simp
      · dsimp only; rw [List.length_append, List.length_singleton]; omega
      · dsimp only; omega
      · dsimp only; omega
    · have hk0 : k = 0 := by omega
      rename Fr h₀ _ _ _ => F6
      rename News h₀ _ _ _ => N6
      refine hret _ [_] _ _ F6 N6 (fun q hq p hp => by rw [List.mem_singleton.mp hp]; exact hDn q hq) ⟨_, _, _, rfl, rfl, ?_⟩
      rw [← hP5.1, hk0, ends_zero, ← hk0]; exact hf5
structure DS where
  co : Obj
  rv : List Value
  rn : Nat
  r : List Int
  tv : List Value
  tn : Nat
  t : List Nat
  lv : List Value
  ln : Nat
  le : List Int
set_option maxRecDepth 100000 in
set_option maxHeartbeats 8000000 in
theorem drawn_t (w mean mg mb) (news : List (Addr × Obj)) (l : Addr) (vs : List Value) (n : Nat) (ns : List Int) (hm : (l, listOf vs.toArray n) ∈ news) (hi : IntsAre vs ns) (h0 : 0 < ns.length) (hl : ns.length ≤ 70) :
    Con w mean mg mb 2 33 [.ref l] news (fun v tl => ∃ TU RO TA LE rv rn tv tn lv ln r t le, v = .ref TU ∧
      tl = [(TU, ({ cls := .type "tuple", data := .seq #[.ref RO, .ref TA, .ref LE] } : Obj)), (LE, listOf (lv : List Value).toArray ln), (TA, listOf (tv : List Value).toArray tn), (RO, listOf (rv : List Value).toArray rn)] ∧
      ((@LT.lt Nat _ RO TA) ∧ (@LT.lt Nat _ TA LE) ∧ (@LT.lt Nat _ LE TU)) ∧ IntsAre rv r ∧ IntsAre tv (t.map Int.ofNat) ∧ IntsAre lv le ∧ Good r t le ∧ r.length = ns.length) := by
  unfold Con
  k_fill
  w_top off
  intro dp un gd env outer A₀ base h₀ L m s Q E B F X N T hf hk hd hu hret
  refine wpAny_noRaise (wpAny_call ?_)
  k_dflt (walk_at "MINE enterC")
  k_unmd
  k_fold
  have kMk := kstMark
  rename ∀ p : Addr × Obj, p ∈ news → p.1 < _ => hnL
  have hnc : ∀ p : Addr × Obj, p ∈ news → p.1 < _ + 1 := fun p hp => Nat.lt_succ_of_lt (hnL p hp)
  walk_at "MINE steps"
  k_fold
  walk_at "MINE for"
  walk_at "MINE steps"
  rename Obj => co
  rename _ = Data.cell _ => hco
  rename_i tR RO _ lR _ _ TA _ lT _ _ tL LE _ lL _ D ws _ F2 N2 hI _ _ lD
  (try dsimp only)
  refine kst_listL (σ := DS) (fun c => (D, listOf ws.toArray 0) :: (LE, listOf c.lv.toArray c.ln) :: (TA, listOf c.tv.toArray c.tn) :: (RO, listOf c.rv.toArray c.rn) :: (_, c.co) :: news) (fun _ => [])
    (fun c => IntsAre c.rv c.r ∧ IntsAre c.tv (c.t.map Int.ofNat) ∧ IntsAre c.lv c.le ∧ ∃ v, c.co.data = .cell v) [Str.ofString "lengths", Str.ofString "k", Str.ofString "pick", Str.ofString "new", Str.ofString "others"]
    (fun pre c => Good c.r c.t c.le ∧ c.r.length = pre.length + 1) ⟨co, _, 0, [ns.getD 0 0], _, 0, [0], _, 0, [ns.getD 0 0]⟩ (by rfl) (fun _ => .head _) hI F2 N2 ?_ ?_ ?_ ?_ ?_
  · exact ⟨.cons _ _ .nil, .cons _ _ .nil, .cons _ _ .nil, _, hco⟩
  · intro p hp; cases hp
  · exact ⟨good_start _, rfl⟩
  · -- DEV<
    intro c pre post x tx u h tk own hsplit hmem hoff hf hP F3 N3
    dsimp only [kstB, envOfC] at hf hP F3 N3
    simp only [List.cons_append, List.map_cons] at N3 hoff
    (try dsimp only)
    k_fold
    obtain ⟨hr, ht, hle, cv, hcv⟩ := hf
    have hrl : c.r.length ≤ ns.length := by
      have h1 := congrArg List.length hsplit
      simp at h1
      omega
    walk_at "MINE steps"
    k_fold
    walk_at "MINE for"
    walk_at "MINE steps"
    have hgood := hP.1
    refine' con_use (ends_t w mean mg mb _ _ _ _ c.t ?hm ht ?hp ?hl ?hlow) ?uB ?uF ?uX ?uN ?uT rfl rfl rfl ?ud ?uu ?hh
    walk_at "MINE use"
    case hm => k_mem
    case hp => rw [hgood.tlen]; exact hgood.pos
    case hl => have h2 := hgood.tlen; omega
    case hlow => exact hgood.low
    case hh =>
      rintro r5 tl5 h5 tk5 F5 N5 hlt5 ⟨EN, vs5, k5, rfl, rfl, hI5⟩
      simp only [List.cons_append, List.nil_append] at N5
      (try dsimp only)
      rename_i BE _ lB _ cb dB _ LN _ lN _ _ _
      have l1 : ∀ q : Addr × Obj, q ∈ _ → q.1 < EN := fun q hq => hlt5 q hq _ (.head _)
      k_lt l1
      refine kst_listL (σ := (List Value × Nat × List Int) × (List Value × Nat × List Nat)) (fun d => (EN, listOf vs5.toArray k5) :: (LN, listOf d.2.1.toArray d.2.2.1) :: (BE, listOf d.1.1.toArray d.1.2.1) :: _) (fun _ => [])
        (fun d => IntsAre d.1.1 d.1.2.2 ∧ IntsAre d.2.1 (d.2.2.2.map Int.ofNat)) [] (fun pre d => BInv c.r (pre.map Int.toNat) d.1.2.2 d.2.2.2) (([], 0, []), ([], 0, [])) (by rfl) (fun _ => .head _) hI5 F5 N5 ?_ ?_ ?_ ?_ ?_
      · exact ⟨.nil, .nil⟩
      · intro p hp; cases hp
      · exact BInv.start _
      · rintro ⟨⟨bv, bn, b⟩, qv, qn, q⟩ pre6 post6 k tk6 u6 h6 tkk own6 hsplit6 hmem6 hoff6 hf6 hP6 F6 N6
        dsimp only [kstB, envOfC] at hf6 hP6 F6 N6
        simp only [List.cons_append, List.map_cons] at N6 hoff6
        (try dsimp only)
        k_fold
        obtain ⟨hb, hq⟩ := hf6
        obtain ⟨k0, hk0, rfl⟩ : ∃ k0 ∈ ends c.t (c.t.getD (c.t.length - 1) 0), (k0 : Int) = k := by simpa using hmem6
        have hk1 := hgood.ends_lt k0 hk0
        walk_at "MINE steps"
        refine' my_notin (news_list N6 ?hmb) hb ?ha ?hb
        case hmb => k_mem
        case ha =>
          intro hni
          have hbl := hP6.le
          have hql := hP6.len
          have hpl : pre6.length ≤ 71 := by
            have h1 := congrArg List.length hsplit6
            have h2 : (ends c.t (c.t.getD (c.t.length - 1) 0)).length ≤ c.t.getD (c.t.length - 1) 0 + 1 := ends_length _ _ _
            have h3 := hgood.low (c.t.length - 1)
            have h4 := hgood.tlen
            simp only [List.length_map, List.length_append, List.length_cons] at h1
            omega
          rw [List.length_map] at hbl
          walk_at "MINE steps"
          rename News _ _ _ _ => N7
          rename Fr _ _ _ _ => F7
          simp only [List.push_toArray, Int.toNat_natCast] at N7
          refine kst_end ((_, _, b ++ [c.r.getD k0 0]), (_, _, q ++ [k0 + 1])) F7 N7 (by kst_in) (by kst_in) (by rfl) ⟨IntsAre.append hb (.cons _ _ .nil), ?_⟩ (fun p hp => by cases hp) (by kst_same) ?_
          · rw [List.map_append]; exact IntsAre.append hq (.cons _ _ .nil)
          · rw [List.map_append]; exact hP6.new hni
        case hb =>
          intro hin
          walk_at "MINE steps"
          refine kst_end ((bv, bn, b), (qv, qn, q)) F6 N6 (by kst_in) (by kst_in) rfl ⟨hb, hq⟩ (fun p hp => by cases hp) (by kst_same) ?_
          rw [List.map_append]
          exact hP6.seen hin
      · rintro ⟨⟨bv, bn, b⟩, qv, qn, q⟩ u7 h7 tk7 hf7 hP7 F7 N7
        dsimp only [kstB, envOfC] at hf7 hP7 F7 N7
        obtain ⟨hb, hq⟩ := hf7
        have hE7 : (List.map Int.toNat (List.map Int.ofNat (ends c.t (c.t.getD (c.t.length - 1) 0)))) = ends c.t (c.t.getD (c.t.length - 1) 0) := by
          rw [List.map_map]; exact List.map_id _
        rw [hE7] at hP7
        have hbl : b.length ≤ 70 := by
          have h1 := hP7.le
          have h2 : (ends c.t (c.t.getD (c.t.length - 1) 0)).length ≤ c.t.getD (c.t.length - 1) 0 + 1 := ends_length _ _ _
          have h3 := hgood.low (c.t.length - 1)
          have h4 := hgood.tlen
          omega
        have hql := hP7.len
        have htl := hgood.tlen
        have htl' : (c.t.map Int.ofNat).length = c.r.length := by simp [htl]
        have hql' : (q.map Int.ofNat).length = b.length := by simp [hql]
        have hlel := hgood.len
        have hlep : 0 < c.le.length := by
          have h1 := hgood.pos
          obtain ⟨y, hy⟩ : ∃ y, y ∈ c.r := ⟨_, List.getElem_mem h1⟩
          exact List.length_pos_of_mem (hgood.sub y hy)
        (try dsimp only)
        walk_at "MINE steps"
        · rename News _ _ _ _ => N8
          rename Fr _ _ _ _ => F8
          rename Int.fmod _ _ < _ => hpick
          have hp0 : 0 ≤ x.fmod (↑b.length + 1) := Int.fmod_nonneg_of_pos x (by omega)
          simp only [List.push_toArray, getD_map] at N8
          refine kst_end ⟨cb, _, _, c.r ++ [b.getD (x.fmod (↑b.length + 1)).toNat 0], _, _, c.t ++ [q.getD (x.fmod (↑b.length + 1)).toNat 0], c.lv, c.ln, c.le⟩ F8 N8 (by kst_in) (by kst_in) (by rfl) ⟨IntsAre.append hr (.cons _ _ .nil), ?_, hle, _, dB⟩ (fun p hp => by cases hp) (by walk_at "MINE same") ⟨hgood.pick hP7 (by omega), ?_⟩
          · rw [List.map_append]; exact IntsAre.append ht (.cons _ _ .nil)
          · rw [List.length_append, List.length_append, hP.2]; rfl
        · rename News _ _ _ _ => N8
          rename Fr _ _ _ _ => F8
          refine cut_same F8 N8 (fun v => ∃ (y : Int) (t : Tok), v = .int y t ∧ y ∉ c.le) ?_ ?_
          · walk1
            walk_at "MINE steps"
            refine' my_notin (news_list N8 ?hmb) hle ?ha ?hb
            case hmb => k_mem
            case ha =>
              intro hni
              walk_at "MINE steps"
              exact elEnd F8 N8 (fun _ h => h) ⟨_, _, rfl, hni⟩
            case hb =>
              intro hin
              walk_at "MINE steps"
              rename ∀ a, a ∈ c.le → a ≤ _ => hM
              rename News _ _ _ _ => N9
              rename Fr _ _ _ _ => F9
              exact elEnd F9 N9 (fun _ h => h) ⟨_, _, rfl, fun h => by have := hM _ h; omega⟩
          · rintro _ h9 tk9 F9 N9 ⟨y, ty, rfl, hy⟩
            walk_at "MINE steps"
            k_fold
            walk_at "MINE compT"
            walk_at "MINE steps"
            refine' srcT_list (fun a v => ∃ t, v = .int a t) (fun a => decide (a ∉ b)) rfl ?F ?N ?hm hle ?hz ?ht ?hf
            case F => k_asm
            case N => k_asm
            case hm => k_mem
            case hz => omega
            case ht =>
              intro a ta I oI C oC D9 m9 h10 tk10 ys E9 ha hC hx F10 N10
              (try dsimp only)
              k_fold
              walk_at "MINE steps"
              refine' my_notin (news_list N10 ?hmb) hb ?ha ?hb
              case hmb => k_mem
              case ha =>
                intro hni
                walk_at "MINE steps"
                exact elEnd F10 N10 (fun _ h => h) ⟨by simp [hni], _, rfl⟩
              case hb =>
                intro hin
                walk_at "MINE steps"
                exact elEnd F10 N10 (fun _ h => h) (by simp [hin])
            case hf =>
              intro D10 ys k10 h10 tk10 F10 N10 hne10 hels
              have hels := hels.ints (f := fun a => a) (fun _ _ h => h)
              rw [List.map_id'] at hels
              have hne10 := allNe_of hne10
              simp only [AllNe] at hne10
              have hol : (c.le.filter fun a => decide (a ∉ b)).length ≤ c.le.length := List.length_filter_le _ _
              (try dsimp only)
              walk_at "MINE steps"
              rename News _ _ _ _ => N11
              simp only [List.push_toArray] at N11
              obtain ⟨j, hj, hjl⟩ : ∃ j : Nat, ((x.fdiv (↑b.length + 1)).fmod (((c.le.filter fun a => decide (a ∉ b)).length + 1 : Nat) : Int)).toNat = j ∧ j < ((c.le.filter fun a => decide (a ∉ b)) ++ [y]).length := by
                refine ⟨_, rfl, ?_⟩
                have h1 := Int.fmod_nonneg_of_pos (x.fdiv (↑b.length + 1)) (b := (((c.le.filter fun a => decide (a ∉ b)).length + 1 : Nat) : Int)) (by omega)
                have h2 := Int.fmod_lt_of_pos (x.fdiv (↑b.length + 1)) (b := (((c.le.filter fun a => decide (a ∉ b)).length + 1 : Nat) : Int)) (by omega)
                rw [List.length_append, List.length_singleton]
                omega
              have hol' : ((c.le.filter fun a => decide (a ∉ b)) ++ [y]).length = (c.le.filter fun a => decide (a ∉ b)).length + 1 := by simp
              (try simp only [hj] at N11)
              have hVm := getD_mem hjl
              generalize hV : ((c.le.filter fun a => decide (a ∉ b)) ++ [y]).getD j 0 = V at N11 hVm
              have hVb : V ∉ b := by
                rcases List.mem_append.mp hVm with h | h
                · simpa using (List.mem_filter.mp h).2
                · rw [List.mem_singleton.mp h]; exact fun hb => hy (hgood.behind hP7 _ hb)
              have hr' : ∀ tok, IntsAre (c.rv ++ [.int V tok]) (c.r ++ [V]) := fun _ => IntsAre.append hr (.cons _ _ .nil)
              have hgl : (c.r ++ [V]).getD ((c.r ++ [V]).length - 1) 0 = V := by
                rw [List.length_append, List.length_singleton, Nat.add_sub_cancel]; exact getD_snoc
              refine' my_last (news_list N11 ?hm1) (hr' _) ?h1 ?_ ?h3
              case hm1 => k_mem
              case h1 => simp
              case h3 => with_unfolding_all rfl
              intro tv
              rw [hgl]
              walk_at "MINE steps"
              refine' my_notin (news_list N11 ?hmb) hle ?ha ?hb
              case hmb => k_mem
              case ha =>
                intro hni
                walk_at "MINE steps"
                refine' my_last (news_list N11 ?hm1) (hr' _) ?h1 ?_ ?h3
                case hm1 => k_mem
                case h1 => simp
                case h3 => with_unfolding_all rfl
                intro tv
                rw [hgl]
                walk_at "MINE steps"
                rename News _ _ _ _ => N12
                rename Fr _ _ _ _ => F12
                simp only [List.push_toArray] at N12
                refine kst_end ⟨cb, _, _, c.r ++ [V], _, _, c.t ++ [0], _, _, c.le ++ [V]⟩ F12 N12 (by kst_in) (by kst_in) (by rfl) ⟨hr' _, ?_, IntsAre.append hle (.cons _ _ .nil), _, dB⟩ (fun p hp => by cases hp) (by walk_at "MINE same") ⟨hgood.new hP7 hni, ?_⟩
                · rw [List.map_append]; exact IntsAre.append ht (.cons _ _ .nil)
                · rw [List.length_append, List.length_append, hP.2]; rfl
              case hb =>
                intro hin
                walk_at "MINE steps"
                rename Fr _ _ _ _ => F12
                refine kst_end ⟨cb, _, _, c.r ++ [V], _, _, c.t ++ [0], _, _, c.le⟩ F12 N11 (by kst_in) (by kst_in) (by rfl) ⟨hr' _, ?_, hle, _, dB⟩ (fun p hp => by cases hp) (by walk_at "MINE same") ⟨hgood.old hP7 hVb hin, ?_⟩
                · rw [List.map_append]; exact IntsAre.append ht (.cons _ _ .nil)
                · rw [List.length_append, List.length_append, hP.2]; rfl
    -- DEV>
  · intro c u h tk hf hP F3 N3
    dsimp only [kstB, envOfC] at hf hP F3 N3
    obtain ⟨hr, ht, hle, cv, hcv⟩ := hf
    (try dsimp only)
    walk_at "MINE steps"
    rename Fr h₀ _ _ _ => F6
    rename News h₀ _ _ _ => N6
    rename _ ∧ _ ∧ _ ∧ _ ∧ _ ∧ AllLt _ _ => lU
    refine hret _ [_, _, _, _] _ _ F6 (kst_newsOf N6 ?_) ?_ ⟨_, RO, TA, LE, c.rv, c.rn, c.tv, c.tn, c.lv, c.ln, c.r, c.t, c.le, rfl, rfl, ⟨lT.1, lL.1, lU.2.1⟩, hr, ht, hle, hP.1, ?_⟩
    · intro p hp
      simp only [List.cons_append, List.nil_append, List.mem_cons] at hp ⊢
      rcases hp with h | h | h | h | h
      · exact .inl h
      · exact .inr (.inr (.inl h))
      · exact .inr (.inr (.inr (.inl h)))
      · exact .inr (.inr (.inr (.inr (.inl h))))
      · exact .inr (.inr (.inr (.inr (.inr (.inr h)))))
    · intro q hq p hp
      have hqL := hnL q hq
      simp only [List.mem_cons, List.not_mem_nil, or_false] at hp
      have h1 : @LT.lt Nat _ q.1 RO := Nat.lt_trans (Nat.lt_succ_of_lt hqL) lR.1; have h2 := lT.1; have h3 := lL.1; have h4 := lU.2.1
      rcases hp with rfl | rfl | rfl | rfl <;> (refine ltN ?_; dsimp only; omega)
    · rw [hP.2, List.length_drop]; omega
set_option maxRecDepth 100000 in
set_option maxHeartbeats 8000000 in
theorem read_t (w mean mg mb) (news : List (Addr × Obj)) (l : Addr) (vs : List Value) (n : Nat) (t : List Nat) (hm : (l, listOf vs.toArray n) ∈ news) (hi : IntsAre vs (t.map Int.ofNat)) (h0 : 0 < t.length) (hl : t.length ≤ 70) (hlow : Low t) :
    Con w mean mg mb 2 38 [.ref l] news (fun v tl => ∃ D rv k r, v = .ref D ∧ tl = [(D, listOf (rv : List Value).toArray k)] ∧ IntsAre rv r ∧ ReadOff t r ∧ r.length = t.length) := by
  unfold Con
  k_fill
  w_top off
  intro dp un gd env outer A₀ base h₀ L m s Q E B F X N T hf hk hd hu hret
  refine wpAny_noRaise (wpAny_call ?_)
  k_dflt (walk_at "MINE enterC")
  k_unmd
  k_fold
  have kMk := kstMark
  rename ∀ p : Addr × Obj, p ∈ news → p.1 < _ => hnL
  obtain ⟨hnc1, hnc2, h12⟩ := cells2 hnL
  have hlt : (t.map Int.ofNat).length = t.length := by simp
  walk_at "MINE steps"
  k_fold
  walk_at "MINE for"
  walk_at "MINE steps"
  rename News _ _ _ _ => N1
  refine my_len (news_list N1 (.tail _ (.tail _ (.tail _ hm)))) hi hlt (by omega) ?_
  intro t1 tk1
  walk_at "MINE steps"
  rename News _ _ _ _ => N2
  rename Fr _ _ _ _ => F2
  rename IsRange _ _ _ _ _ _ _ _ => R2
  rename _ = Data.cell (some (Value.ref _)) => hcr
  rename _ ∧ _ ∧ AllLt _ _ => lR
  refine' kst_range (σ := List Value × Nat × List Int × Obj) (n := t.length - 1) (fun c => (_, listOf c.1.toArray c.2.1) :: (_, c.2.2.2) :: (_, _) :: news) (fun _ => []) (fun c => IntsAre c.1 c.2.2.1 ∧ ∃ v, c.2.2.2.data = .cell v) [] (fun pre c => ReadOff t c.2.2.1 ∧ c.2.2.1.length = pre.length + 1) (_, 0, [0], _) (by rfl) R2 ?hs ?hn F2 N2 ?hf ?hk ?hp ?ht ?hd
  case hs => exact small_one (by omega) (by omega) (by omega) (by omega)
  case hn => rw [rangeSize_nat]; omega
  case hf => exact ⟨.cons _ _ .nil, _, by assumption⟩
  case hk => intro p hp; cases hp
  case hp => exact ⟨readOff_start h0, rfl⟩
  case ht =>
    rintro ⟨rv, rn, r, bo⟩ pre k tk3 u h tk own hk hlt hoff ⟨hr, bv, hbo⟩ hP F3 N3
    dsimp only [kstB, envOfC] at hr hbo hP F3 N3
    simp only [List.cons_append, List.map_cons] at N3 hoff
    (try dsimp only)
    k_fold
    obtain ⟨i, rfl⟩ : ∃ i : Nat, k = (i : Int) := ⟨pre.length + 1, by omega⟩
    have hri : r.length = i := by have := hP.2; omega
    have hit : i < t.length := by omega
    have hm' : (l, listOf vs.toArray n) ∈ news ++ own := List.mem_append.mpr (.inl hm)
    have hx1 : ((i : Int)).toNat = i := by omega
    have hgd : (List.map Int.ofNat t).getD ((i : Int)).toNat 0 = ((t.getD i 0 : Nat) : Int) := by rw [hx1, getD_map]
    have hdl := hlow i
    walk_at "MINE steps"
    · rename News _ _ _ _ => N4
      rename Fr _ _ _ _ => F4
      simp only [List.push_toArray] at N4
      have hx2 : (((t.getD i 0 : Nat) : Int) - 1).toNat = t.getD i 0 - 1 := by omega
      rw [hgd, hx2] at N4
      have hp : 0 < t.getD r.length 0 := by rw [hri]; omega
      refine kst_end (_, _, r ++ [r.getD (t.getD r.length 0 - 1) 0], bo) F4 N4 (by rw [hri]; kst_in) (by kst_in) (by rfl) ⟨IntsAre.append hr (.cons _ _ .nil), _, hbo⟩ (fun p hp => by cases hp) (by walk_at "MINE same") ⟨hP.1.old_step hlow (by omega) hp, ?_⟩
      dsimp only
      rw [List.length_append, List.length_append, hP.2]; rfl
    · k_fold
      walk_at "MINE compU"
      walk_at "MINE steps"
      rename IntsAre _ (List.take _ _) => hI
      rename _ ∧ _ ∧ _ ∧ AllLt _ _ => lD
      have hi0 : 0 < i := by have := hP.2; omega
      have htl : (t.take i).length = i := by rw [List.length_take]; omega
      rw [hx1, ← List.map_take] at hI
      refine' con_use (ends_t w mean mg mb _ _ _ _ (t.take i) ?em hI ?ep ?el ?elow) ?uB ?uF ?uX ?uN ?uT rfl rfl rfl ?ud ?uu ?hh
      walk_at "MINE use"
      case em => k_mem
      case ep => omega
      case el => omega
      case elow => exact low_take hlow i
      case hh =>
        rintro r5 tl5 h5 tk5 F5 N5 hlt5 ⟨EN, vs5, k5, rfl, rfl, hI5⟩
        simp only [List.cons_append, List.nil_append] at N5
        rw [ends_take hlow hi0 (by omega)] at hI5
        have l1 : ∀ q : Addr × Obj, q ∈ _ → q.1 < EN := fun q hq => hlt5 q hq _ (.head _)
        k_lt l1
        (try dsimp only)
        have hel : ((ends t (t.getD (i - 1) 0)).map Int.ofNat).length ≤ 71 := by
          have h1 := ends_length t (t.getD (i - 1) 0) (t.getD (i - 1) 0)
          have h2 := hlow (i - 1)
          rw [List.length_map]; unfold ends; omega
        refine' srcU_list (fun a v => ∃ tt, v = .int (r.getD a.toNat 0) tt) rfl ?sF ?sN ?sm hI5 ?sz ?st ?sf
        case sF => k_asm
        case sN => k_asm
        case sm => k_mem
        case sz => omega
        case st =>
          intro a ta I oI C oC D9 m9 h10 tk10 ys E9 ha hC hx F10 N10
          obtain ⟨a0, ha0, rfl⟩ : ∃ a0 ∈ ends t (t.getD (i - 1) 0), (a0 : Int) = a := by simpa using ha
          have ha1 : a0 < r.length := by
            have h1 := ends_le hlow _ a0 ha0
            have h2 := hlow (i - 1)
            omega
          (try dsimp only)
          (try k_unmd)
          (try k_fold)
          walk_at "MINE steps"
          exact elEnd F10 N10 (fun _ h => h) ⟨_, rfl⟩
        case sf =>
          intro D10 ys k10 h10 tk10 F10 N10 hne10 hels
          have hels := hels.ints (f := fun a => r.getD a.toNat 0) (fun _ _ h => h)
          rw [List.map_map] at hels
          obtain ⟨b, hb⟩ : ∃ b, b = List.map ((fun a : Int => r.getD a.toNat 0) ∘ Int.ofNat) (ends t (t.getD (i - 1) 0)) := ⟨_, rfl⟩
          have hbl : b.length ≤ 71 := by rw [hb, List.length_map]; rw [List.length_map] at hel; exact hel
          rw [← hb] at hels
          have hne10 := allNe_of hne10
          simp only [AllNe] at hne10
          (try dsimp only)
          walk_at "MINE steps"
          k_fold
          walk_at "MINE compT"
          walk_at "MINE steps"
          refine' srcT_range (n := b.length + 1) (fun a v => ∃ tt, v = .int a tt) (fun a => decide (a ∉ b)) rfl ?rF ?rN ?rr ?rb ?rz ?rt ?rf
          case rF => k_asm
          case rN => k_asm
          case rr => assumption
          case rb => omega
          case rz => omega
          case rt =>
            intro a ta I oI C oC D9 m9 h12 tk12 ys E9 ha hC hx F12 N12
            (try dsimp only)
            (try k_unmd)
            (try k_fold)
            walk_at "MINE steps"
            refine' my_notin (news_list N12 ?nm) hels ?na ?nb
            case nm => k_mem
            case na =>
              intro hni
              walk_at "MINE steps"
              exact elEnd F12 N12 (fun _ h => h) ⟨by simp [hni], _, rfl⟩
            case nb =>
              intro hin
              walk_at "MINE steps"
              exact elEnd F12 N12 (fun _ h => h) (by simp [hin])
          case rf =>
            intro D12 ys12 k12 h12 tk12 F12 N12 hne12 hels12
            obtain ⟨V, rest, hV, hVb⟩ := mex_exists b
            rw [hV] at hels12
            have hels12 := hels12.ints (f := fun a => a) (fun _ _ h => h)
            rw [List.map_id'] at hels12
            have hcl : (V :: rest).length ≤ 72 := by
              have := List.length_filter_le (fun a => decide (a ∉ b)) ((List.range (b.length + 1)).map Int.ofNat)
              rw [hV, List.length_map, List.length_range] at this
              omega
            have hcp : 0 < (V :: rest).length := by simp
            have hne12 := allNe_of hne12
            simp only [AllNe] at hne12
            (try dsimp only)
            walk_at "MINE steps"
            rename News _ _ _ _ => N13
            rename Fr _ _ _ _ => F13
            simp only [List.push_toArray] at N13
            rename _ = Data.cell (some (Value.ref D10)) => hcb
            refine kst_end (_, _, r ++ [V], _) F13 N13 (by kst_in) (by kst_in) (by rfl) ⟨IntsAre.append hr (.cons _ _ .nil), _, hcb⟩ (fun p hp => by cases hp) (by walk_at "MINE same") ⟨hP.1.new_step hlow (by omega) (by rw [hri]; omega) ?_, ?_⟩
            · intro k hk e
              rw [hri] at hk
              refine hVb (hb ▸ List.mem_map.mpr ⟨k, hk, ?_⟩)
              rw [e]; rfl
            · dsimp only
              rw [List.length_append, List.length_append, hP.2]; rfl
  case hd =>
    rintro ⟨rv, rn, r, bo⟩ u h tk ⟨hr, bv, hbo⟩ hP F3 N3
    dsimp only [kstB, envOfC] at hr hbo hP F3 N3
    (try dsimp only)
    walk_at "MINE steps"
    rename Fr h₀ _ _ _ => F6
    rename News h₀ _ _ _ => N6
    refine hret _ [_] _ _ F6 (kst_newsOf N6 ?_) ?_ ⟨_, rv, rn, r, rfl, rfl, hr, hP.1, ?_⟩
    · intro p hp
      simp only [List.cons_append, List.nil_append, List.mem_cons] at hp ⊢
      rcases hp with h | h
      · exact .inl h
      · exact .inr (.inr (.inr h))
    · intro q hq p hp
      rw [List.mem_singleton.mp hp]
      exact Nat.lt_trans (hnc1 q hq) lR.2.1
    · rw [hP.2, rangeKs_length]; omega
set_option maxRecDepth 100000 in
set_option maxHeartbeats 8000000 in
theorem law_t : PySem.Challenge.rw_dz0097_01.Holds := by
  apply Mine.hd01
  w_strict k_go0
  have kMk := kstMark
  (try k_unmd)
  (try k_fold)
  walk_at "MINE steps"
  rename IntsAre _ (List.take 60 _ ++ _) => hI
  rename (List.take 60 _).length = _ => hC
  refine' con_use (drawn_t _ _ _ _ _ _ _ _ _ ?dm hI ?d0 ?dl) ?uB ?uF ?uX ?uN ?uT rfl rfl rfl ?ud ?uu ?hh
  walk_at "MINE useTop"
  case dm => k_mem
  case d0 => simp
  case dl => rw [List.length_append, hC]; simp; omega
  case hh =>
    rintro _ _ h5 tk5 F5 N5 hlt5 ⟨TU, RO, TA, LE, rv, rn, tv, tn, lv, ln, r, t, le, rfl, rfl, hord, hr, ht, hle, hg, hrl⟩
    simp only [List.cons_append, List.nil_append] at N5
    have l1 : ∀ q : Addr × Obj, q ∈ _ → q.1 < RO := fun q hq => hlt5 q hq _ (.tail _ (.tail _ (.tail _ (.head _))))
    k_lt l1
    have hrl' : r.length ≤ 66 := by rw [hrl, List.length_append, hC]; simp; omega
    have htl := hg.tlen
    have htl' : (t.map Int.ofNat).length = t.length := by simp
    (try dsimp only)
    walk_at "MINE steps"
    refine' con_use (gen_t _ _ _ _ _ _ _ _ _ (pfx_list ?gm hr ?gl) ?gn) ?uB ?uF ?uX ?uN ?uT rfl rfl rfl ?ud ?uu ?hh
    walk_at "MINE useTop"
    case gm => k_mem
    case gl => omega
    case gn => omega
    case hh =>
      rintro _ _ h6 tk6 F6 N6 hlt6 ⟨TO, ov, on, rfl, rfl, ho⟩
      rw [← hg.tab] at ho
      simp only [List.cons_append, List.nil_append] at N6
      have l2 : ∀ q : Addr × Obj, q ∈ _ → q.1 < TO := fun q hq => hlt6 q hq _ (.head _)
      k_lt l2
      (try dsimp only)
      walk_at "MINE steps"
      refine' con_use (gen_t _ _ _ _ _ _ _ _ _ (pfx_list ?gm hr ?gl) ?gn) ?uB ?uF ?uX ?uN ?uT rfl rfl rfl ?ud ?uu ?hh
      walk_at "MINE useTop"
      case gm => k_mem
      case gl => omega
      case gn => omega
      case hh =>
        rintro _ _ h7 tk7 F7 N7 hlt7 ⟨T2, ov2, on2, rfl, rfl, ho2⟩
        rw [← hg.tab] at ho2
        simp only [List.cons_append, List.nil_append] at N7
        have l3 : ∀ q : Addr × Obj, q ∈ _ → q.1 < T2 := fun q hq => hlt7 q hq _ (.head _)
        k_lt l3
        (try dsimp only)
        walk_at "MINE steps"
        rename News _ _ _ _ => N8
        rename Fr _ _ _ _ => F8
        refine' kde_tupleOf (zs := rv) F8 N8 (news_list N8 ?tm) ?tz rfl ?th
        case tm => k_mem
        case tz => rw [List.size_toArray, hr.length]; omega
        case th =>
          intro TP h8 F9 N9 l4
          k_lt l4
          (try dsimp only)
          walk_at "MINE steps"
          refine' con_use (gen_t _ _ _ _ _ _ _ _ _ (pfx_tuple ?gm hr ?gl) ?gn) ?uB ?uF ?uX ?uN ?uT rfl rfl rfl ?ud ?uu ?hh
          walk_at "MINE useTop"
          case gm => k_mem
          case gl => omega
          case gn => omega
          case hh =>
            rintro _ _ h10 tk10 F10 N10 hlt10 ⟨T3, ov3, on3, rfl, rfl, ho3⟩
            rw [← hg.tab] at ho3
            simp only [List.cons_append, List.nil_append] at N10
            have l5 : ∀ q : Addr × Obj, q ∈ _ → q.1 < T3 := fun q hq => hlt10 q hq _ (.head _)
            k_lt l5
            (try dsimp only)
            walk_at "MINE steps"
            k_fold
            walk_at "MINE compU"
            walk_at "MINE steps"
            refine' srcU_list (fun a v => ∃ tt, v = .str ⟨#[97 + le.idxOf a]⟩ tt) rfl ?sF ?sN ?sm hr ?sz ?st ?sf
            case sF => k_asm
            case sN => k_asm
            case sm => k_mem
            case sz => omega
            case st =>
              intro a ta I oI C oC D9 m9 h12 tk12 ys E9 ha hC9 hx F12 N12
              have hle66 := hg.len
              obtain ⟨hj, _⟩ := idx_get (hg.sub a ha)
              (try dsimp only)
              (try k_unmd)
              (try k_fold)
              walk_at "MINE steps"
              refine' my_index N12 ?im hle (hg.sub a ha) (by omega) ?_
              case im => k_mem
              intro ti tki
              walk_at "MINE steps"
              (try dsimp only)
              have e9 : ((97 : Int) + ((le.idxOf a : Nat) : Int)).toNat = 97 + le.idxOf a := by omega
              exact elEnd F12 N12 (fun _ h => h) ⟨_, by rw [e9]⟩
            case sf =>
              intro D12 ys12 k12 h12 tk12 F12 N12 hne12 hels12
              have hels12 := hels12.strs (f := fun a => ⟨#[97 + le.idxOf a]⟩) (fun _ _ h => h)
              have hne12 := allNe_of hne12
              simp only [AllNe] at hne12
              (try dsimp only)
              walk_at "MINE steps"
              have hsum : ∀ l : List Int, ((l.map (fun a => (⟨#[97 + le.idxOf a]⟩ : Str))).map (·.length)).sum = l.length := by
                intro l
                induction l with
                | nil => rfl
                | cons a l ih => rw [List.map_cons, List.map_cons, List.sum_cons, ih]; simp [PySem.Str.length]; omega
              refine' join_listW (news_list N12 ?jm) hels12 (by decide) ?jw ?_
              case jm => k_mem
              case jw => rw [hsum, List.length_map]; omega
              intro tj kj
              have hcps : (Txt.join (Str.ofString "") (r.map fun a => (⟨#[97 + le.idxOf a]⟩ : Str))).cps = (r.map fun a => 97 + le.idxOf a).toArray := by
                have := join_cps (r.map fun a => 97 + le.idxOf a)
                rwa [List.map_map] at this
              have hcl : (r.map fun a => 97 + le.idxOf a).length = r.length := by simp
              generalize hjx : Txt.join (Str.ofString "") (r.map fun a => (⟨#[97 + le.idxOf a]⟩ : Str)) = jx at hcps
              (try dsimp only)
              walk_at "MINE steps"
              refine' con_use (gen_t _ _ _ _ _ _ _ _ _ (pfx_str hcps ?gl) ?gn) ?uB ?uF ?uX ?uN ?uT rfl rfl rfl ?ud ?uu ?hh
              walk_at "MINE useTop"
              case gl => omega
              case gn => omega
              case hh =>
                rintro _ _ h13 tk13 F13 N13 hlt13 ⟨T4, ov4, on4, rfl, rfl, ho4⟩
                rw [hcl, tab_text hg.sub, ← hg.tab] at ho4
                simp only [List.cons_append, List.nil_append] at N13
                have l6 : ∀ q : Addr × Obj, q ∈ _ → q.1 < T4 := fun q hq => hlt13 q hq _ (.head _)
                k_lt l6
                (try dsimp only)
                walk_at "MINE steps"
                refine' con_use (read_t _ _ _ _ _ _ _ _ t ?rm ht ?r0 ?rl hg.low) ?uB ?uF ?uX ?uN ?uT rfl rfl rfl ?ud ?uu ?hh
                walk_at "MINE useTop"
                case rm => k_mem
                case r0 => rw [htl]; exact hg.pos
                case rl => omega
                case hh =>
                  rintro _ _ h14 tk14 F14 N14 hlt14 ⟨RR, qv, qn, q, rfl, rfl, hq, hro, hql⟩
                  simp only [List.cons_append, List.nil_append] at N14
                  have l7 : ∀ q : Addr × Obj, q ∈ _ → q.1 < RR := fun q hq => hlt14 q hq _ (.head _)
                  k_lt l7
                  (try dsimp only)
                  walk_at "MINE steps"
                  refine' con_use (gen_t _ _ _ _ _ _ _ _ _ (pfx_list ?gm hq ?gl) ?gn) ?uB ?uF ?uX ?uN ?uT rfl rfl rfl ?ud ?uu ?hh
                  walk_at "MINE useTop"
                  case gm => k_mem
                  case gl => omega
                  case gn => omega
                  case hh =>
                    rintro _ _ h15 tk15 F15 N15 hlt15 ⟨T5, ov5, on5, rfl, rfl, ho5⟩
                    rw [read_tab hg hro hql] at ho5
                    simp only [List.cons_append, List.nil_append] at N15
                    have l8 : ∀ q : Addr × Obj, q ∈ _ → q.1 < T5 := fun q hq => hlt15 q hq _ (.head _)
                    k_lt l8
                    (try dsimp only)
                    walk_at "MINE steps"
end Mine
theorem PySem.Challenge.cw_dz0097_01_holds : PySem.Challenge.rw_dz0097_01.Holds := by
  exact Mine.law_t
