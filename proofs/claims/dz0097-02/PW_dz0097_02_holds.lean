import PyProof.Rows.All
import Wide.All
import OpenK.AllK
import Wide.FinOn
import PySem.Challenge.RW_dz0097_02
open PySem PySem.W PyProof.Rows
set_option Elab.async false
namespace Mine
/-- the ends: k, what the table tells at k, and so on to 0 -/
def chain (t : List Nat) : Nat → Nat → List Nat
  | 0, k => [k]
  | f + 1, k => if k = 0 then [0] else k :: chain t f (t.getD (k - 1) 0)
def Low (t : List Nat) : Prop := ∀ j, t.getD j 0 ≤ j
def ends (t : List Nat) (k : Nat) : List Nat := chain t k k
theorem chain_fuel {t : List Nat} (h : Low t) : ∀ f k g, k ≤ f → k ≤ g → chain t f k = chain t g k
  | 0, k, 0, _, _ => rfl
  | 0, k, g + 1, hf, _ => by
    have : k = 0 := by omega
    subst this; simp [chain]
  | f + 1, k, 0, _, hg => by
    have : k = 0 := by omega
    subst this; simp [chain]
  | f + 1, k, g + 1, hf, hg => by
    unfold chain
    by_cases hk : k = 0
    · simp [hk]
    · simp only [hk, if_false]
      have h1 := h (k - 1)
      rw [chain_fuel h f _ g (by omega) (by omega)]
theorem ends_zero (t : List Nat) : ends t 0 = [0] := rfl
theorem ends_pos {t : List Nat} (h : Low t) {k : Nat} (hk : 0 < k) : ends t k = k :: ends t (t.getD (k - 1) 0) := by
  unfold ends
  obtain ⟨k, rfl⟩ : ∃ j, k = j + 1 := ⟨k - 1, by omega⟩
  conv => lhs; unfold chain
  simp only [Nat.add_one_ne_zero, if_false, Nat.add_sub_cancel]
  have h1 := h k
  rw [chain_fuel h k _ _ h1 (Nat.le_refl _)]
theorem ends_ne_nil (t : List Nat) (k : Nat) : ends t k ≠ [] := by
  unfold ends; cases k <;> simp [chain]
theorem ends_length (t : List Nat) : ∀ f k, (chain t f k).length ≤ f + 1
  | 0, k => by simp [chain]
  | f + 1, k => by
    unfold chain
    split
    · simp
    · simp only [List.length_cons]; have := ends_length t f (t.getD (k - 1) 0); omega
theorem ends_le {t : List Nat} (h : Low t) : ∀ k, ∀ j ∈ ends t k, j ≤ k := by
  intro k
  induction k using Nat.strongRecOn with
  | _ k ih =>
    intro j hj
    by_cases hk : k = 0
    · subst hk; simp [ends_zero] at hj; omega
    · rw [ends_pos h (by omega)] at hj
      rcases List.mem_cons.mp hj with rfl | hj
      · exact Nat.le_refl _
      · have h1 := h (k - 1)
        have := ih _ (by omega) j hj
        omega
/-- the first of the ends at which p holds, and one; 0 where there is none -/
def hit (p : Nat → Bool) (l : List Nat) : Nat := match l.find? p with | some j => j + 1 | none => 0
theorem hit_nil (p : Nat → Bool) : hit p [] = 0 := rfl
theorem hit_cons_pos {p : Nat → Bool} {k : Nat} {l : List Nat} (h : p k = true) : hit p (k :: l) = k + 1 := by simp [hit, h]
theorem hit_cons_neg {p : Nat → Bool} {k : Nat} {l : List Nat} (h : p k = false) : hit p (k :: l) = hit p l := by simp [hit, h]
theorem hit_congr {p q : Nat → Bool} : ∀ {l : List Nat}, (∀ k ∈ l, p k = q k) → hit p l = hit q l
  | [], _ => rfl
  | k :: l, h => by
    have h1 := h k (by simp)
    have h2 := hit_congr (p := p) (q := q) (l := l) fun j hj => h j (by simp [hj])
    cases hp : p k with
    | true => rw [hit_cons_pos hp, hit_cons_pos (h1 ▸ hp)]
    | false => rw [hit_cons_neg hp, hit_cons_neg (h1 ▸ hp), h2]
theorem hit_le {p : Nat → Bool} {m : Nat} : ∀ {l : List Nat}, (∀ k ∈ l, k ≤ m) → hit p l ≤ m + 1
  | [], _ => by simp [hit]
  | k :: l, h => by
    have h1 := h k (by simp)
    have h2 := hit_le (p := p) (m := m) (l := l) fun j hj => h j (by simp [hj])
    cases hp : p k with
    | true => rw [hit_cons_pos hp]; omega
    | false => rw [hit_cons_neg hp]; exact h2
theorem hit_zero {p : Nat → Bool} : ∀ {l : List Nat}, hit p l = 0 → ∀ k ∈ l, p k = false
  | [], _, k, hk => by simp at hk
  | j :: l, h, k, hk => by
    cases hp : p j with
    | true => rw [hit_cons_pos hp] at h; omega
    | false =>
      rw [hit_cons_neg hp] at h
      rcases List.mem_cons.mp hk with rfl | hk
      · exact hp
      · exact hit_zero h k hk
theorem hit_none {p : Nat → Bool} {l : List Nat} (h : ∀ k ∈ l, p k = false) : hit p l = 0 := by
  induction l with
  | nil => rfl
  | cons j l ih => rw [hit_cons_neg (h j (by simp))]; exact ih fun k hk => h k (by simp [hk])
/-- the table: e i j tells whether the items at i and j are the same -/
def tab (e : Nat → Nat → Bool) : Nat → List Nat
  | 0 => []
  | 1 => [0]
  | i + 2 => tab e (i + 1) ++ [hit (e (i + 1)) (ends (tab e (i + 1)) ((tab e (i + 1)).getD i 0))]
theorem tab_length (e : Nat → Nat → Bool) : ∀ n, (tab e n).length = n
  | 0 => rfl
  | 1 => rfl
  | i + 2 => by simp [tab, tab_length e (i + 1)]
theorem low_of_lt {t : List Nat} (h : ∀ j, j < t.length → t.getD j 0 ≤ j) : Low t := fun j => by
  by_cases hj : j < t.length
  · exact h j hj
  · rw [List.getD_eq_getElem?_getD, List.getElem?_eq_none (by omega)]; simp
theorem tab_low (e : Nat → Nat → Bool) : ∀ n, Low (tab e n)
  | 0 => fun j => by simp [tab]
  | 1 => fun j => by cases j <;> simp [tab]
  | i + 2 => by
    have ih := tab_low e (i + 1)
    have hl := tab_length e (i + 1)
    refine low_of_lt fun j hj => ?_
    have hj' : j < i + 2 := by rw [tab_length] at hj; exact hj
    simp only [tab, List.getD_eq_getElem?_getD]
    by_cases h : j < i + 1
    · rw [List.getElem?_append_left (by omega)]
      have := ih j
      rw [List.getD_eq_getElem?_getD] at this
      exact this
    · have : j = i + 1 := by omega
      subst this
      rw [List.getElem?_append_right (by omega), hl]
      simp only [Nat.sub_self, List.getElem?_cons_zero, Option.getD_some]
      have h1 := ih i
      have h2 := hit_le (p := e (i + 1)) (m := i) (l := ends (tab e (i + 1)) ((tab e (i + 1)).getD i 0)) fun k hk => Nat.le_trans (ends_le ih _ k hk) h1
      simpa [List.getD_eq_getElem?_getD] using h2
theorem tab_take (e : Nat → Nat → Bool) : ∀ n k, k ≤ n → (tab e n).take k = tab e k
  | 0, k, h => by
    have : k = 0 := by omega
    subst this; rfl
  | 1, k, h => by
    have : k = 0 ∨ k = 1 := by omega
    rcases this with rfl | rfl <;> rfl
  | i + 2, k, h => by
    by_cases hk : k = i + 2
    · subst hk; rw [List.take_of_length_le (by rw [tab_length]; exact Nat.le_refl _)]
    · rw [tab, List.take_append_of_le_length (by rw [tab_length]; omega)]
      exact tab_take e (i + 1) k (by omega)
theorem tab_get (e : Nat → Nat → Bool) {n j : Nat} (h : j < n) : (tab e n).getD j 0 = (tab e (j + 1)).getD j 0 := by
  have h1 := tab_take e n (j + 1) h
  rw [← h1, List.getD_eq_getElem?_getD, List.getD_eq_getElem?_getD, List.getElem?_take_of_lt (by omega)]
theorem tab_step (e : Nat → Nat → Bool) {i : Nat} (h : 0 < i) : tab e (i + 1) = tab e i ++ [hit (e i) (ends (tab e i) ((tab e i).getD (i - 1) 0))] := by
  obtain ⟨i, rfl⟩ : ∃ j, i = j + 1 := ⟨i - 1, by omega⟩
  rfl
theorem tab_congr {e f : Nat → Nat → Bool} : ∀ {n : Nat}, (∀ i j, i < n → j < n → e i j = f i j) → tab e n = tab f n
  | 0, _ => rfl
  | 1, _ => rfl
  | i + 2, h => by
    have ih := tab_congr (e := e) (f := f) (n := i + 1) fun a b ha hb => h a b (by omega) (by omega)
    simp only [tab, ih]
    have hl := tab_low f (i + 1)
    rw [hit_congr fun k hk => h (i + 1) k (by omega) (by have := ends_le hl _ k hk; have := hl i; omega)]
/-- chains look at a table's beginning alone -/
theorem chain_pre {t u : List Nat} {m : Nat} (h : ∀ j, j < m → t.getD j 0 = u.getD j 0) (hl : Low t) : ∀ f k, k ≤ m → chain t f k = chain u f k
  | 0, k, _ => rfl
  | f + 1, k, hk => by
    unfold chain
    by_cases h0 : k = 0
    · simp [h0]
    · simp only [h0, if_false]
      have h1 := h (k - 1) (by omega)
      have h2 := hl (k - 1)
      rw [← h1, chain_pre h hl f _ (by omega)]
theorem ends_pre {t u : List Nat} {m k : Nat} (h : ∀ j, j < m → t.getD j 0 = u.getD j 0) (hl : Low t) (hk : k ≤ m) : ends t k = ends u k := chain_pre h hl _ _ hk
theorem rep_flat (n : Nat) : (List.replicate n 0).map Int.ofNat = (List.replicate ((n : Int)).toNat [(0 : Int)]).flatten := by
  rw [Int.toNat_natCast]
  induction n with
  | zero => rfl
  | succ n ih => simp [List.replicate_succ, ih]
theorem getD_map (t : List Nat) (i : Nat) : (List.map Int.ofNat t).getD i 0 = ((t.getD i 0 : Nat) : Int) := by
  simp [List.getD_eq_getElem?_getD, List.getElem?_map]; cases t[i]? <;> rfl
theorem take_low (e : Nat → Nat → Bool) (n k r : Nat) : Low ((tab e n).take k ++ List.replicate r 0) := by
  refine fun j => ?_
  rw [List.getD_eq_getElem?_getD, List.getElem?_append]
  split
  · rw [List.getElem?_take]
    split
    · have := tab_low e n j
      rwa [List.getD_eq_getElem?_getD] at this
    · simp
  · rw [List.getElem?_replicate]
    split <;> simp
theorem set_step {e : Nat → Nat → Bool} {n i : Nat} {t : List Nat} (ht : t = (tab e n).take (i + 1) ++ List.replicate (n - (i + 1)) 0) (hi : i + 1 < n) (x : Nat)
    (hx : x = hit (e (i + 1)) (ends t (t.getD i 0))) : t.set (i + 1) x = (tab e n).take (i + 1 + 1) ++ List.replicate (n - (i + 1 + 1)) 0 := by
  have h1 : (tab e n).take (i + 1) = tab e (i + 1) := tab_take e n _ (by omega)
  have h2 : (tab e n).take (i + 1 + 1) = tab e (i + 1 + 1) := tab_take e n _ (by omega)
  have hl := tab_length e (i + 1)
  rw [h1] at ht
  have hg : ∀ j, j < i + 1 → t.getD j 0 = (tab e (i + 1)).getD j 0 := by
    intro j hj
    rw [ht, List.getD_eq_getElem?_getD, List.getD_eq_getElem?_getD, List.getElem?_append_left (by omega)]
  have hlow : Low t := by rw [ht, ← h1]; exact take_low e n _ _
  have he : ends t (t.getD i 0) = ends (tab e (i + 1)) ((tab e (i + 1)).getD i 0) := by
    rw [hg i (by omega)]
    exact ends_pre hg hlow (by have := tab_low e (i + 1) i; omega)
  rw [h2, tab_step e (by omega : 0 < i + 1), hx, he, ht]
  obtain ⟨r, hr⟩ : ∃ r, n - (i + 1) = r + 1 := ⟨n - (i + 1) - 1, by omega⟩
  have hr' : n - (i + 1 + 1) = r := by omega
  rw [hr, hr', List.replicate_succ, List.set_append_right _ _ (by omega), hl, Nat.sub_self, List.set_cons_zero, List.append_assoc]
  rfl
theorem map_set (t : List Nat) (i x : Nat) : (t.map Int.ofNat).set i (x : Int) = (t.set i x).map Int.ofNat := by
  rw [List.map_set]; rfl
def eqs (r : List Int) (i j : Nat) : Bool := r.getD i 0 == r.getD j 0
/-- the row, its table, its letters -/
structure Good (r : List Int) (t : List Nat) (le : List Int) : Prop where
  pos : 0 < r.length
  tab : t = tab (eqs r) r.length
  nodup : le.Nodup
  sub : ∀ y ∈ r, y ∈ le
  len : le.length ≤ r.length
theorem good_start (x : Int) : Good [x] [0] [x] := ⟨by simp, rfl, by simp, by simp, by simp⟩
theorem Good.tlen {r : List Int} {t : List Nat} {le : List Int} (g : Good r t le) : t.length = r.length := by rw [g.tab, tab_length]
theorem Good.low {r : List Int} {t : List Nat} {le : List Int} (g : Good r t le) : Low t := by rw [g.tab]; exact tab_low _ _
theorem Good.ends_lt {r : List Int} {t : List Nat} {le : List Int} (g : Good r t le) : ∀ k ∈ ends t (t.getD (t.length - 1) 0), k < r.length := by
  intro k hk
  have h1 := ends_le g.low _ k hk
  have h2 := g.low (t.length - 1)
  have h3 := g.tlen
  have h4 := g.pos
  omega
/-- what is known of the numbers behind the ends so far, and their lengths -/
structure BInv (r : List Int) (pre : List Nat) (b : List Int) (q : List Nat) : Prop where
  len : b.length = q.length
  le : b.length ≤ pre.length
  pos : ∀ j, j < b.length → 0 < q.getD j 0
  hits : ∀ j, j < b.length → hit (fun k => r.getD k 0 == b.getD j 0) pre = q.getD j 0
  all : ∀ k ∈ pre, r.getD k 0 ∈ b
  sub : ∀ y ∈ b, ∃ k ∈ pre, y = r.getD k 0
theorem hit_append {p : Nat → Bool} {l m : List Nat} : hit p (l ++ m) = if hit p l = 0 then hit p m else hit p l := by
  induction l with
  | nil => rfl
  | cons k l ih =>
    cases h : p k with
    | true => rw [List.cons_append, hit_cons_pos h, hit_cons_pos h]; simp
    | false => rw [List.cons_append, hit_cons_neg h, hit_cons_neg h]; exact ih
theorem BInv.start (r : List Int) : BInv r [] [] [] := ⟨rfl, Nat.le_refl _, by simp, by simp, by simp, by simp⟩
theorem BInv.seen {r : List Int} {pre : List Nat} {b : List Int} {q : List Nat} {k : Nat} (h : BInv r pre b q) (hk : r.getD k 0 ∈ b) : BInv r (pre ++ [k]) b q where
  len := h.len
  le := by have := h.le; simp; omega
  pos := h.pos
  hits := fun j hj => by
    have h1 := h.hits j hj
    have h2 := h.pos j hj
    rw [hit_append, if_neg (by omega), h1]
  all := fun i hi => by
    rcases List.mem_append.mp hi with hi | hi
    · exact h.all i hi
    · rw [List.mem_singleton.mp hi]; exact hk
  sub := fun y hy => by obtain ⟨i, hi, e⟩ := h.sub y hy; exact ⟨i, by simp [hi], e⟩
theorem BInv.new {r : List Int} {pre : List Nat} {b : List Int} {q : List Nat} {k : Nat} (h : BInv r pre b q) (hk : r.getD k 0 ∉ b) : BInv r (pre ++ [k]) (b ++ [r.getD k 0]) (q ++ [k + 1]) := by
  have hl := h.len
  have gb : ∀ j, j < b.length → (b ++ [r.getD k 0]).getD j 0 = b.getD j 0 := fun j hj => by simp [List.getD_eq_getElem?_getD, List.getElem?_append_left hj]
  have gq : ∀ j, j < b.length → (q ++ [k + 1]).getD j 0 = q.getD j 0 := fun j hj => by simp [List.getD_eq_getElem?_getD, List.getElem?_append_left (show j < q.length by omega)]
  have eb : (b ++ [r.getD k 0]).getD b.length 0 = r.getD k 0 := by simp [List.getD_eq_getElem?_getD]
  have eq : (q ++ [k + 1]).getD b.length 0 = k + 1 := by rw [hl]; simp [List.getD_eq_getElem?_getD]
  refine ⟨by simp [hl], by have := h.le; simp; omega, fun j hj => ?_, fun j hj => ?_, fun i hi => ?_, fun y hy => ?_⟩
  · rw [List.length_append, List.length_singleton] at hj
    by_cases e : j = b.length
    · subst e; rw [eq]; omega
    · rw [gq j (by omega)]; exact h.pos j (by omega)
  · rw [List.length_append, List.length_singleton] at hj
    by_cases e : j = b.length
    · subst e
      rw [eq, eb, hit_append, if_pos]
      · exact hit_cons_pos (by simp)
      · refine hit_none fun i hi => ?_
        have := h.all i hi
        simp only [beq_eq_false_iff_ne, ne_eq]
        intro e; rw [e] at this; exact hk this
    · have hj' : j < b.length := by omega
      rw [gq j hj', gb j hj', hit_append, if_neg (by rw [h.hits j hj']; have := h.pos j hj'; omega), h.hits j hj']
  · rcases List.mem_append.mp hi with hi | hi
    · exact List.mem_append.mpr (.inl (h.all i hi))
    · rw [List.mem_singleton.mp hi]; simp
  · rcases List.mem_append.mp hy with hy | hy
    · obtain ⟨i, hi, e⟩ := h.sub y hy; exact ⟨i, by simp [hi], e⟩
    · exact ⟨k, by simp, List.mem_singleton.mp hy⟩
theorem getD_snoc_lt {r : List Int} {V : Int} {k : Nat} (h : k < r.length) : (r ++ [V]).getD k 0 = r.getD k 0 := by
  simp [List.getD_eq_getElem?_getD, List.getElem?_append_left h]
theorem getD_snoc {r : List Int} {V : Int} : (r ++ [V]).getD r.length 0 = V := by
  simp [List.getD_eq_getElem?_getD]
theorem Good.step {r : List Int} {t : List Nat} {le : List Int} (g : Good r t le) (V : Int) (x : Nat) (hx : hit (fun k => r.getD k 0 == V) (ends t (t.getD (t.length - 1) 0)) = x) :
    t ++ [x] = Mine.tab (eqs (r ++ [V])) (r ++ [V]).length := by
  have hp := g.pos
  have hl := g.tlen
  have he := g.ends_lt
  have h1 : Mine.tab (eqs (r ++ [V])) r.length = t := by
    rw [g.tab]
    refine tab_congr fun i j hi hj => ?_
    simp only [eqs, getD_snoc_lt hi, getD_snoc_lt hj]
  rw [List.length_append, List.length_singleton, tab_step _ hp, h1, ← hx]
  congr 2
  rw [hl] at he ⊢
  refine hit_congr fun k hk => ?_
  simp only [eqs, getD_snoc, getD_snoc_lt (he k hk)]
  rw [Bool.eq_iff_iff, beq_iff_eq, beq_iff_eq]
  exact eq_comm
theorem getD_mem {l : List Int} {j : Nat} (h : j < l.length) : l.getD j 0 ∈ l := by
  rw [List.getD_eq_getElem?_getD, List.getElem?_eq_getElem h]
  exact List.getElem_mem h
theorem Good.pick {r : List Int} {t : List Nat} {le : List Int} (g : Good r t le) {b : List Int} {q : List Nat} (h : BInv r (ends t (t.getD (t.length - 1) 0)) b q) {j : Nat} (hj : j < b.length) :
    Good (r ++ [b.getD j 0]) (t ++ [q.getD j 0]) le := by
  refine ⟨by simp, g.step _ _ (h.hits j hj), g.nodup, fun y hy => ?_, by have := g.len; simp; omega⟩
  rcases List.mem_append.mp hy with hy | hy
  · exact g.sub y hy
  · rw [List.mem_singleton.mp hy]
    obtain ⟨k, hk, e⟩ := h.sub _ (getD_mem hj)
    rw [e]
    exact g.sub _ (getD_mem (g.ends_lt k hk))
theorem Good.behind {r : List Int} {t : List Nat} {le : List Int} (g : Good r t le) {b : List Int} {q : List Nat} (h : BInv r (ends t (t.getD (t.length - 1) 0)) b q) : ∀ y ∈ b, y ∈ le := by
  intro y hy
  obtain ⟨k, hk, e⟩ := h.sub y hy
  rw [e]
  exact g.sub _ (getD_mem (g.ends_lt k hk))
theorem Good.none {r : List Int} {t : List Nat} {le : List Int} (g : Good r t le) {b : List Int} {q : List Nat} (h : BInv r (ends t (t.getD (t.length - 1) 0)) b q) {V : Int} (hV : V ∉ b) :
    t ++ [0] = Mine.tab (eqs (r ++ [V])) (r ++ [V]).length := by
  refine g.step V 0 (hit_none fun k hk => ?_)
  have := h.all k hk
  simp only [beq_eq_false_iff_ne, ne_eq]
  intro e; rw [e] at this; exact hV this
theorem Good.old {r : List Int} {t : List Nat} {le : List Int} (g : Good r t le) {b : List Int} {q : List Nat} (h : BInv r (ends t (t.getD (t.length - 1) 0)) b q) {V : Int} (hV : V ∉ b) (hl : V ∈ le) :
    Good (r ++ [V]) (t ++ [0]) le := by
  refine ⟨by simp, g.none h hV, g.nodup, fun y hy => ?_, by have := g.len; simp; omega⟩
  rcases List.mem_append.mp hy with hy | hy
  · exact g.sub y hy
  · rw [List.mem_singleton.mp hy]; exact hl
theorem Good.new {r : List Int} {t : List Nat} {le : List Int} (g : Good r t le) {b : List Int} {q : List Nat} (h : BInv r (ends t (t.getD (t.length - 1) 0)) b q) {V : Int} (hl : V ∉ le) :
    Good (r ++ [V]) (t ++ [0]) (le ++ [V]) := by
  refine ⟨by simp, g.none h (fun hb => hl (g.behind h V hb)), ?_, fun y hy => ?_, by have := g.len; simp; omega⟩
  · refine List.nodup_append.mpr ⟨g.nodup, by simp, fun a ha b hb => ?_⟩
    rw [List.mem_singleton.mp hb]
    intro e; rw [e] at ha; exact hl ha
  rcases List.mem_append.mp hy with hy | hy
  · exact List.mem_append.mpr (.inl (g.sub y hy))
  · exact List.mem_append.mpr (.inr hy)
/-- the row r' is read off the table t, so far -/
structure ReadOff (t : List Nat) (r : List Int) : Prop where
  pos : 0 < r.length
  le : r.length ≤ t.length
  old : ∀ i, 0 < i → i < r.length → 0 < t.getD i 0 → r.getD i 0 = r.getD (t.getD i 0 - 1) 0
  new : ∀ i, 0 < i → i < r.length → t.getD i 0 = 0 → ∀ k ∈ ends t (t.getD (i - 1) 0), r.getD i 0 ≠ r.getD k 0
/-- the ends of a prefix: members are ends of one another -/
theorem ends_sub {t : List Nat} (h : Low t) : ∀ k, ∀ j ∈ ends t k, ∀ i ∈ ends t k, i < j → 0 < j ∧ i ∈ ends t (t.getD (j - 1) 0) := by
  intro k
  induction k using Nat.strongRecOn with
  | _ k ih =>
    intro j hj i hi hij
    by_cases hk : k = 0
    · subst hk; simp [ends_zero] at hj hi; omega
    · rw [ends_pos h (by omega)] at hj hi
      have hlk := h (k - 1)
      rcases List.mem_cons.mp hj with rfl | hj
      · rcases List.mem_cons.mp hi with rfl | hi
        · omega
        · exact ⟨by omega, hi⟩
      · rcases List.mem_cons.mp hi with rfl | hi
        · have := ends_le h _ j hj; omega
        · exact ih _ (by omega) j hj i hi hij
theorem hit_pos {p : Nat → Bool} : ∀ {l : List Nat}, 0 < hit p l → hit p l - 1 ∈ l ∧ p (hit p l - 1) = true
  | [], h => by simp [hit] at h
  | k :: l, h => by
    cases hp : p k with
    | true => rw [hit_cons_pos hp]; simp [hp]
    | false =>
      rw [hit_cons_neg hp] at h ⊢
      have := hit_pos (p := p) (l := l) h
      exact ⟨by simp [this.1], this.2⟩
/-- in a falling list the first hit is the greatest -/
theorem hit_first {p : Nat → Bool} : ∀ {l : List Nat}, l.Pairwise (· > ·) → ∀ k ∈ l, p k = true → k + 1 ≤ hit p l
  | [], _, k, hk, _ => by simp at hk
  | j :: l, hl, k, hk, hp => by
    have h1 := List.pairwise_cons.mp hl
    cases hj : p j with
    | true =>
      rw [hit_cons_pos hj]
      rcases List.mem_cons.mp hk with rfl | hk
      · exact Nat.le_refl _
      · have := h1.1 k hk; omega
    | false =>
      rw [hit_cons_neg hj]
      rcases List.mem_cons.mp hk with rfl | hk
      · rw [hp] at hj; cases hj
      · exact hit_first h1.2 k hk hp
theorem ends_falling {t : List Nat} (h : Low t) : ∀ k, (ends t k).Pairwise (· > ·) := by
  intro k
  induction k using Nat.strongRecOn with
  | _ k ih =>
    by_cases hk : k = 0
    · subst hk; simp [ends_zero]
    · rw [ends_pos h (by omega)]
      have hlk := h (k - 1)
      refine List.pairwise_cons.mpr ⟨fun j hj => ?_, ih _ (by omega)⟩
      have := ends_le h _ j hj
      omega
theorem tab_at (e : Nat → Nat → Bool) {n i : Nat} (h0 : 0 < i) (hi : i < n) : (tab e n).getD i 0 = hit (e i) (ends (tab e n) ((tab e n).getD (i - 1) 0)) := by
  have h1 := tab_get e hi
  rw [h1, tab_step e h0, List.getD_eq_getElem?_getD, List.getElem?_append_right (by rw [tab_length]; exact Nat.le_refl _), tab_length]
  simp only [Nat.sub_self, List.getElem?_cons_zero, Option.getD_some]
  have h2 : ∀ j, j < i → (tab e i).getD j 0 = (tab e n).getD j 0 := by
    intro j hj
    rw [← tab_take e n i (by omega), List.getD_eq_getElem?_getD, List.getD_eq_getElem?_getD, List.getElem?_take_of_lt hj]
  rw [h2 (i - 1) (by omega)]
  rw [ends_pre h2 (tab_low e i) (by have := tab_low e n (i - 1); omega)]
/-- the heart: the row's pattern on the ends is the same -/
theorem same_pattern {r r' : List Int} {t : List Nat} {le : List Int} (g : Good r t le) (o : ReadOff t r') (hl : r'.length = t.length) :
    ∀ i, i < t.length → 0 < i → ∀ k ∈ ends t (t.getD (i - 1) 0), (eqs r i k = true ↔ eqs r' i k = true) := by
  intro i
  induction i using Nat.strongRecOn with
  | _ i ih =>
    intro hi h0 k hk
    have hlow := g.low
    have htl := g.tlen
    have hlt : ∀ j ∈ ends t (t.getD (i - 1) 0), j < i := fun j hj => by
      have := ends_le hlow _ j hj
      have := hlow (i - 1)
      omega
    have hat : t.getD i 0 = hit (eqs r i) (ends t (t.getD (i - 1) 0)) := by
      have := tab_at (eqs r) h0 (show i < r.length by omega)
      rw [← g.tab] at this
      exact this
    by_cases hz : t.getD i 0 = 0
    · have h1 := hit_zero (hat.symm.trans hz) k hk
      have h2 := o.new i h0 (by omega) hz k hk
      constructor
      · intro h; rw [h1] at h; cases h
      · intro h; exact absurd (by simpa [eqs] using h) h2
    · have hp : 0 < hit (eqs r i) (ends t (t.getD (i - 1) 0)) := by omega
      obtain ⟨hm, he⟩ := hit_pos hp
      rw [← hat] at hm he
      have hr' := o.old i h0 (by omega) (by omega)
      have he' : r.getD i 0 = r.getD (t.getD i 0 - 1) 0 := by simpa [eqs] using he
      have hd : t.getD i 0 - 1 < i := hlt _ hm
      rcases Nat.lt_trichotomy k (t.getD i 0 - 1) with hlt' | heq | hgt
      · obtain ⟨hp', hk'⟩ := ends_sub hlow _ _ hm k hk hlt'
        have := ih (t.getD i 0 - 1) hd (by omega) hp' k hk'
        simp only [eqs, beq_iff_eq] at this ⊢
        rw [he', hr']; exact this
      · simp only [eqs, beq_iff_eq]
        rw [heq]
        exact ⟨fun _ => hr', fun _ => he'⟩
      · obtain ⟨hp', hk'⟩ := ends_sub hlow _ k hk _ hm hgt
        have := ih k (hlt k hk) (by have := hlt k hk; omega) hp' _ hk'
        simp only [eqs, beq_iff_eq] at this ⊢
        rw [he', hr']
        exact ⟨fun h => (this.mp h.symm).symm, fun h => (this.mpr h.symm).symm⟩
/-- the row that is read off has the same table -/
theorem read_tab {r r' : List Int} {t : List Nat} {le : List Int} (g : Good r t le) (o : ReadOff t r') (hl : r'.length = t.length) : tab (eqs r') r'.length = t := by
  have key : ∀ n, n ≤ t.length → tab (eqs r') n = t.take n := by
    intro n
    induction n with
    | zero => intro _; simp [tab]
    | succ n ih =>
      intro hn
      have htl := g.tlen
      have hlow := g.low
      by_cases h0 : n = 0
      · subst h0
        have h1 : t.take 1 = tab (eqs r) 1 := by rw [g.tab]; exact tab_take _ _ _ (by omega)
        rw [h1]; rfl
      · have h1 := ih (by omega)
        rw [tab_step _ (by omega : 0 < n), h1]
        have hg : ∀ j, j < n → (t.take n).getD j 0 = t.getD j 0 := fun j hj => by
          rw [List.getD_eq_getElem?_getD, List.getD_eq_getElem?_getD, List.getElem?_take_of_lt hj]
        have hlow' : Low (t.take n) := fun j => by
          by_cases hj : j < n
          · rw [hg j hj]; exact hlow j
          · rw [List.getD_eq_getElem?_getD, List.getElem?_take]; simp [hj]
        rw [hg (n - 1) (by omega), ends_pre hg hlow' (by have := hlow (n - 1); omega)]
        have hat : t.getD n 0 = hit (eqs r n) (ends t (t.getD (n - 1) 0)) := by
          have := tab_at (eqs r) (by omega : 0 < n) (show n < r.length by omega)
          rw [← g.tab] at this
          exact this
        rw [hit_congr (q := eqs r n) fun k hk => by
          have := same_pattern g o hl n (by omega) (by omega) k hk
          rw [Bool.eq_iff_iff]; exact this.symm, ← hat]
        rw [List.take_add_one, List.getD_eq_getElem?_getD, List.getElem?_eq_getElem (by omega)]
        rfl
  rw [hl, key _ (Nat.le_refl _), List.take_length]
theorem mex_exists (b : List Int) : ∃ V rest, ((List.range (b.length + 1)).map Int.ofNat).filter (fun a => decide (a ∉ b)) = V :: rest ∧ V ∉ b := by
  cases hf : ((List.range (b.length + 1)).map Int.ofNat).filter (fun a => decide (a ∉ b)) with
  | nil =>
    exfalso
    have hs : (List.range (b.length + 1)).map Int.ofNat ⊆ b := by
      intro a ha
      have := List.filter_eq_nil_iff.mp hf a ha
      simpa using this
    have hn : ((List.range (b.length + 1)).map Int.ofNat).Nodup := by
      refine List.Pairwise.map Int.ofNat (fun a b h => ?_) List.nodup_range
      intro e; exact h (Int.ofNat.inj e)
    have := hn.length_le_of_subset hs
    simp at this
    omega
  | cons V rest =>
    refine ⟨V, rest, rfl, ?_⟩
    have : V ∈ ((List.range (b.length + 1)).map Int.ofNat).filter (fun a => decide (a ∉ b)) := by rw [hf]; exact .head _
    simpa using (List.mem_filter.mp this).2
theorem readOff_start {t : List Nat} (h : 0 < t.length) : ReadOff t [0] := ⟨by simp, by simp; omega, fun i h0 h1 => by simp at h1; omega, fun i h0 h1 => by simp at h1; omega⟩
theorem ReadOff.old_step {t : List Nat} {r : List Int} (h : ReadOff t r) (hlow : Low t) (hi : r.length < t.length) (hp : 0 < t.getD r.length 0) : ReadOff t (r ++ [r.getD (t.getD r.length 0 - 1) 0]) := by
  have hd := hlow r.length
  refine ⟨by simp, by simp; omega, fun i h0 h1 h2 => ?_, fun i h0 h1 h2 k hk => ?_⟩
  · have hdi := hlow i
    by_cases e : i = r.length
    · subst e
      rw [getD_snoc, getD_snoc_lt (by omega)]
    · have h3 : i < r.length := by simp at h1; omega
      rw [getD_snoc_lt h3, getD_snoc_lt (by omega)]
      exact h.old i h0 h3 h2
  · by_cases e : i = r.length
    · subst e; omega
    · have h3 : i < r.length := by simp at h1; omega
      have h4 := ends_le hlow _ k hk
      have h5 := hlow (i - 1)
      rw [getD_snoc_lt h3, getD_snoc_lt (by omega)]
      exact h.new i h0 h3 h2 k hk
theorem ReadOff.new_step {t : List Nat} {r : List Int} {V : Int} (h : ReadOff t r) (hlow : Low t) (hi : r.length < t.length) (hz : t.getD r.length 0 = 0) (hV : ∀ k ∈ ends t (t.getD (r.length - 1) 0), V ≠ r.getD k 0) : ReadOff t (r ++ [V]) := by
  have hpos := h.pos
  refine ⟨by simp, by simp; omega, fun i h0 h1 h2 => ?_, fun i h0 h1 h2 k hk => ?_⟩
  · have hdi := hlow i
    by_cases e : i = r.length
    · subst e; omega
    · have h3 : i < r.length := by simp at h1; omega
      rw [getD_snoc_lt h3, getD_snoc_lt (by omega)]
      exact h.old i h0 h3 h2
  · have h4 := ends_le hlow _ k hk
    have h5 := hlow (i - 1)
    by_cases e : i = r.length
    · subst e
      rw [getD_snoc, getD_snoc_lt (by omega)]
      exact hV k hk
    · have h3 : i < r.length := by simp at h1; omega
      rw [getD_snoc_lt h3, getD_snoc_lt (by omega)]
      exact h.new i h0 h3 h2 k hk
theorem take_getD {t : List Nat} {i j : Nat} (h : j < i) : (t.take i).getD j 0 = t.getD j 0 := by
  rw [List.getD_eq_getElem?_getD, List.getD_eq_getElem?_getD, List.getElem?_take_of_lt h]
theorem low_take {t : List Nat} (h : Low t) (i : Nat) : Low (t.take i) := fun j => by
  by_cases hj : j < i
  · rw [take_getD hj]; exact h j
  · rw [List.getD_eq_getElem?_getD, List.getElem?_take]; simp [hj]
theorem ends_take {t : List Nat} (h : Low t) {i : Nat} (h0 : 0 < i) (hi : i ≤ t.length) : ends (t.take i) ((t.take i).getD ((t.take i).length - 1) 0) = ends t (t.getD (i - 1) 0) := by
  have hl : (t.take i).length = i := by rw [List.length_take]; omega
  rw [hl, take_getD (by omega)]
  exact ends_pre (m := i) (fun j hj => take_getD hj) (low_take h i) (by have := h (i - 1); omega)
abbrev Suf (r : List Int) (kk : Nat) (f : Int) (k : Nat) : Prop := r.take k = (r.take kk ++ [f]).drop (kk + 1 - k)
def IsCome (r : List Int) (kk : Nat) (f : Int) (j : Nat) : Prop := j ≤ kk + 1 ∧ (0 < j → Suf r kk f j) ∧ ∀ k, j < k → k ≤ kk + 1 → ¬ Suf r kk f k
theorem isCome_unique {r : List Int} {kk : Nat} {f : Int} {i j : Nat} (hi : IsCome r kk f i) (hj : IsCome r kk f j) : i = j := by
  rcases Nat.lt_trichotomy i j with h | h | h
  · exact absurd (hj.2.1 (by omega)) (hi.2.2 j h hj.1)
  · exact h
  · exact absurd (hi.2.1 (by omega)) (hj.2.2 i h hi.1)
open Classical in
noncomputable def comeOf (r : List Int) (kk : Nat) (f : Int) : Nat := if h : ∃ j, IsCome r kk f j then Classical.choose h else 0
theorem comeOf_eq {r : List Int} {kk : Nat} {f : Int} {j : Nat} (h : IsCome r kk f j) : comeOf r kk f = j := by
  unfold comeOf
  have h' : ∃ j, IsCome r kk f j := ⟨j, h⟩
  rw [dif_pos h']
  exact isCome_unique (Classical.choose_spec h') h
theorem two_pow_le {a b : Nat} (h : a ≤ b) : (2 : Int) ^ a ≤ 2 ^ b := by
  obtain ⟨c, rfl⟩ : ∃ c, b = a + c := ⟨b - a, by omega⟩
  rw [Int.pow_add]
  have h1 : (1 : Int) ≤ 2 ^ c := by
    induction c with
    | zero => simp
    | succ c ih => rw [Int.pow_succ]; have := ih (by omega); omega
  have h2 : (0 : Int) ≤ 2 ^ a := Int.pow_nonneg (by omega)
  have h3 := Int.mul_le_mul_of_nonneg_left h1 h2
  rwa [Int.mul_one] at h3
theorem worth_bound {m : Int} {ws : List Int} {t : List Nat} {n : Nat} (hm0 : 0 ≤ m) (hm1 : m < 2 ^ 210) (h0 : ws.getD 0 0 = 0) (hk : ∀ k, k < n → ws.getD (k + 1) 0 = m ^ (k + 1) + ws.getD (t.getD k 0) 0) (hlow : Low t) :
    ∀ k, k ≤ n → 0 ≤ ws.getD k 0 ∧ ws.getD k 0 < 2 ^ (220 * (k + 1)) := by
  have hp : ∀ k : Nat, 0 ≤ m ^ k ∧ m ^ k ≤ 2 ^ (210 * k) := by
    intro k
    induction k with
    | zero => simp
    | succ k ih =>
      refine ⟨Int.pow_nonneg hm0, ?_⟩
      rw [Int.pow_succ, show 210 * (k + 1) = 210 * k + 210 by omega, Int.pow_add]
      exact Int.mul_le_mul ih.2 (by omega) hm0 (Int.pow_nonneg (by omega))
  intro k
  induction k using Nat.strongRecOn with
  | _ k ih =>
    intro hkn
    cases k with
    | zero => rw [h0]; exact ⟨Int.le_refl _, by decide⟩
    | succ k =>
      have hl := hlow k
      have h1 := ih (t.getD k 0) (by omega) (by omega)
      have h2 := hp (k + 1)
      rw [hk k (by omega)]
      have h3 : (2 : Int) ^ (220 * (t.getD k 0 + 1)) ≤ 2 ^ (220 * (k + 1)) := two_pow_le (by omega)
      have h4 : (2 : Int) ^ (210 * (k + 1)) ≤ 2 ^ (220 * (k + 1)) := two_pow_le (by omega)
      have h5 : (2 : Int) ^ (220 * (k + 1 + 1)) = 2 ^ (220 * (k + 1)) * 2 ^ 220 := by rw [← Int.pow_add, show 220 * (k + 1 + 1) = 220 * (k + 1) + 220 by omega]
      have h6 : (2 : Int) * 2 ^ (220 * (k + 1)) ≤ 2 ^ (220 * (k + 1)) * 2 ^ 220 := by
        rw [Int.mul_comm 2]
        exact Int.mul_le_mul_of_nonneg_left (by decide) (Int.pow_nonneg (by omega))
      exact ⟨by omega, by omega⟩
theorem wait_bound {ws : List Int} {n : Nat} (hb : ∀ k, k ≤ n → 0 ≤ ws.getD k 0 ∧ ws.getD k 0 < 2 ^ (220 * (k + 1))) (hl : ws.length = n + 1) (hn : n ≤ 13) : ∀ x, ((ws.map fun a => ws.getD n 0 - a).getD x 0).natAbs < 2 ^ 4000 := by
  intro x
  have big : ∀ k, k ≤ n → 0 ≤ ws.getD k 0 ∧ ws.getD k 0 < 2 ^ 3999 := fun k hk => by
    have h1 := hb k hk
    have h2 : (2 : Int) ^ (220 * (k + 1)) ≤ 2 ^ 3999 := two_pow_le (by omega)
    exact ⟨h1.1, Int.lt_of_lt_of_le h1.2 h2⟩
  have key : ∀ z : Int, -(2 ^ 3999) < z → z < 2 ^ 3999 → z.natAbs < 2 ^ 4000 := by
    intro z h1 h2
    have h3 : ((2 : Nat) ^ 3999) < 2 ^ 4000 := Nat.pow_lt_pow_right (by omega) (by omega)
    have h4 : z.natAbs < 2 ^ 3999 := by
      have h5 : ((2 ^ 3999 : Nat) : Int) = 2 ^ 3999 := by rw [Int.natCast_pow]; rfl
      generalize (2 : Int) ^ 3999 = P at *
      generalize (2 : Nat) ^ 3999 = R at *
      omega
    exact Nat.lt_trans h4 h3
  rw [List.getD_eq_getElem?_getD, List.getElem?_map]
  by_cases hx : x < ws.length
  · have hg : ws[x]? = some (ws.getD x 0) := by rw [List.getD_eq_getElem?_getD, List.getElem?_eq_getElem hx]; rfl
    rw [hg]
    simp only [Option.map_some, Option.getD_some]
    have h1 := big n (Nat.le_refl _)
    have h2 := big x (by omega)
    refine key _ ?_ ?_
    · generalize (2 : Int) ^ 3999 = P at *; omega
    · generalize (2 : Int) ^ 3999 = P at *; omega
  · rw [List.getElem?_eq_none (by omega)]
    simp only [Option.map_none, Option.getD_none]
    exact Nat.pow_pos (by omega)
/-- the first b of the row are the last b of its first k -/
abbrev Bd (r : List Int) (k b : Nat) : Prop := b ≤ k ∧ r.take b = (r.take k).drop (k - b)
theorem bd_trans {r : List Int} {k c b : Nat} (h : Bd r k c) (hb : b ≤ c) : Bd r k b ↔ Bd r c b := by
  have h1 : (r.take c).drop (c - b) = (r.take k).drop (k - b) := by
    rw [h.2, List.drop_drop]
    congr 1
    have := h.1
    omega
  unfold Bd
  rw [h1]
  have := h.1
  constructor
  · exact fun x => ⟨hb, x.2⟩
  · exact fun x => ⟨by omega, x.2⟩
theorem bd_zero (r : List Int) (k : Nat) : Bd r k 0 := ⟨Nat.zero_le _, by simp⟩
theorem bd_self (r : List Int) (k : Nat) : Bd r k k := ⟨Nat.le_refl _, by simp⟩
theorem take_succ_getD {r : List Int} {b : Nat} (h : b < r.length) : r.take (b + 1) = r.take b ++ [r.getD b 0] := by
  rw [List.take_add_one, List.getElem?_eq_getElem h, List.getD_eq_getElem?_getD, List.getElem?_eq_getElem h]
  rfl
theorem suf_iff {r : List Int} {kk : Nat} {f : Int} {c : Nat} (hk : kk < r.length) (hc : c ≤ kk) : Suf r kk f (c + 1) ↔ Bd r kk c ∧ r.getD c 0 = f := by
  unfold Suf
  have e1 : kk + 1 - (c + 1) = kk - c := by omega
  have hl : (r.take kk).length = kk := by rw [List.length_take]; omega
  rw [e1, take_succ_getD (by omega), List.drop_append_of_le_length (by omega)]
  constructor
  · intro h
    have h1 := List.append_inj' h rfl
    exact ⟨⟨hc, h1.1⟩, by simpa using h1.2⟩
  · rintro ⟨h1, rfl⟩
    rw [h1.2]
theorem bd_succ {r : List Int} {k c : Nat} (hk : k < r.length) (hc : c ≤ k) : Bd r (k + 1) (c + 1) ↔ Bd r k c ∧ r.getD c 0 = r.getD k 0 := by
  rw [← suf_iff hk hc]
  unfold Suf Bd
  rw [← take_succ_getD hk]
  constructor
  · exact fun h => h.2
  · exact fun h => ⟨by omega, h⟩
/-- the table tells the greatest proper border, and its ends are all of them -/
theorem ends_bd (r : List Int) : ∀ k, 0 < k → k ≤ r.length → ∀ b, b ∈ ends (tab (eqs r) r.length) ((tab (eqs r) r.length).getD (k - 1) 0) ↔ (b < k ∧ Bd r k b) := by
  have hlow := tab_low (eqs r) r.length
  intro k
  induction k using Nat.strongRecOn with
  | _ k ih =>
    intro h0 hk b
    generalize ht : (tab (eqs r) r.length) = t at *
    -- what the table tells at k - 1 is a border, and the greatest
    have hmax : Bd r k (t.getD (k - 1) 0) ∧ t.getD (k - 1) 0 < k ∧ ∀ c, c < k → Bd r k c → c ≤ t.getD (k - 1) 0 := by
      have hle := hlow (k - 1)
      obtain ⟨j, rfl⟩ : ∃ j, k = j + 1 := ⟨k - 1, by omega⟩
      rw [Nat.add_sub_cancel] at hle ⊢
      by_cases hj : j = 0
      · subst hj
        have h1 : t.getD 0 0 = 0 := by omega
        rw [h1]
        exact ⟨bd_zero _ _, by omega, fun c hc _ => by omega⟩
      · have hat := tab_at (eqs r) (by omega : 0 < j) (show j < r.length by omega)
        rw [ht] at hat
        have hm := ih j (by omega) (by omega) (by omega)
        have hf := ends_falling hlow (t.getD (j - 1) 0)
        by_cases hz : t.getD j 0 = 0
        · rw [hz]
          refine ⟨bd_zero _ _, by omega, fun c hc hb => ?_⟩
          by_cases hc0 : c = 0
          · omega
          · exfalso
            obtain ⟨d, rfl⟩ : ∃ d, c = d + 1 := ⟨c - 1, by omega⟩
            have h1 := (bd_succ (by omega) (by omega : d ≤ j)).mp hb
            have h2 := (hm d).mpr ⟨by omega, h1.1⟩
            have h3 := hit_zero (hat.symm.trans hz) d h2
            simp only [eqs, beq_eq_false_iff_ne, ne_eq] at h3
            exact h3 h1.2.symm
        · have hp : 0 < hit (eqs r j) (ends t (t.getD (j - 1) 0)) := by omega
          obtain ⟨h1, h2⟩ := hit_pos hp
          rw [← hat] at h1 h2
          have h3 := (hm _).mp h1
          have h4 : r.getD (t.getD j 0 - 1) 0 = r.getD j 0 := by
            simp only [eqs, beq_iff_eq] at h2; exact h2.symm
          have h5 : Bd r (j + 1) (t.getD j 0 - 1 + 1) := (bd_succ (by omega) (by omega)).mpr ⟨h3.2, h4⟩
          rw [show t.getD j 0 - 1 + 1 = t.getD j 0 by omega] at h5
          refine ⟨h5, by omega, fun c hc hb => ?_⟩
          by_cases hc0 : c = 0
          · omega
          · obtain ⟨d, rfl⟩ : ∃ d, c = d + 1 := ⟨c - 1, by omega⟩
            have g1 := (bd_succ (by omega) (by omega : d ≤ j)).mp hb
            have g2 := (hm d).mpr ⟨by omega, g1.1⟩
            have g3 := hit_first (p := eqs r j) hf d g2 (by simp only [eqs, beq_iff_eq]; exact g1.2.symm)
            rw [← hat] at g3
            exact g3
    generalize hT : t.getD (k - 1) 0 = T at *
    by_cases hT0 : T = 0
    · subst hT0
      rw [ends_zero]
      constructor
      · intro h
        rw [List.mem_singleton.mp h]
        exact ⟨h0, bd_zero _ _⟩
      · rintro ⟨h1, h2⟩
        have := hmax.2.2 b h1 h2
        rw [show b = 0 by omega]
        exact .head _
    · rw [ends_pos hlow (by omega), List.mem_cons]
      have hr := ih T hmax.2.1 (by omega) (by omega) b
      constructor
      · rintro (rfl | h)
        · exact ⟨hmax.2.1, hmax.1⟩
        · have h1 := hr.mp h
          exact ⟨by omega, (bd_trans hmax.1 (by omega)).mpr h1.2⟩
      · rintro ⟨h1, h2⟩
        have h3 := hmax.2.2 b h1 h2
        by_cases e : b = T
        · exact .inl e
        · exact .inr (hr.mpr ⟨by omega, (bd_trans hmax.1 (by omega)).mp h2⟩)
def sumTo (g : Nat → Int) : Nat → Int
  | 0 => 0
  | n + 1 => sumTo g n + g n
theorem sumTo_congr {g h : Nat → Int} : ∀ {n : Nat}, (∀ i, i < n → g i = h i) → sumTo g n = sumTo h n
  | 0, _ => rfl
  | n + 1, e => by
    simp only [sumTo]
    rw [sumTo_congr fun i hi => e i (by omega), e n (by omega)]
theorem sumTo_more {g : Nat → Int} {n : Nat} : ∀ {d : Nat}, (∀ i, n ≤ i → i < n + d → g i = 0) → sumTo g (n + d) = sumTo g n
  | 0, _ => rfl
  | d + 1, e => by
    show sumTo g (n + d) + g (n + d) = sumTo g n
    rw [sumTo_more fun i h1 h2 => e i h1 (by omega), e (n + d) (by omega) (by omega), Int.add_zero]
theorem sumTo_mul (c : Int) (g : Nat → Int) : ∀ n, sumTo (fun i => c * g i) n = c * sumTo g n
  | 0 => by simp [sumTo]
  | n + 1 => by simp only [sumTo]; rw [sumTo_mul c g n, Int.mul_add]
theorem sumTo_shift (g : Nat → Int) : ∀ n, sumTo g (n + 1) = g 0 + sumTo (fun i => g (i + 1)) n
  | 0 => by simp [sumTo]
  | n + 1 => by
    show sumTo g (n + 1) + g (n + 1) = _
    rw [sumTo_shift g n]
    simp only [sumTo]
    omega
theorem sumTo_list {α : Type} (fs : List α) (g : α → Nat → Int) : ∀ n, (fs.map fun f => sumTo (g f) n).sum = sumTo (fun i => (fs.map fun f => g f i).sum) n
  | 0 => by
    simp only [sumTo]
    induction fs with
    | nil => rfl
    | cons f fs ih => rw [List.map_cons, List.sum_cons, ih]; rfl
  | n + 1 => by
    simp only [sumTo]
    rw [← sumTo_list fs g n]
    induction fs with
    | nil => rfl
    | cons f fs ih => simp only [List.map_cons, List.sum_cons]; rw [ih]; omega
/-- the worth by its borders -/
def S (m : Int) (r : List Int) (k : Nat) : Int := sumTo (fun b => if 1 ≤ b ∧ Bd r k b then m ^ b else 0) (k + 1)
theorem S_zero (m : Int) (r : List Int) : S m r 0 = 0 := by simp [S, sumTo]
theorem S_step (m : Int) (r : List Int) {k : Nat} (hk : k < r.length) : S m r (k + 1) = m ^ (k + 1) + S m r ((tab (eqs r) r.length).getD k 0) := by
  have hlow := tab_low (eqs r) r.length
  have he := ends_bd r (k + 1) (by omega) (by omega)
  rw [Nat.add_sub_cancel] at he
  generalize ht : (tab (eqs r) r.length) = t at *
  have hle := hlow k
  have hmem : t.getD k 0 ∈ ends t (t.getD k 0) := by
    by_cases h0 : t.getD k 0 = 0
    · rw [h0, ends_zero]; exact .head _
    · rw [ends_pos hlow (by omega)]; exact .head _
  have hb := (he _).mp hmem
  have hmax : ∀ c, c < k + 1 → Bd r (k + 1) c → c ≤ t.getD k 0 := fun c h1 h2 => ends_le hlow _ c ((he c).mpr ⟨h1, h2⟩)
  unfold S
  generalize hT : t.getD k 0 = T at *
  show sumTo _ (k + 1) + (if 1 ≤ k + 1 ∧ Bd r (k + 1) (k + 1) then m ^ (k + 1) else 0) = _
  rw [if_pos ⟨by omega, bd_self _ _⟩, Int.add_comm]
  congr 1
  obtain ⟨d, hd⟩ : ∃ d, k + 1 = T + 1 + d := ⟨k - T, by omega⟩
  have h1 : sumTo (fun b => if 1 ≤ b ∧ Bd r (k + 1) b then m ^ b else 0) (T + 1 + d) = sumTo (fun b => if 1 ≤ b ∧ Bd r (k + 1) b then m ^ b else 0) (T + 1) := by
    refine sumTo_more fun i h1 h2 => ?_
    rw [if_neg]
    rintro ⟨_, h3⟩
    have := hmax i (by omega) h3
    omega
  rw [← hd] at h1
  rw [h1]
  refine sumTo_congr fun i hi => ?_
  have h2 := bd_trans hb.2 (by omega : i ≤ T)
  by_cases h3 : 1 ≤ i ∧ Bd r (k + 1) i
  · rw [if_pos h3, if_pos ⟨h3.1, h2.mp h3.2⟩]
  · rw [if_neg h3, if_neg fun h4 => h3 ⟨h4.1, h2.mpr h4.2⟩]
theorem come_exists (r : List Int) (kk : Nat) (f : Int) : ∃ j, IsCome r kk f j := by
  have key : ∀ K, K ≤ kk + 1 → ∃ j, j ≤ K ∧ (0 < j → Suf r kk f j) ∧ ∀ k, j < k → k ≤ K → ¬ Suf r kk f k := by
    intro K
    induction K with
    | zero => intro _; exact ⟨0, Nat.le_refl _, fun h => absurd h (Nat.lt_irrefl _), fun k h1 h2 => by omega⟩
    | succ K ih =>
      intro hK
      by_cases hs : Suf r kk f (K + 1)
      · exact ⟨K + 1, Nat.le_refl _, fun _ => hs, fun k h1 h2 => by omega⟩
      · obtain ⟨j, h1, h2, h3⟩ := ih (by omega)
        refine ⟨j, by omega, h2, fun k h4 h5 => ?_⟩
        by_cases e : k = K + 1
        · rw [e]; exact hs
        · exact h3 k h4 (by omega)
  obtain ⟨j, h1, h2, h3⟩ := key (kk + 1) (Nat.le_refl _)
  exact ⟨j, h1, h2, h3⟩
theorem comeOf_is (r : List Int) (kk : Nat) (f : Int) : IsCome r kk f (comeOf r kk f) := by
  obtain ⟨j, hj⟩ := come_exists r kk f
  rw [comeOf_eq hj]; exact hj
theorem suf_bd {r : List Int} {kk : Nat} {f : Int} {c b : Nat} (h : Suf r kk f c) (hc : c ≤ kk + 1) (hb : b ≤ c) : Suf r kk f b ↔ Bd r c b := by
  have h1 : (r.take c).drop (c - b) = (r.take kk ++ [f]).drop (kk + 1 - b) := by
    rw [show r.take c = _ from h, List.drop_drop]
    congr 1
    omega
  unfold Suf Bd
  rw [h1]
  exact ⟨fun x => ⟨hb, x⟩, fun x => x.2⟩
theorem S_come (m : Int) (r : List Int) (kk : Nat) (f : Int) : S m r (comeOf r kk f) = sumTo (fun b => if 1 ≤ b ∧ Suf r kk f b then m ^ b else 0) (kk + 2) := by
  obtain ⟨h1, h2, h3⟩ := comeOf_is r kk f
  generalize comeOf r kk f = c at *
  obtain ⟨d, hd⟩ : ∃ d, kk + 2 = c + 1 + d := ⟨kk + 1 - c, by omega⟩
  rw [hd, sumTo_more]
  · unfold S
    refine sumTo_congr fun i hi => ?_
    by_cases hi0 : 1 ≤ i
    · have h4 := suf_bd (h2 (by omega)) h1 (by omega : i ≤ c)
      by_cases h5 : Bd r c i
      · rw [if_pos ⟨hi0, h5⟩, if_pos ⟨hi0, h4.mpr h5⟩]
      · rw [if_neg fun h => h5 h.2, if_neg fun h => h5 (h4.mp h.2)]
    · rw [if_neg fun h => hi0 h.1, if_neg fun h => hi0 h.1]
  · intro i h4 h5
    rw [if_neg]
    rintro ⟨_, h6⟩
    exact h3 i (by omega) (by omega) h6
theorem one_face {fs : List Int} (hnd : fs.Nodup) (P : Prop) [Decidable P] (x v : Int) : (fs.map fun f => if P ∧ x = f then v else 0).sum = if P ∧ x ∈ fs then v else 0 := by
  induction fs with
  | nil => simp
  | cons f fs ih =>
    have h1 := List.nodup_cons.mp hnd
    rw [List.map_cons, List.sum_cons, ih h1.2]
    by_cases hP : P
    · by_cases hx : x = f
      · subst hx
        simp [hP, h1.1]
      · simp [hP, hx]
    · simp [hP]
theorem sum_sub_map (fs : List Int) (W : Int) (g : Int → Int) : (fs.map fun f => W - g f).sum = fs.length * W - (fs.map g).sum := by
  induction fs with
  | nil => simp
  | cons f fs ih =>
    rw [List.map_cons, List.sum_cons, ih, List.map_cons, List.sum_cons, List.length_cons, Int.natCast_succ, Int.add_mul]
    omega
theorem conway {r fs ws : List Int} {M : Int} {i : Nat} (hnd : fs.Nodup) (hfm : ∀ y, y ∈ fs ↔ y ∈ r) (hwl : ws.length = r.length + 1) (hw0 : ws.getD 0 0 = 0)
    (hwk : ∀ k, k < r.length → ws.getD (k + 1) 0 = (fs.length + M) ^ (k + 1) + ws.getD ((tab (eqs r) r.length).getD k 0) 0) (hi : i < r.length) :
    ((fs.length : Int) + M) * (ws.map fun a => ws.getD r.length 0 - a).getD (0 + (i : Int)).toNat 0 = (fs.length : Int) + M + (fs.map fun a => (ws.map fun a => ws.getD r.length 0 - a).getD (comeOf r i a) 0).sum + M * (ws.map fun a => ws.getD r.length 0 - a).getD (Int.toNat 0) 0 := by
  have hlow := tab_low (eqs r) r.length
  have hS : ∀ k, k ≤ r.length → ws.getD k 0 = S (fs.length + M) r k := by
    intro k
    induction k using Nat.strongRecOn with
    | _ k ih =>
      intro hk
      cases k with
      | zero => rw [hw0, S_zero]
      | succ k =>
        have := hlow k
        rw [hwk k (by omega), S_step _ _ (by omega), ih _ (by omega) (by omega)]
  have hget : ∀ k, k ≤ r.length → (ws.map fun a => ws.getD r.length 0 - a).getD k 0 = ws.getD r.length 0 - ws.getD k 0 := by
    intro k hk
    rw [List.getD_eq_getElem?_getD, List.getElem?_map, List.getElem?_eq_getElem (by omega)]
    simp only [Option.map_some, Option.getD_some]
    congr 1
    rw [List.getD_eq_getElem?_getD, List.getElem?_eq_getElem (by omega)]
    rfl
  have hc : ∀ a, comeOf r i a ≤ r.length := fun a => by have := (comeOf_is r i a).1; omega
  have hi0 : (0 + (i : Int)).toNat = i := by omega
  have h00 : Int.toNat 0 = 0 := rfl
  have hmap : (fs.map fun a => (ws.map fun a => ws.getD r.length 0 - a).getD (comeOf r i a) 0) = fs.map fun a => ws.getD r.length 0 - S (fs.length + M) r (comeOf r i a) :=
    List.map_congr_left fun a _ => by rw [hget _ (hc a), hS _ (hc a)]
  have hsum : (fs.map fun a => S (fs.length + M) r (comeOf r i a)).sum = (fs.length + M) * (1 + S (fs.length + M) r i) := by
    have e1 : (fs.map fun a => S (fs.length + M) r (comeOf r i a)) = fs.map fun a => sumTo (fun b => if 1 ≤ b ∧ Suf r i a b then ((fs.length : Int) + M) ^ b else 0) (i + 2) :=
      List.map_congr_left fun a _ => S_come _ r i a
    rw [e1, sumTo_list fs (fun a b => if 1 ≤ b ∧ Suf r i a b then ((fs.length : Int) + M) ^ b else 0), sumTo_shift]
    have e2 : (fs.map fun f => if 1 ≤ 0 ∧ Suf r i f 0 then ((fs.length : Int) + M) ^ 0 else 0).sum = 0 := by
      clear hnd hfm hwk hS hmap e1
      generalize ((fs.length : Int) + M) ^ 0 = q
      induction fs with
      | nil => rfl
      | cons f fs ih => rw [List.map_cons, List.sum_cons, ih]; simp
    rw [e2, Int.zero_add]
    have e3 : sumTo (fun c => (fs.map fun f => if 1 ≤ c + 1 ∧ Suf r i f (c + 1) then ((fs.length : Int) + M) ^ (c + 1) else 0).sum) (i + 1) = sumTo (fun c => ((fs.length : Int) + M) * (if Bd r i c then ((fs.length : Int) + M) ^ c else 0)) (i + 1) := by
      refine sumTo_congr fun c hc => ?_
      have e4 : (fs.map fun f => if 1 ≤ c + 1 ∧ Suf r i f (c + 1) then ((fs.length : Int) + M) ^ (c + 1) else 0) = fs.map fun f => if Bd r i c ∧ r.getD c 0 = f then ((fs.length : Int) + M) ^ (c + 1) else 0 := by
        refine List.map_congr_left fun f _ => ?_
        have e5 := suf_iff (f := f) hi (by omega : c ≤ i)
        by_cases h : Suf r i f (c + 1)
        · rw [if_pos ⟨by omega, h⟩, if_pos (e5.mp h)]
        · rw [if_neg fun x => h x.2, if_neg fun x => h (e5.mpr x)]
      rw [e4, one_face hnd]
      have hmem : r.getD c 0 ∈ fs := (hfm _).mpr (getD_mem (by omega))
      by_cases hb : Bd r i c
      · rw [if_pos ⟨hb, hmem⟩, if_pos hb, Int.pow_succ, Int.mul_comm]
      · rw [if_neg fun x => hb x.1, if_neg hb, Int.mul_zero]
    rw [e3, sumTo_mul]
    congr 1
    unfold S
    rw [sumTo_shift, sumTo_shift (fun b => if 1 ≤ b ∧ Bd r i b then ((fs.length : Int) + M) ^ b else 0), if_pos (bd_zero r i), if_neg (by omega), Int.pow_zero, Int.zero_add]
    congr 1
    refine sumTo_congr fun c _ => ?_
    by_cases hb : Bd r i (c + 1)
    · rw [if_pos hb, if_pos ⟨by omega, hb⟩]
    · rw [if_neg hb, if_neg fun x => hb x.2]
  rw [hi0, h00, hget i (by omega), hget 0 (by omega), hmap, sum_sub_map fs _ (fun a => S (fs.length + M) r (comeOf r i a)), hsum, hS i (by omega), hw0]
  generalize ws.getD r.length 0 = W
  generalize S (fs.length + M) r i = T
  rw [Int.mul_sub, Int.mul_add, Int.mul_one, Int.sub_zero, Int.add_mul]
  omega
section
open PyProof.Rows.LCg PyProof.Rows.LCt
/-- the values ys, each in the relation R to its number -/
inductive Els (R : Int → Value → Prop) : List Value → List Int → Prop where
  | nil : Els R [] []
  | cons {a : Int} {y : Value} {ys : List Value} {as : List Int} : R a y → Els R ys as → Els R (y :: ys) (a :: as)
theorem Els.snoc {R : Int → Value → Prop} {a : Int} {y : Value} : ∀ {ys : List Value} {as : List Int}, Els R ys as → R a y → Els R (ys ++ [y]) (as ++ [a])
  | _, _, .nil, h => .cons h .nil
  | _, _, .cons h r, h' => .cons h (r.snoc h')
theorem Els.ints {R : Int → Value → Prop} {f : Int → Int} (hR : ∀ a y, R a y → ∃ t, y = .int (f a) t) : ∀ {ys : List Value} {as : List Int}, Els R ys as → IntsAre ys (as.map f)
  | _, _, .nil => .nil
  | _, _, .cons h r => by
    obtain ⟨t, rfl⟩ := hR _ _ h
    exact .cons _ _ (r.ints hR)
theorem Els.strs {R : Int → Value → Prop} {f : Int → Str} (hR : ∀ a y, R a y → ∃ t, y = .str (f a) t) : ∀ {ys : List Value} {as : List Int}, Els R ys as → StrsAre ys (as.map f)
  | _, _, .nil => .nil
  | _, _, .cons h r => by
    obtain ⟨t, rfl⟩ := hR _ _ h
    exact .cons _ _ (r.strs hR)
theorem off1_ne {D : Addr} : ∀ {l : List (Addr × Obj)}, Off1 D l → ∀ p ∈ l, p.1 ≠ D
  | [], _, _, h => nomatch h
  | _ :: _, x, p, h => by
    rcases List.mem_cons.mp h with rfl | h
    · exact x.1
    · exact off1_ne x.2 p h
section
variable {prog : Program} {w : World} {A : Around} {E : Value → Shared → Prop} {s : Shared} {h₀ : Heap} {L : Addr} {m : Str → Option Value} {env : Env}
/-- the end of an element or a test: everything that is known stands -/
def ElEnd (h₀ : Heap) (L : Addr) (m : Str → Option Value) (s₁ : Shared) (need : List (Addr × Obj)) (G : Prop) (s₂ : Shared) : Prop :=
  ∃ h' tk all, s₂ = { s₁ with heap := h', toks := tk } ∧ Fr h₀ L h' m ∧ News h₀ L h' all ∧ (∀ p ∈ need, p ∈ all) ∧ G
theorem elEnd {G : Prop} {s₁ : Shared} {need all : List (Addr × Obj)} {h' : Heap} {tk : Nat} (F : Fr h₀ L h' m) (N : News h₀ L h' all) (hs : ∀ p ∈ need, p ∈ all) (g : G) : ElEnd h₀ L m s₁ need G { s₁ with heap := h', toks := tk } := ⟨h', tk, all, rfl, F, N, hs, g⟩
theorem restT {ct elt : Expr} {x : Str} {scope : Scope} {cl : List (Str × Addr)} {S : List (Addr × Obj) → Prop} {P : Nat → Value → Prop} {Fin : List Value → List (Addr × Obj) → Prop} {news : List (Addr × Obj)} {ks : List Int} (R : Int → Value → Prop) (p : Int → Bool)
    (hP : ∀ i v, i < ks.length → P i v → ∃ a t, ks[i]? = some a ∧ v = .int a t) (hS : S news)
    (turn : ∀ a t I oI C oC D m₂ h tk ys (E' : Value → Shared → Prop), a ∈ ks → NsObj oC m₂ → m₂ x = some (.int a t) → Fr h₀ L h m → News h₀ L h ((I, oI) :: (C, oC) :: (D, lst ys) :: news) →
      wpAny (model prog w) A (isTrue ct (compEnvC scope cl C env) (eval ct (compEnvC scope cl C env))) (fun ok s' => if ok = true then
        wpAny (model prog w) A (eval elt (compEnvC scope cl C env)) (fun y => ElEnd h₀ L m { s with heap := h, toks := tk } ((I, oI) :: (C, oC) :: (D, lst ys) :: news) (p a = true ∧ R a y)) E' s'
        else ElEnd h₀ L m { s with heap := h, toks := tk } ((I, oI) :: (C, oC) :: (D, lst ys) :: news) (p a = false) s') E' { s with heap := h, toks := tk })
    (fin : ∀ ys, Els R ys (ks.filter p) → Fin ys news) :
    ∀ k i ys, i + k = ks.length → Els R ys ((ks.take i).filter p) → CompRestT prog w A h₀ L m env ct elt x scope cl s S P Fin k i ys news := by
  intro k
  induction k with
  | zero =>
    intro i ys hi he
    refine CompRestT.zero (fin ys ?_)
    rwa [List.take_of_length_le (by omega)] at he
  | succ k ih =>
    intro i ys hi he
    refine CompRestT.succ fun v I oI C oC D m₂ h tk E' hv hN hx F N off ne => ?_
    obtain ⟨a, t, ha, rfl⟩ := hP i v (by omega) hv
    have htake : (ks.take (i + 1)).filter p = (ks.take i).filter p ++ (if p a then [a] else []) := by
      rw [List.take_add_one, ha]
      simp only [Option.toList_some, List.filter_append]
      congr 1
      cases hp : p a <;> simp [hp]
    refine wpAny_mono (turn a t I oI C oC D m₂ h tk ys E' (List.mem_of_getElem? ha) hN hx F N) (fun ok s' q => ?_) fun _ _ e => e
    cases ok with
    | true =>
      simp only [if_true] at q ⊢
      refine wpAny_mono q (fun y s'' q => ?_) fun _ _ e => e
      obtain ⟨h', tk', all, rfl, F', N', hs, hp, hR⟩ := q
      refine CompEnd.intro F' N' news hs off hS (ih (i + 1) _ (by omega) ?_)
      rw [htake, hp]
      exact he.snoc hR
    | false =>
      simp only [Bool.false_eq_true, if_false] at q ⊢
      obtain ⟨h', tk', all, rfl, F', N', hs, hp⟩ := q
      refine CompEnd.intro F' N' news hs off hS (ih (i + 1) _ (by omega) ?_)
      rw [htake, hp]
      simpa using he
theorem restU {elt : Expr} {x : Str} {scope : Scope} {cl : List (Str × Addr)} {S : List (Addr × Obj) → Prop} {P : Nat → Value → Prop} {Fin : List Value → List (Addr × Obj) → Prop} {news : List (Addr × Obj)} {ks : List Int} (R : Int → Value → Prop)
    (hP : ∀ i v, i < ks.length → P i v → ∃ a t, ks[i]? = some a ∧ v = .int a t) (hS : S news)
    (turn : ∀ a t I oI C oC D m₂ h tk ys (E' : Value → Shared → Prop), a ∈ ks → NsObj oC m₂ → m₂ x = some (.int a t) → Fr h₀ L h m → News h₀ L h ((I, oI) :: (C, oC) :: (D, lst ys) :: news) →
      wpAny (model prog w) A (eval elt (compEnvC scope cl C env)) (fun y => ElEnd h₀ L m { s with heap := h, toks := tk } ((I, oI) :: (C, oC) :: (D, lst ys) :: news) (R a y)) E' { s with heap := h, toks := tk })
    (fin : ∀ ys, Els R ys ks → Fin ys news) :
    ∀ k i ys, i + k = ks.length → Els R ys (ks.take i) → CompRest prog w A h₀ L m env elt x scope cl s S P Fin k i ys news := by
  intro k
  induction k with
  | zero =>
    intro i ys hi he
    refine CompRest.zero (fin ys ?_)
    rwa [List.take_of_length_le (by omega)] at he
  | succ k ih =>
    intro i ys hi he
    refine CompRest.succ fun v I oI C oC D m₂ h tk E' hv hN hx F N off ne => ?_
    obtain ⟨a, t, ha, rfl⟩ := hP i v (by omega) hv
    have htake : ks.take (i + 1) = ks.take i ++ [a] := by
      rw [List.take_add_one, ha]; rfl
    refine wpAny_mono (turn a t I oI C oC D m₂ h tk ys E' (List.mem_of_getElem? ha) hN hx F N) (fun y s'' q => ?_) fun _ _ e => e
    obtain ⟨h', tk', all, rfl, F', N', hs, hR⟩ := q
    refine CompEnd.intro F' N' news hs off hS (ih (i + 1) _ (by omega) ?_)
    rw [htake]
    exact he.snoc hR
theorem intsAre_at {vs : List Value} {ns : List Int} (hi : IntsAre vs ns) : ∀ (i : Nat) (v : Value), vs.toArray[i]? = some v → ∃ a t, ns[i]? = some a ∧ v = .int a t := by
  intro i v hv
  have hv' : vs[i]? = some v := by simpa using hv
  have hlt : i < ns.length := by rw [← hi.length]; exact (List.getElem?_eq_some_iff.mp hv').1
  obtain ⟨t, ht⟩ := hi.get i ns[i] (by simp [hlt])
  refine ⟨ns[i], t, by simp [hlt], ?_⟩
  rw [ht] at hv'; exact (Option.some.inj hv').symm
theorem srcT_list {ct elt : Expr} {x : Str} {scope : Scope} {cl : List (Str × Addr)} {Q : Value → Shared → Prop} {ax : Addr} {vs : List Value} {ns : List Int} {n : Nat} {news : List (Addr × Obj)} (R : Int → Value → Prop) (p : Int → Bool)
    (hh : A.handled = none) (F : Fr h₀ L s.heap m) (N : News h₀ L s.heap news) (hm : (ax, listOf vs.toArray n) ∈ news) (hi : IntsAre vs ns) (hsz : ns.length ≤ 1000)
    (turn : ∀ a t I oI C oC D m₂ h tk ys (E' : Value → Shared → Prop), a ∈ ns → NsObj oC m₂ → m₂ x = some (.int a t) → Fr h₀ L h m → News h₀ L h ((I, oI) :: (C, oC) :: (D, lst ys) :: news) →
      wpAny (model prog w) A (isTrue ct (compEnvC scope cl C env) (eval ct (compEnvC scope cl C env))) (fun ok s' => if ok = true then
        wpAny (model prog w) A (eval elt (compEnvC scope cl C env)) (fun y => ElEnd h₀ L m { s with heap := h, toks := tk } ((I, oI) :: (C, oC) :: (D, lst ys) :: news) (p a = true ∧ R a y)) E' s'
        else ElEnd h₀ L m { s with heap := h, toks := tk } ((I, oI) :: (C, oC) :: (D, lst ys) :: news) (p a = false) s') E' { s with heap := h, toks := tk })
    (fin : ∀ D ys k h tk, Fr h₀ L h m → News h₀ L h ((D, listOf ys.toArray k) :: news) → (∀ q ∈ news, q.1 ≠ D) → Els R ys (ns.filter p) → Q (.ref D) { s with heap := h, toks := tk }) :
    CompSrcT prog w A h₀ L m env ct elt x scope cl (fun s₂ => FinE h₀ L m s₂ Q) (.ref ax) s := by
  have hlen := hi.length
  refine CompSrcT.ledger hh F N hm (by rw [List.size_toArray, sizeLine_eq]; omega) fun g => ?_
  have hz : vs.toArray.size = ns.length := by rw [List.size_toArray]; exact hlen
  refine restT (ks := ns) R p (fun i v _ => intsAre_at hi i v) (.inr ⟨_, hm, rfl, _, rfl⟩) ?_ ?_ _ 0 [] (by omega) .nil
  · exact turn
  · intro ys he D h tk F' N' o1
    exact fin D ys _ h tk F' N' (off1_ne o1) he
theorem srcT_range {ct elt : Expr} {x : Str} {scope : Scope} {cl : List (Str × Addr)} {Q : Value → Shared → Prop} {r : Addr} {b : Int} {t u v : Tok} {n : Nat} {news : List (Addr × Obj)} (R : Int → Value → Prop) (p : Int → Bool)
    (hh : A.handled = none) (F : Fr h₀ L s.heap m) (N : News h₀ L s.heap news) (hr : IsRange s.heap r 0 b 1 t u v) (hb : b = (n : Int)) (hsz : n ≤ 1000)
    (turn : ∀ a t I oI C oC D m₂ h tk ys (E' : Value → Shared → Prop), a ∈ (List.range n).map Int.ofNat → NsObj oC m₂ → m₂ x = some (.int a t) → Fr h₀ L h m → News h₀ L h ((I, oI) :: (C, oC) :: (D, lst ys) :: news) →
      wpAny (model prog w) A (isTrue ct (compEnvC scope cl C env) (eval ct (compEnvC scope cl C env))) (fun ok s' => if ok = true then
        wpAny (model prog w) A (eval elt (compEnvC scope cl C env)) (fun y => ElEnd h₀ L m { s with heap := h, toks := tk } ((I, oI) :: (C, oC) :: (D, lst ys) :: news) (p a = true ∧ R a y)) E' s'
        else ElEnd h₀ L m { s with heap := h, toks := tk } ((I, oI) :: (C, oC) :: (D, lst ys) :: news) (p a = false) s') E' { s with heap := h, toks := tk })
    (fin : ∀ D ys k h tk, Fr h₀ L h m → News h₀ L h ((D, listOf ys.toArray k) :: news) → (∀ q ∈ news, q.1 ≠ D) → Els R ys (((List.range n).map Int.ofNat).filter p) → Q (.ref D) { s with heap := h, toks := tk }) :
    CompSrcT prog w A h₀ L m env ct elt x scope cl (fun s₂ => FinE h₀ L m s₂ Q) (.ref r) s := by
  subst hb
  refine CompSrcT.range (n := n) hh F N hr (small_one (by omega) (by omega) (by omega) (by omega)) (by rw [rangeSize_nat]; omega) (by rw [sizeLine_eq]; omega) fun g => ?_
  refine restT (S := fun _ => True) (ks := (List.range n).map Int.ofNat) R p ?_ trivial ?_ ?_ n 0 [] (by simp) .nil
  · rintro i v hi ⟨t, rfl⟩
    rw [List.length_map, List.length_range] at hi
    exact ⟨(i : Int), t, by simp [hi], by rw [Int.zero_add]⟩
  · exact turn
  · intro ys he D h tk F' N' o1
    exact fin D ys _ h tk F' N' (off1_ne o1) he
theorem srcU_list {elt : Expr} {x : Str} {scope : Scope} {cl : List (Str × Addr)} {Q : Value → Shared → Prop} {ax : Addr} {vs : List Value} {ns : List Int} {n : Nat} {news : List (Addr × Obj)} (R : Int → Value → Prop)
    (hh : A.handled = none) (F : Fr h₀ L s.heap m) (N : News h₀ L s.heap news) (hm : (ax, listOf vs.toArray n) ∈ news) (hi : IntsAre vs ns) (hsz : ns.length ≤ 1000)
    (turn : ∀ a t I oI C oC D m₂ h tk ys (E' : Value → Shared → Prop), a ∈ ns → NsObj oC m₂ → m₂ x = some (.int a t) → Fr h₀ L h m → News h₀ L h ((I, oI) :: (C, oC) :: (D, lst ys) :: news) →
      wpAny (model prog w) A (eval elt (compEnvC scope cl C env)) (fun y => ElEnd h₀ L m { s with heap := h, toks := tk } ((I, oI) :: (C, oC) :: (D, lst ys) :: news) (R a y)) E' { s with heap := h, toks := tk })
    (fin : ∀ D ys k h tk, Fr h₀ L h m → News h₀ L h ((D, listOf ys.toArray k) :: news) → (∀ q ∈ news, q.1 ≠ D) → Els R ys ns → Q (.ref D) { s with heap := h, toks := tk }) :
    CompSrc prog w A h₀ L m env elt x scope cl (fun s₂ => FinE h₀ L m s₂ Q) (.ref ax) s := by
  have hlen := hi.length
  refine CompSrc.ledger hh F N hm (by rw [List.size_toArray, sizeLine_eq]; omega) fun g => ?_
  have hz : vs.toArray.size = ns.length := by rw [List.size_toArray]; exact hlen
  refine restU (ks := ns) R (fun i v _ => intsAre_at hi i v) (.inr ⟨_, hm, rfl, _, rfl⟩) ?_ ?_ _ 0 [] (by omega) .nil
  · exact turn
  · intro ys he D h tk F' N' o1
    exact fin D ys _ h tk F' N' (off1_ne o1) he
end
end
section
open PyProof.Rows.LCg PyProof.Rows.LCt
def FrEnd {σ : Type} (h₀ : Heap) (L : Addr) (s : Shared) (Led : σ → List (Addr × Obj)) (stored : List Str) (m₀ : Str → Option Value) (J : σ → Prop) (it : Addr × Obj) (s₂ : Shared) : Prop :=
  ∃ (c' : σ) (h' : Heap) (tk : Nat) (m' : Str → Option Value) (all : List (Addr × Obj)), s₂ = { s with heap := h', toks := tk } ∧ Fr h₀ L h' m' ∧ News h₀ L h' all ∧ (∀ p ∈ it :: Led c', p ∈ all) ∧ (∀ z, stored.contains z = false → m' z = m₀ z) ∧ J c'
def FrPost {σ : Type} (h₀ : Heap) (L : Addr) (s : Shared) (Led : σ → List (Addr × Obj)) (stored : List Str) (m₀ : Str → Option Value) (J : σ → Prop) (it : Addr × Obj) (Q : Flow → Shared → Prop) (f : Flow) (s₂ : Shared) : Prop :=
  match f with
  | .ret v => Q (.ret v) s₂
  | .brk => Q .next s₂
  | _ => FrEnd h₀ L s Led stored m₀ J it s₂
theorem frEnd {σ : Type} {h₀ : Heap} {L : Addr} {s : Shared} {Led : σ → List (Addr × Obj)} {stored : List Str} {m₀ m' : Str → Option Value} {J : σ → Prop} {it : Addr × Obj} {h' : Heap} {tk : Nat} {all : List (Addr × Obj)} (c' : σ) (F : Fr h₀ L h' m') (N : News h₀ L h' all) (hs : ∀ p ∈ it :: Led c', p ∈ all)
    (hm : ∀ z, stored.contains z = false → m' z = m₀ z) (hj : J c') : FrEnd h₀ L s Led stored m₀ J it { s with heap := h', toks := tk } := ⟨c', h', tk, m', all, rfl, F, N, hs, hm, hj⟩
section
variable {prog : Program} {w : World} {A : Around} {E : Value → Shared → Prop} {s : Shared} {h₀ : Heap} {L : Addr} {env : Env} {Q : Flow → Shared → Prop}
theorem for_range {σ : Type} {x : Str} {px : Pos} {body : List Stmt} {r : Addr} {a b : Int} {t₀ u₀ v₀ : Tok} {n : Nat} {m₀ : Str → Option Value} (Led : σ → List (Addr × Obj)) (stored : List Str) (J : Nat → σ → Prop) (c₀ : σ)
    (hh : A.handled = none) (hr : IsRange s.heap r a b 1 t₀ u₀ v₀) (hsmall : Builtin.Range.small a b 1 = true) (hn : Builtin.Range.rangeSize a b 1 = (n : Int)) (F : Fr h₀ L s.heap m₀) (N : News h₀ L s.heap (Led c₀)) (hj : J 0 c₀)
    (hadr : ∀ c, (Led c).map (·.1) = (Led c₀).map (·.1))
    (turn : ∀ i c (u : Str → Option Value) h tk I oI t, i < n → J i c → Fr h₀ L h (fun z => if stored.contains z then u z else m₀ z) → News h₀ L h ((I, oI) :: Led c) → (∀ q ∈ Led c, q.1 ≠ I) →
      wpAny (model prog w) A (assign (.Name x px) env (.int (a + (i : Int)) t)) (fun _ s₂ => wpAny (model prog w) A (execs body env) (FrPost h₀ L { s with heap := h, toks := tk } Led stored m₀ (J (i + 1)) (I, oI) Q) E s₂) E { s with heap := h, toks := tk })
    (done : ∀ c (u : Str → Option Value) h tk, J n c → Fr h₀ L h (fun z => if stored.contains z then u z else m₀ z) → News h₀ L h (Led c) → Q .next { s with heap := h, toks := tk })
    (hE : PassesOwn (model prog w) A env E) :
    wpAny (model prog w) A (pyIter (.ref r)) (fun it s₂ => codeAny (model prog w) A (.forLoop (.Name x px) it body [] env) (fun r s' => match r with | .ok f => Q f s' | .error e => cameBackBy (model prog w) A env E e s') s₂) E s := by
  refine wpAny_pyIter_range hr hsmall ?_
  have hI₀ : h₀.get? s.heap.objs.size = none := next_is_new F
  have hIL : L ≠ s.heap.objs.size := Nat.ne_of_lt F.ns.lt
  have W := Walks.range (prog := prog) (w := w) hh s.heap.objs.size a 1 n
  generalize hI : s.heap.objs.size = I at *
  have fix : ∀ {m₁ : Str → Option Value}, (∀ z, stored.contains z = false → m₁ z = m₀ z) → (fun z => if stored.contains z then m₁ z else m₀ z) = m₁ := by
    intro m₁ hm
    funext z
    cases h3 : stored.contains z with
    | true => simp
    | false => simp only [Bool.false_eq_true, if_false]; exact (hm z h3).symm
  have offOf : ∀ c, ∀ q ∈ Led c, q.1 ≠ I := by
    intro c q hq e
    have h1 : q.1 ∈ (Led c₀).map (·.1) := hadr c ▸ List.mem_map.mpr ⟨q, hq, rfl⟩
    obtain ⟨p, hp, e'⟩ := List.mem_map.mp h1
    have := Heap.lt_size (N p hp).1
    rw [e', e, hI] at this
    exact Nat.lt_irrefl _ this
  refine codeAny_forLoop_any (fun k s' => ∃ i c h' tk m', s' = { s with heap := h', toks := tk } ∧ IsRangeIter h' I (a + (i : Nat) * 1) ((n : Int) - (i : Nat)) 1 ∧ Fr h₀ L h' m' ∧ News h₀ L h' (Led c) ∧ (∀ z, stored.contains z = false → m' z = m₀ z) ∧ J i c ∧ i ≤ n ∧ k = n + 1 - i) ?_ (n + 1)
    ⟨0, c₀, _, s.toks, m₀, rfl, ?_, F.push _, fun p hp => ⟨Heap.get?_push_of_some _ (N p hp).1, (N p hp).2⟩, fun _ _ => rfl, hj, Nat.zero_le _, rfl⟩
  · rintro k s' ⟨i, c, h', tk, m', rfl, hst, F', N', hm', hJ, hi, rfl⟩
    have keepF : ∀ h₁ : Heap, (∀ b o, b ∉ [I] → h'.get? b = some o → h₁.get? b = some o) → Fr h₀ L h₁ m' := fun h₁ hk₁ => fr_but F' hk₁ hIL hI₀
    have keepN : ∀ h₁ : Heap, (∀ b o, b ∉ [I] → h'.get? b = some o → h₁.get? b = some o) → News h₀ L h₁ (Led c) := fun h₁ hk₁ => news_but N' hk₁ (offOf c)
    by_cases hlt : i < n
    · refine wpAny_passesOwn hE ?_
      refine W.item i _ _ _ hlt hst fun v h₁ tk₁ hP hst₁ hk₁ => ?_
      obtain ⟨t, rfl⟩ := hP
      refine (wpAny_pure ?_ : wpAny (model prog w) A (letOwnedTupleGo (.Name x px) _ _) _ _ _)
      refine wpAny_passesOwn hE ?_
      have e1 : a + (i : Int) * 1 = a + (i : Int) := by omega
      rw [e1]
      have F₁ := keepF h₁ hk₁
      have N₁ := keepN h₁ hk₁
      have N₂ : News h₀ L h₁ ((I, _) :: Led c) := fun p hp => by
        rcases List.mem_cons.mp hp with rfl | hp
        · exact ⟨hst₁, Ne.symm hIL, hI₀⟩
        · exact N₁ p hp
      refine wpAny_mono (turn i c m' h₁ tk₁ I _ t hlt hJ (by rw [fix hm']; exact F₁) N₂ (offOf c)) (fun _ s₂ q => ?_) fun _ _ x => x
      refine wpAny_passesOwn hE ?_
      refine wpAny_mono q (fun f s₃ q => ?_) fun _ _ x => x
      cases f with
      | ret v => exact q
      | brk => exact q
      | next =>
        obtain ⟨c', h'', tk'', m'', all, rfl, F'', N'', hs'', hm'', hj''⟩ := q
        exact ⟨n + 1 - (i + 1), by omega, i + 1, c', h'', tk'', m'', rfl, (N'' _ (hs'' _ (.head _))).1, F'', fun p hp => N'' p (hs'' p (.tail _ hp)), hm'', hj'', hlt, rfl⟩
      | cont =>
        obtain ⟨c', h'', tk'', m'', all, rfl, F'', N'', hs'', hm'', hj''⟩ := q
        exact ⟨n + 1 - (i + 1), by omega, i + 1, c', h'', tk'', m'', rfl, (N'' _ (hs'' _ (.head _))).1, F'', fun p hp => N'' p (hs'' p (.tail _ hp)), hm'', hj'', hlt, rfl⟩
    · have hin : i = n := by omega
      subst hin
      refine W.done _ _ _ hst fun h₁ tk₁ hk₁ => wpAny_execs_nil ?_
      exact done c m' h₁ tk₁ hJ (by rw [fix hm']; exact keepF h₁ hk₁) (keepN h₁ hk₁)
  · show IsRangeIter _ _ _ _ _
    rw [hn]
    subst hI
    simpa using Heap.get?_push_size _ rfl
theorem For_any {target iter : Expr} {body : List Stmt} {pos : Pos} {m : Str → Option Value} (_F : Fr h₀ L s.heap m)
    (h : wpAny (model prog w) A (eval iter env) (fun x s₁ => wpAny (model prog w) A (pyIter x) (fun it s₂ =>
      codeAny (model prog w) A (.forLoop target it body [] env) (fun r s' => match r with | .ok f => Q f s' | .error e => cameBackBy (model prog w) A env E e s') s₂) E s₁) E s)
    (hs : ∀ x, foldedSetIterable iter env x = pure x) :
    wpAny (model prog w) A (exec (.For target iter body [] pos) env) Q E s := wpAny_For h hs
end
end
set_option maxRecDepth 100000 in
set_option maxHeartbeats 8000000 in
open_top hd02 for PySem.Challenge.rw_dz0097_02
abbrev P1 := PySem.Challenge.rw_dz0097_02.row.prog
abbrev myA (dp un : Nat) (gd : Option (List Code)) (fr : List Env) : Around := { handled := none, depth := dp, frames := some fr, guards := gd, units := un }
def Con (w : World) (mean : ExcName → Option Value) (mg mb : Str → Option Value) (d : Nat) (f : Addr) (args : List Value) (news : List (Addr × Obj)) (Post : Value → List (Addr × Obj) → Prop) : Prop :=
  ∀ (dp un : Nat) (gd : Option (List Code)) (env : Env) (outer : List Env) (A₀ : Around) (base h₀ : Heap) (L : Addr) (m : Str → Option Value) (s : Shared)
    (Q E : Value → Shared → Prop),
    Below A₀ base outer h₀ → Fr h₀ L s.heap m → (Mine.hd02.heap_39 w.params).In h₀ → News h₀ L s.heap news → Top Mine.hd02.view_39 (looseW Mine.hd02.view_39 []) mean mg mb h₀ → env.frame = some L → env.scope.kind = .function → dp + d < recursionLimit → un + 8 * d < cLine →
    (∀ r tl h' tk', Fr h₀ L h' m → News h₀ L h' (tl ++ news) → (∀ q ∈ news, ∀ p ∈ tl, q.1 < p.1) → Post r tl → Q r { s with heap := h', toks := tk' }) →
    wpAny (model PySem.Challenge.rw_dz0097_02.row.prog w) (myA dp un gd (env :: outer)) (call (.ref f) args) Q E s
section
variable {prog : Program} {w : World} {A : Around} {E : Value → Shared → Prop} {Q : Flow → Shared → Prop} {s : Shared} {env : Env} {h₀ : Heap} {L : Addr}
theorem while_else {σ : Type} {test : Expr} {body orelse : List Stmt} {pos : Pos} {m₀ : Str → Option Value} (Led : σ → List (Addr × Obj)) (ps : σ → List (Str × Value)) (Facts : σ → Prop) (stored : List Str) (P : σ → Prop) (μ : σ → Nat) (c₀ : σ)
    (F : Fr h₀ L s.heap m₀) (N : News h₀ L s.heap (Led c₀)) (hf : Facts c₀) (hk : ∀ p ∈ ps c₀, m₀ p.1 = some p.2) (hp : P c₀)
    (turn : ∀ (c : σ) (u : Str → Option Value) h tk, Facts c → P c → Fr h₀ L h (kstB (fun z => if stored.contains z then u z else m₀ z) (ps c)) → News h₀ L h (Led c) →
      wpAny (model prog w) A (isTrue test env (eval test env)) (fun b s₂ =>
        if b = true then wpAny (model prog w) A (execs body env) (KswPost h₀ L s Led ps Facts stored m₀ P μ Q c) E s₂ else wpAny (model prog w) A (execs orelse env) Q E s₂) E { s with heap := h, toks := tk })
    (hE : PassesOwn (model prog w) A env E) :
    wpAny (model prog w) A (exec (.While test body orelse pos) env) Q E s := by
  refine wpAny_While (codeAny_whileLoop (fun n s' => ∃ c h₁ tk₁ m₁, s' = { s with heap := h₁, toks := tk₁ } ∧ Fr h₀ L h₁ m₁ ∧ News h₀ L h₁ (Led c) ∧ μ c = n ∧ Facts c ∧ (∀ p ∈ ps c, m₁ p.1 = some p.2) ∧ (∀ z, (∀ p ∈ ps c, z ≠ p.1) → stored.contains z = false → m₁ z = m₀ z) ∧ P c) ?_ (μ c₀) ⟨c₀, s.heap, s.toks, m₀, rfl, F, N, rfl, hf, hk, fun _ _ _ => rfl, hp⟩)
  rintro n s' ⟨c, h₁, tk₁, m₁, rfl, F₁, N₁, hsz, hf', h1, h2, hp'⟩
  refine wpAny_mono (turn c m₁ h₁ tk₁ hf' hp' (ksw_fr h1 h2 F₁) N₁) (fun b s₂ q => ?_) hE
  cases b with
  | false =>
    simp only [Bool.false_eq_true, if_false] at q ⊢
    exact wpAny_mono q (fun _ _ x => x) hE
  | true =>
    simp only [if_true] at q ⊢
    refine wpAny_mono q (fun f s₃ q => ?_) hE
    cases f with
    | ret v => exact q
    | brk => exact q
    | next =>
      obtain ⟨c', h', tk', m', news', rfl, F', N', hn, hf9, hk9, hr9, hp9, hm9⟩ := q
      exact ⟨μ c', by omega, c', h', tk', m', rfl, F', fun p hp => N' p (hn p hp), rfl, hf9, hk9, hr9, hp9⟩
    | cont =>
      obtain ⟨c', h', tk', m', news', rfl, F', N', hn, hf9, hk9, hr9, hp9, hm9⟩ := q
      exact ⟨μ c', by omega, c', h', tk', m', rfl, F', fun p hp => N' p (hn p hp), rfl, hf9, hk9, hr9, hp9⟩
end
theorem sub_own {α : Type} {x : α} {a b : List α} : ∀ p ∈ x :: a, p ∈ x :: (a ++ b) := by
  intro p hp; rcases List.mem_cons.mp hp with rfl | hp
  · exact .head _
  · exact .tail _ (List.mem_append.mpr (.inl hp))
theorem own_sub {α : Type} {x : α} {a b : List α} : ∀ p ∈ b, p ∈ x :: (a ++ b) := fun _ hp => .tail _ (List.mem_append.mpr (.inr hp))
theorem my_set {prog : Program} {w : World} {A : Around} {E : Value → Shared → Prop} {s : Shared} {h₀ : Heap} {L D : Addr} {m : Str → Option Value} {rest : List (Addr × Obj)} {vs : List Value} {ns : List Int} {n : Nat} {k x : Int} {t u : Tok} {Q : Unit → Shared → Prop}
    (F : Fr h₀ L s.heap m) (N : News h₀ L s.heap ((D, listOf vs.toArray n) :: rest)) (hne : ∀ p ∈ rest, p.1 ≠ D) (hi : IntsAre vs ns) (h0 : 0 ≤ k) (h1 : k < ns.length) (hfit : k < 2 ^ 63)
    (h : ∀ h' vs', Fr h₀ L h' m → News h₀ L h' ((D, listOf vs'.toArray n) :: rest) → IntsAre vs' (ns.set k.toNat x) → Q () { s with heap := h' }) :
    wpAny (model prog w) A (setItem (.ref D) (.int k t) (.int x u)) Q E s :=
  ksa_set F N (Upd.head hne) hi h0 h1 hfit fun h' F' N' i' _ _ => h h' _ F' N' i'
theorem con_use {w : World} {mean : ExcName → Option Value} {mg mb : Str → Option Value} {d : Nat} {f : Addr} {args : List Value} {news : List (Addr × Obj)} {Post : Value → List (Addr × Obj) → Prop} {dp un : Nat} {gd : Option (List Code)} {env : Env} {outer : List Env} {A A₀ : Around} {base h₀ : Heap} {L : Addr} {m : Str → Option Value} {s : Shared}
    {Q E : Value → Shared → Prop} (C : Con w mean mg mb d f args news Post) (B : Below A₀ base outer h₀) (F : Fr h₀ L s.heap m) (X : (Mine.hd02.heap_39 w.params).In h₀) (N : News h₀ L s.heap news) (T : Top Mine.hd02.view_39 (looseW Mine.hd02.view_39 []) mean mg mb h₀)
    (hA : A = myA dp un gd (env :: outer)) (hf : env.frame = some L) (hk : env.scope.kind = .function) (hd : dp + d < recursionLimit) (hu : un + 8 * d < cLine)
    (h : ∀ r tl h' tk', Fr h₀ L h' m → News h₀ L h' (tl ++ news) → (∀ q ∈ news, ∀ p ∈ tl, q.1 < p.1) → Post r tl → Q r { s with heap := h', toks := tk' }) :
    wpAny (model PySem.Challenge.rw_dz0097_02.row.prog w) A (call (.ref f) args) Q E s := by
  subst hA
  exact C _ _ _ _ _ _ _ _ _ _ _ _ _ B F X N T hf hk hd hu h
theorem news_list {h₀ : Heap} {L : Addr} {h : Heap} {news : List (Addr × Obj)} {l : Addr} {vs : List Value} {n : Nat} (N : News h₀ L h news) (hm : (l, listOf vs.toArray n) ∈ news) : h.IsList l vs.toArray := PySem.IsL.isList (n := n) (N _ hm).1
theorem my_notin {prog : Program} {w : World} {A : Around} {E : Value → Shared → Prop} {s : Shared} {l : Addr} {vs : List Value} {ns : List Int} {k : Int} {t : Tok} {Q : Value → Shared → Prop} (hl : s.heap.IsList l vs.toArray) (hi : IntsAre vs ns)
    (h1 : k ∉ ns → Q (.bool true) s) (h2 : k ∈ ns → Q (.bool false) s) : wpAny (model prog w) A (compareOp .NotIn (.int k t) (.ref l)) Q E s := by
  refine notin_list_ints hl hi ?_
  by_cases h : k ∈ ns
  · have : (!ns.any (· == k)) = false := by simp [h]
    rw [this]; exact h2 h
  · have : (!ns.any (· == k)) = true := by
      simp only [Bool.not_eq_true', List.any_eq_false, beq_iff_eq]
      intro x hx e; exact h (e ▸ hx)
    rw [this]; exact h1 h
theorem my_append {prog : Program} {w : World} {A : Around} {E : Value → Shared → Prop} {s : Shared} {h₀ : Heap} {L D : Addr} {m : Str → Option Value} {news : List (Addr × Obj)} {g : Obj → List (Addr × Obj)} {vs : List Value} {ns : List Int} {n : Nat} {x : Int} {u : Tok} {Q : Value → Shared → Prop}
    (F : Fr h₀ L s.heap m) (N : News h₀ L s.heap news) (U : UpdF D (listOf vs.toArray n) news g) (hi : IntsAre vs ns) (hl : ns.length ≤ 1000)
    (h : ∀ h' vs', Fr h₀ L h' m → News h₀ L h' (g (listOf vs'.toArray (n + 1))) → IntsAre vs' (ns ++ [x]) → Q .none { s with heap := h' }) :
    wpAny (model prog w) A (call (.builtin "list.append") [.ref D, .int x u]) Q E s := by
  obtain ⟨pre, post, rfl, hg, a, b⟩ := U.split
  have hlen := hi.length
  refine append_K (n := n) (its := vs.toArray) (news' := g (listOf (vs ++ [Value.int x u]).toArray (n + 1))) F N ?_ (fun h' F' N' => h h' _ F' N' (IntsAre.append hi (.cons _ _ .nil))) (by rw [List.size_toArray, sizeLine_eq]; omega)
  rw [hg, ← List.push_toArray]
  clear N hg F h U
  induction pre with
  | nil => exact Upd.head b
  | cons p pre ih => exact Upd.tail (a p (.head _)) (ih fun q hq => a q (.tail _ hq))
theorem cut_same {α : Type} {M : Model} {A : Around} {E : Value → Shared → Prop} {s : Shared} {h₀ : Heap} {L : Addr} {m : Str → Option Value} {news : List (Addr × Obj)} {t : Sem α} {Q : α → Shared → Prop} (F : Fr h₀ L s.heap m) (N : News h₀ L s.heap news) (G : α → Prop)
    (h1 : wpAny M A t (fun v s' => ElEnd h₀ L m s news (G v) s') E s)
    (h2 : ∀ v h' tk, Fr h₀ L h' m → News h₀ L h' news → G v → Q v { s with heap := h', toks := tk }) : wpAny M A t Q E s :=
  wpAny_mono h1 (fun v s' ⟨h', tk, all, e, F', N', hs, g⟩ => e ▸ h2 v h' tk F' (fun p hp => N' p (hs p hp)) g) fun _ _ x => x
def AllNe (d : Nat) : List (Addr × Obj) → Prop
  | [] => True
  | p :: r => @Ne Nat p.1 d ∧ AllNe d r
theorem allNe_of {d : Addr} : ∀ {l : List (Addr × Obj)}, (∀ p ∈ l, p.1 ≠ d) → AllNe d l
  | [], _ => trivial
  | p :: _, h => ⟨h p (.head _), allNe_of fun q hq => h q (.tail _ hq)⟩
theorem cells2 {news : List (Addr × Obj)} {L : Addr} (h : ∀ p : Addr × Obj, p ∈ news → p.1 < L) : (∀ p : Addr × Obj, p ∈ news → p.1 < L + 1) ∧ (∀ p : Addr × Obj, p ∈ news → p.1 < L + 1 + 1) ∧ @LT.lt Nat _ (L + 1) (L + 1 + 1) :=
  ⟨fun p hp => Nat.lt_succ_of_lt (h p hp), fun p hp => Nat.lt_succ_of_lt (Nat.lt_succ_of_lt (h p hp)), Nat.lt_succ_self (L + 1)⟩
theorem my_len {prog : Program} {w : World} {A : Around} {E : Value → Shared → Prop} {s : Shared} {l : Addr} {vs : List Value} {ns : List Int} {k : Nat} {Q : Value → Shared → Prop} (hl : s.heap.IsList l vs.toArray) (hi : IntsAre vs ns) (e : ns.length = k) (hk : k ≤ 1000)
    (h : ∀ t tk, Q (.int (k : Int) t) { s with toks := tk }) : wpAny (model prog w) A (call (.builtin "len") [.ref l]) Q E s := by
  have e2 : vs.toArray.size = k := by rw [List.size_toArray, hi.length, e]
  exact len_list hl (by rw [e2]; omega) (by rw [e2]; exact h _ _)
structure Pfx (w : World) (news : List (Addr × Obj)) (pv : Value) (n : Nat) (it : Nat → Value → Prop) (e : Nat → Nat → Bool) : Prop where
  len : ∀ {A E s h₀ L} {Q : Value → Shared → Prop}, News h₀ L s.heap news → (∀ t tk, Q (.int (n : Int) t) { s with toks := tk }) → wpAny (model P1 w) A (call (.builtin "len") [pv]) Q E s
  item : ∀ {A E s h₀ L} {Q : Value → Shared → Prop} {y : Str} {py : Pos} {slice : PySem.Expr} {k : Int} {u : Tok}, News h₀ L s.heap news → 0 ≤ k → k < n → (∀ v tk, it k.toNat v → Q v { s with toks := tk }) →
    (subscripted slice false pv (.int k u) = operate [pv, .int k u] (getItem pv (.int k u))) → wpAny (model P1 w) A (subscriptTail (.Name y py) slice pv (.int k u)) Q E s
  ne : ∀ {A E s} {Q : Value → Shared → Prop} {i j a b}, it i a → it j b → Q (.bool (!e i j)) s → wpAny (model P1 w) A (compareOp .NotEq a b) Q E s
def intIt (ns : List Int) (i : Nat) (v : Value) : Prop := ∃ t, v = .int (ns.getD i 0) t
theorem pfx_list {w : World} {news : List (Addr × Obj)} {l : Addr} {vs : List Value} {k : Nat} {ns : List Int} (hm : (l, listOf vs.toArray k) ∈ news) (hi : IntsAre vs ns) (hn : ns.length ≤ 1000) : Pfx w news (.ref l) ns.length (intIt ns) (eqs ns) where
  len := fun N h => my_len (news_list N hm) hi rfl hn h
  item := fun N h0 h1 h hs => item_anyK (news_list N hm) hi h0 h1 (by omega) (fun t => h _ _ ⟨t, rfl⟩) hs
  ne := fun {_ _ _ _ i j a b} ha hb h => by
    obtain ⟨t, rfl⟩ := ha
    obtain ⟨u, rfl⟩ := hb
    exact ne_int h
theorem pfx_tuple {w : World} {news : List (Addr × Obj)} {l : Addr} {vs : List Value} {k : Nat} {ns : List Int} (hm : (l, ({ cls := .type "tuple", data := .seq vs.toArray k } : Obj)) ∈ news) (hi : IntsAre vs ns) (hn : ns.length ≤ 1000) : Pfx w news (.ref l) ns.length (intIt ns) (eqs ns) where
  len := fun N h => by
    have e2 : vs.toArray.size = ns.length := by rw [List.size_toArray, hi.length]
    exact PyProof.Rows.len_tuple (News.isTup N hm) (by rw [e2]; omega) (by rw [e2]; exact h _ _)
  item := fun N h0 h1 h hs => item_tuple_ints (News.isTup N hm) hi h0 h1 (by omega) (fun t => h _ _ ⟨t, rfl⟩) hs (by intro _; with_unfolding_all rfl)
  ne := fun {_ _ _ _ i j a b} ha hb h => by
    obtain ⟨t, rfl⟩ := ha
    obtain ⟨u, rfl⟩ := hb
    exact ne_int h
def strIt (cs : List Nat) (i : Nat) (v : Value) : Prop := ∃ t, v = .str ⟨#[cs.getD i 0]⟩ t
def eqn (cs : List Nat) (i j : Nat) : Bool := cs.getD i 0 == cs.getD j 0
theorem pfx_str {w : World} {news : List (Addr × Obj)} {x : Str} {t : Tok} {cs : List Nat} (hx : x.cps = cs.toArray) (hn : cs.length ≤ 1000) : Pfx w news (.str x t) cs.length (strIt cs) (eqn cs) where
  len := fun N h => by
    have e2 : x.length = cs.length := by unfold PySem.Str.length; rw [hx, List.size_toArray]
    exact PyProof.Rows.len_str (by rw [e2]; omega) (by rw [e2]; exact h _ _)
  item := fun {_ _ _ _ _ _ _ _ _ k _} N h0 h1 h hs => by
    have e2 : x.length = cs.length := by unfold PySem.Str.length; rw [hx, List.size_toArray]
    have e4 : Txt.item x k = ⟨#[cs.getD k.toNat 0]⟩ := by
      unfold Txt.item Txt.charAt
      have e3 : seqIndex? k x.length = some k.toNat := by
        unfold seqIndex?
        have h2 : ¬ k < 0 := by omega
        simp only [h2, if_false, e2]
        rw [if_pos (by simp only [Bool.and_eq_true, decide_eq_true_eq]; omega)]
      rw [e3, Option.bind_some, hx, List.getElem?_toArray, List.getD_eq_getElem?_getD]
    exact KXi.item e2 (by omega) h1 (by omega) (fun _ => h _ _ ⟨_, by rw [e4]⟩) hs (by intro _; with_unfolding_all rfl)
  ne := fun {_ _ _ _ i j a b} ha hb h => by
    obtain ⟨t, rfl⟩ := ha
    obtain ⟨u, rfl⟩ := hb
    refine PyProof.Rows.ne_str ?_
    have : ((⟨#[cs.getD i 0]⟩ : Str) != ⟨#[cs.getD j 0]⟩) = !eqn cs i j := by
      unfold eqn
      by_cases e : cs.getD i 0 = cs.getD j 0
      · rw [e]; simp
      · have h1 : (⟨#[cs.getD i 0]⟩ : Str) ≠ ⟨#[cs.getD j 0]⟩ := fun q => e (by simpa using congrArg (fun z : Str => z.cps) q)
        rw [bne_iff_ne.mpr h1, beq_eq_false_iff_ne.mpr e]; rfl
    rw [this]; exact h
theorem idx_get {ns : List Int} {y : Int} (h : y ∈ ns) : ∃ hj : ns.idxOf y < ns.length, ns[ns.idxOf y] = y :=
  have hj := List.idxOf_lt_length_iff.mpr h
  ⟨hj, List.getElem_idxOf hj⟩
theorem idx_inj {ns : List Int} {a b : Int} (ha : a ∈ ns) (hb : b ∈ ns) (e : ns.idxOf a = ns.idxOf b) : a = b := by
  obtain ⟨h1, e1⟩ := idx_get ha
  obtain ⟨h2, e2⟩ := idx_get hb
  rw [← e1, ← e2]
  congr 1
theorem ints_getElem {vs : List Value} {ns : List Int} (hi : IntsAre vs ns) (i : Nat) (h : i < vs.length) : ∃ t, vs[i] = .int (ns.getD i 0) t := by
  have h' : i < ns.length := by rw [← hi.length]; exact h
  obtain ⟨t, ht⟩ := hi.get i ns[i] (by simp [h'])
  refine ⟨t, ?_⟩
  rw [List.getD_eq_getElem?_getD, List.getElem?_eq_getElem h', Option.getD_some]
  rw [List.getElem?_eq_getElem h] at ht
  exact Option.some.inj ht
theorem my_index {prog : Program} {w : World} {A : Around} {E : Value → Shared → Prop} {s : Shared} {h₀ : Heap} {L D : Addr} {news : List (Addr × Obj)} {vs : List Value} {ns : List Int} {n : Nat} {y : Int} {t : Tok} {Q : Value → Shared → Prop}
    (N : News h₀ L s.heap news) (hm : (D, listOf vs.toArray n) ∈ news) (hi : IntsAre vs ns) (hy : y ∈ ns) (hz : ns.length ≤ 1000)
    (h : ∀ t tk, Q (.int (ns.idxOf y : Nat) t) { s with toks := tk }) : wpAny (model prog w) A (call (.builtin "list.index") [.ref D, .int y t]) Q E s := by
  obtain ⟨hj, e⟩ := idx_get hy
  have hlen := hi.length
  have hget : ∀ i (hi' : i < vs.length), isInt y vs[i] = (ns.getD i 0 == y) := fun i hi' => by
    obtain ⟨t, ht⟩ := ints_getElem hi i hi'
    rw [ht]; rfl
  refine call_meets PySem.F.slot_list_index ⟨_, (N _ hm).1, rfl⟩ PySem.F.entry_list_index (PySem.F.args_list_index_2 _ _)
    (MeetsSeq.list_index D vs.toArray n (.int y t) (isInt y) (fun z hz => eq_isInt y t hi z (by simpa using hz)) (ns.idxOf y) (by rw [List.size_toArray]; omega) (by omega) ?_ ?_) ⟨(N _ hm).1, h _ _⟩
  · have := hget (ns.idxOf y) (by omega)
    rw [List.getElem_toArray, this, List.getD_eq_getElem?_getD, List.getElem?_eq_getElem hj, Option.getD_some, e]
    simp
  · intro i hi1 hi2
    rw [List.size_toArray] at hi1
    rw [List.getElem_toArray, hget i hi1, List.getD_eq_getElem?_getD, List.getElem?_eq_getElem (by omega), Option.getD_some]
    have := List.not_of_lt_findIdx (p := (· == y)) (xs := ns) (i := i) (by simpa [List.idxOf] using hi2)
    simpa using this
theorem join_cps (cs : List Nat) : (Txt.join (Str.ofString "") (cs.map fun c => (⟨#[c]⟩ : Str))).cps = cs.toArray := by
  have h0 : (Str.ofString "").cps = #[] := rfl
  have key : ∀ (l : List Nat) (acc : Array Nat), ((l.map fun c => (⟨#[c]⟩ : Str)).foldl (fun acc p => acc ++ (Str.ofString "").cps ++ p.cps) acc) = acc ++ l.toArray := by
    intro l
    induction l with
    | nil => intro acc; simp
    | cons c l ih =>
      intro acc
      rw [List.map_cons, List.foldl_cons, ih, h0]
      apply Array.toList_inj.mp
      simp
  cases cs with
  | nil => rfl
  | cons c l =>
    show ((l.map fun c => (⟨#[c]⟩ : Str)).foldl (fun acc p => acc ++ (Str.ofString "").cps ++ p.cps) #[c]) = _
    rw [key]
    apply Array.toList_inj.mp
    simp
theorem tab_text {r le : List Int} (hs : ∀ y ∈ r, y ∈ le) : tab (eqn (r.map fun a => 97 + le.idxOf a)) r.length = tab (eqs r) r.length := by
  refine tab_congr fun i j hi hj => ?_
  unfold eqn eqs
  have hg : ∀ k, k < r.length → (r.map fun a => 97 + le.idxOf a).getD k 0 = 97 + le.idxOf (r.getD k 0) := fun k hk => by
    rw [List.getD_eq_getElem?_getD, List.getD_eq_getElem?_getD, List.getElem?_map, List.getElem?_eq_getElem hk]
    rfl
  rw [hg i hi, hg j hj, Bool.eq_iff_iff, beq_iff_eq, beq_iff_eq]
  constructor
  · intro h
    exact idx_inj (hs _ (getD_mem hi)) (hs _ (getD_mem hj)) (by omega)
  · intro h; rw [h]
theorem my_pow {prog : Program} {w : World} {A : Around} {E : Value → Shared → Prop} {s : Shared} {a n : Int} {t u : Tok} {Q : Value → Shared → Prop} (hn : 0 ≤ n) (hn2 : n ≤ 1000) (ha : a.natAbs < 2 ^ 210) (h : Q (.int (a ^ n.toNat) s.toks) { s with toks := s.toks + 1 }) :
    wpAny (model prog w) A (binaryOp .Pow (.int a t) (.int n u)) Q E s := by
  refine pow_int hn ?_ h
  have hb : Builtin.Int.intBits a ≤ 210 := intBits_le ha
  have h1 : (Builtin.Int.intBits a : Int) * n ≤ 210 * n := Int.mul_le_mul_of_nonneg_right (by omega) hn
  omega
theorem my_mul {prog : Program} {w : World} {A : Around} {E : Value → Shared → Prop} {s : Shared} {a b : Int} {t u : Tok} {Q : Value → Shared → Prop} (ha : a.natAbs < 2 ^ 210) (hb : b.natAbs < 2 ^ 4000) (h : Q (.int (a * b) s.toks) { s with toks := s.toks + 1 }) :
    wpAny (model prog w) A (binaryOp .Mult (.int a t) (.int b u)) Q E s := by
  refine mul_int h ?_
  have h1 : Builtin.Int.intBits a ≤ 210 := intBits_le ha
  have h2 : Builtin.Int.intBits b ≤ 4000 := intBits_le hb
  unfold IntMulOk
  have h3 : Builtin.Int.intTooBig (Builtin.Int.intBits a + Builtin.Int.intBits b) = false := by
    unfold Builtin.Int.intTooBig
    refine decide_eq_false ?_
    have h4 : (4210 : Int) ≤ bitsLine := by decide
    omega
  rw [h3]; simp
local macro_rules | `(tactic| walk_at "MINE enter") => `(tactic| (refine' code_def ?k1 ?k2 ?k3 ?k4 ?k5 ?kA ?kF ?kK ?k6 ?k7 ?k8 ?k9 ?kB ?_ ?c2 ?c3 ?c4 ?c5; (case kA => exact rfl); (case kF => assumption); (case kK => assumption); (case k1 => k_asm); (case k2 => k_asm); (case k3 => k_asm); (case k4 => k_asm); (case k5 => k_asm); (case k6 => k_is); (case k7 => k_is); (case k8 => (dsimp only; omega)); (case k9 => exact BindsTo.of_eq rfl); (case c5 => decide); (case kB => exact locs rfl); (case c2 => exact rfl); (case c3 => exact rfl); (case c4 => exact rfl); k_whole; intro g' L' h' FG' F' N' B' X' T'; (try dsimp only); (try k_fold)))
local macro_rules | `(tactic| walk_at "MINE steps") => `(tactic| repeat' ((fail_if_success (with_reducible show wpAny _ _ (pyIter _) _ _ _)); (fail_if_success (with_reducible show wpAny _ _ (compareOp CmpOp.NotIn _ _) _ _ _)); (fail_if_success (with_reducible show wpAny _ _ (eval (Expr.ListComp _ _ _ _) _) _ _ _)); (fail_if_success (with_reducible show wpAny _ _ (eval (Expr.IfExp _ _ _ _) _) _ _ _)); (fail_if_success (with_reducible show LCt.CompSrcT _ _ _ _ _ _ _ _ _ _ _ _ _ _ _)); (fail_if_success (with_reducible show LCg.CompSrc _ _ _ _ _ _ _ _ _ _ _ _ _ _)); (fail_if_success (with_reducible show ElEnd _ _ _ _ _ _ _)); (fail_if_success (with_reducible show InvEndN _ _ _ _ _ _ _)); (fail_if_success (with_reducible show KswEnd _ _ _ _ _ _ _ _ _ _ _ _)); (fail_if_success (with_reducible show wpAny _ _ (exec (Stmt.While _ _ _ _) _) _ _ _)); (fail_if_success (with_reducible show wpAny _ _ (exec (Stmt.For _ _ _ _ _) _) _ _ _)); (fail_if_success (with_reducible show wpAny _ _ (call (Value.ref _) _) _ _ _)); (fail_if_success (with_reducible show wpAny _ _ (subscriptTail _ (Expr.UnaryOp _ _ _) _ _) _ _ _)); first | (k_unfold; (try dsimp only)) | (k_end; wrow_close) | walk1 | (dsimp only; walk1) | (leave1; walk_say "STEP leave1"; try dsimp only) | fail "no step"))
local macro_rules | `(tactic| walk_at "MINE enterC") => `(tactic| (refine' code_defC ?k1 ?k2 ?k3 ?k4 ?k5 ?kA ?kF ?kK ?k6 ?k7 ?k8 ?k9 ?kB ?kD ?_ ?c2 ?c3 ?c4; (case kA => exact rfl); (case kF => assumption); (case kK => assumption); (case k1 => k_asm); (case k2 => k_asm); (case k3 => k_asm); (case k4 => k_asm); (case k5 => k_asm); (case k6 => k_is); (case k7 => k_is); (case k8 => (dsimp only; omega)); (case k9 => exact BindsTo.of_eq rfl); (case kB => exact rfl); (case kD => decide +kernel); (case c2 => exact rfl); (case c3 => exact rfl); (case c4 => exact rfl); k_whole; intro g' L' h' tk' cells' FG' F' N' Y' B' X' T' l1; (try k_lt l1); k_cells Y'; (try simp only [List.cons_append, List.nil_append] at N'); (try dsimp only); (try k_fold)))
local macro_rules | `(tactic| k_mem) => `(tactic| ((show (_ : Addr × Obj) ∈ (_ : List (Addr × Obj))); with_reducible assumption))
local macro_rules | `(tactic| walk_at "MINE for") => `(tactic| ((rename Fr _ _ _ _ => lF'); (with_unfolding_all refine' For_invVF lF' ?k1 ?k2 ?_; (case k1 => exact rfl); (case k2 => exact rfl))))
local macro_rules | `(tactic| walk_at "MINE use") => `(tactic| ((case uB => k_asm); (case uF => k_asm); (case uX => k_asm); (case uN => k_asm); (case uT => k_asm); (case ud => (dsimp only; omega)); (case uu => (dsimp only; omega))))
local macro_rules | `(tactic| walk_at "MINE compT") => `(tactic| (k_dflt (refine LCt.ListComp_T (F₀ := by k_asm) (by with_unfolding_all rfl) (by decide) (by rfl) (by decide) (by rfl) ?_)))
local macro_rules | `(tactic| walk_at "MINE compU") => `(tactic| (k_dflt (refine LCg.ListComp_U (F₀ := by k_asm) (by with_unfolding_all rfl) (by decide) (by rfl) (by decide) (by rfl) ?_)))
local macro_rules | `(tactic| walk_at "MINE same") => `(tactic| (intro z9 h91 h92 h93; (try simp only [List.contains_cons, List.contains_nil, Bool.or_false, Bool.or_eq_false_iff, beq_eq_false_iff_ne, ne_eq] at h93); first | (simp [h91, h93]; done) | (simp [h91, h93]; rfl) | (simp [h91]; rfl) | rfl))
local macro_rules | `(tactic| walk_at "MINE useTop") => `(tactic| ((case uB => k_asm); (case uF => k_asm); (case uX => k_asm); (case uN => k_asm); (case uT => k_asm); (case ud => decide); (case uu => (have hcL9 := cLine_is; (try simp only [units_deeper, units_caller]); (try dsimp only); omega))))
set_option maxRecDepth 100000 in
set_option maxHeartbeats 8000000 in
theorem gen_t (w mean mg mb) (news : List (Addr × Obj)) (pv : Value) (n : Nat) (it : Nat → Value → Prop) (e : Nat → Nat → Bool) (hp : Pfx w news pv n it e) (hn : n ≤ 100) :
    Con w mean mg mb 1 21 [pv] news (fun r tl => ∃ D vs k, r = .ref D ∧ tl = [(D, listOf vs.toArray k)] ∧ IntsAre vs ((tab e n).map Int.ofNat)) := by
  unfold Con
  k_fill
  w_top off
  intro dp un gd env outer A₀ base h₀ L m s Q E B F X N T hf hk hd hu hret
  refine wpAny_noRaise (wpAny_call ?_)
  k_dflt (walk_at "MINE enter")
  walk_at "MINE steps"
  rename News _ _ _ _ => N1
  refine hp.len (kst_newsOf N1 (by simp +contextual)) ?_
  intro t tk
  walk_at "MINE steps"
  k_fold
  walk_at "MINE for"
  walk_at "MINE steps"
  rename News _ _ _ _ => N1
  refine hp.len (kst_newsOf N1 (by simp +contextual)) ?_
  intro t tk
  walk_at "MINE steps"
  rename News _ _ _ _ => N2
  rename Fr _ _ _ _ => F2
  rename IsRange _ _ _ _ _ _ _ _ => R2
  rename IntsAre _ _ => i0
  rename _ ∧ AllLt _ _ => l1
  have hDn := kst_ltOf l1.2
  have N2 := kst_newsOf (l' := (_, listOf (_ : List Value).toArray 0) :: news) N2 (by intro p hp; rcases List.mem_cons.mp hp with rfl | hp; exact .head _; exact .tail _ (.tail _ hp))
  refine kst_range (σ := List Value × List Nat) (n := n - 1) (fun c => (_, listOf c.1.toArray 0) :: news) (fun _ => []) (fun c => IntsAre c.1 (c.2.map Int.ofNat)) [Str.ofString "idx"] (fun pre c => c.2 = (tab e n).take (pre.length + 1) ++ List.replicate (n - (pre.length + 1)) 0) (_, List.replicate n 0) (by rfl) R2 ?_ ?_ F2 N2 ?_ ?_ ?_ ?_ ?_
  · exact small_one (by omega) (by omega) (by omega) (by omega)
  · rw [rangeSize_nat]; omega
  · dsimp only; rw [rep_flat]; exact i0
  · intro p hp; cases hp
  · cases n with
    | zero => rfl
    | succ n => rw [List.length_nil, tab_take e (n + 1) 1 (by omega)]; simp [tab, List.replicate_succ]
  · intro c pre k t u h tk own hk hlt hoff hf hP F3 N3
    dsimp only [kstB, envOf] at hf hP F3 N3
    simp only [List.cons_append] at N3
    (try dsimp only)
    k_fold
    have hln : c.2.length = n := by rw [hP]; simp [tab_length]; omega
    have hln' : (c.2.map Int.ofNat).length = n := by simp [hln]
    walk_at "MINE steps"
    k_fold
    rename News _ _ _ _ => N4
    rename Fr _ _ _ _ => F4
    obtain ⟨i, rfl⟩ : ∃ i : Nat, k = (i : Int) + 1 := ⟨pre.length, by omega⟩
    have hi : i = pre.length := by omega
    have hx0 : ((i : Int) + 1 - 1).toNat = i := by omega
    rw [hx0, getD_map] at F4
    have hlow : Low c.2 := by rw [hP]; exact take_low _ _ _ _
    have hne : ∀ p ∈ news ++ own, p.1 ≠ _ := fun p hp => (List.mem_append.mp hp).elim (fun h => Nat.ne_of_lt (hDn p h)) fun h => hoff p h _ (.head _)
    refine' while_else (σ := Nat × Tok) (fun _ => _) (fun c => [(Str.ofString "idx", .int (c.1 : Int) c.2)]) (fun _ => True) [] (fun d => d.1 ≤ i ∧ hit (e (i + 1)) (ends c.2 d.1) = hit (e (i + 1)) (ends c.2 (c.2.getD i 0))) (fun d => d.1) (c.2.getD i 0, _) F4 N4 trivial ?hk ?hp ?ht ?he
    case hk => intro p hp; rw [List.mem_singleton.mp hp]; rfl
    case hp => exact ⟨hlow i, rfl⟩
    case he => exact PassesOwn.leaving
    case ht =>
      intro d u5 h5 tk5 _ hP5 F5 N5
      dsimp only [kstB, envOf] at hP5 F5 N5
      (try dsimp only)
      k_fold
      walk_at "MINE steps"
      refine hp.item (kst_newsOf (l' := news) N5 (by simp +contextual)) (by omega) (by omega) ?_ (by with_unfolding_all rfl)
      intro v1 tk6 hv1
      walk_at "MINE steps"
      refine hp.item (kst_newsOf (l' := news) N5 (by simp +contextual)) (by omega) (by omega) ?_ (by with_unfolding_all rfl)
      intro v2 tk7 hv2
      (try dsimp only)
      refine hp.ne hv1 hv2 ?_
      have hidx : (((i : Int) + 1).toNat) = i + 1 := by omega
      have hd1 : ((d.1 : Int)).toNat = d.1 := by omega
      rw [hidx, hd1]
      cases hE : e (i + 1) d.1 with
      | true =>
        walk_at "MINE steps"
        (try dsimp only)
        refine my_set F5 N5 hne hf (by omega) (by omega) (by omega) ?_
        intro h6 vs6 F6 N6 hi6
        walk_at "MINE steps"
        (try dsimp only)
        have hx : d.1 + 1 = hit (e (i + 1)) (ends c.2 (c.2.getD i 0)) := by
          rw [← hP5.2]
          by_cases h0 : d.1 = 0
          · rw [h0, ends_zero, hit_cons_pos (by rw [← h0]; exact hE)]
          · rw [ends_pos hlow (by omega), hit_cons_pos hE]
        refine kst_end (vs6, c.2.set (i + 1) (d.1 + 1)) F6 N6 sub_own own_sub rfl ?_ (fun p hp => by cases hp) (by kst_same) ?_
        · dsimp only; rw [hidx] at hi6; rw [← map_set]; exact hi6
        · dsimp only; rw [List.length_append, List.length_singleton, ← hi]; rw [← hi] at hP; exact set_step hP (by omega) _ hx
      | false =>
        walk_at "MINE steps"
        all_goals (try dsimp only)
        · refine my_set F5 N5 hne hf (by omega) (by omega) (by omega) ?_
          intro h6 vs6 F6 N6 hi6
          walk_at "MINE steps"
          (try dsimp only)
          have h0 : d.1 = 0 := by omega
          have hx : 0 = hit (e (i + 1)) (ends c.2 (c.2.getD i 0)) := by
            rw [← hP5.2, h0, ends_zero, hit_cons_neg (by rw [← h0]; exact hE), hit_nil]
          refine kst_end (vs6, c.2.set (i + 1) 0) F6 N6 sub_own own_sub rfl ?_ (fun p hp => by cases hp) (by kst_same) ?_
          · dsimp only; rw [hidx] at hi6; rw [← map_set]; exact hi6
          · dsimp only; rw [List.length_append, List.length_singleton, ← hi]; rw [← hi] at hP; exact set_step hP (by omega) _ hx
        · have h0 : 0 < d.1 := by omega
          rename Fr _ _ _ _ => F6
          rename News _ _ _ _ => N6
          have hx1 : ((d.1 : Int) - 1).toNat = d.1 - 1 := by omega
          rw [hx1, getD_map] at F6
          have hx2 := hlow (d.1 - 1)
          refine' ksw_end (c.2.getD (d.1 - 1) 0, _) F6 N6 (fun _ h => h) trivial ?hk1 (by ksw_same) ⟨by dsimp only; omega, ?hk2⟩ (by dsimp only; omega)
          case hk1 => intro p hp; rw [List.mem_singleton.mp hp]; rfl
          dsimp only
          rw [← hP5.2, ends_pos hlow h0, hit_cons_neg hE]
  · intro c u h tk hf hP F3 N3
    dsimp only [kstB, envOf] at hf hP F3 N3
    (try dsimp only)
    walk_at "MINE steps"
    rename Fr h₀ _ _ _ => F6
    rename News h₀ _ _ _ => N6
    refine hret _ [_] _ _ F6 N6 (fun q hq p hp => by rw [List.mem_singleton.mp hp]; exact hDn q hq) ⟨_, _, _, rfl, rfl, ?_⟩
    have hT : c.2 = tab e n := by
      rw [hP, rangeKs_length, tab_take e n n (Nat.le_refl _) |> fun h => (List.take_of_length_le (by rw [tab_length]; omega))]
      have : n - (n - 1 + 1) = 0 := by omega
      rw [this]; simp
    rw [← hT]; exact hf
local macro_rules | `(tactic| walk_at "MINE enter") => `(tactic| (refine' code_def ?k1 ?k2 ?k3 ?k4 ?k5 ?kA ?kF ?kK ?k6 ?k7 ?k8 ?k9 ?kB ?_ ?c2 ?c3 ?c4 ?c5; (case kA => exact rfl); (case kF => assumption); (case kK => assumption); (case k1 => k_asm); (case k2 => k_asm); (case k3 => k_asm); (case k4 => k_asm); (case k5 => k_asm); (case k6 => k_is); (case k7 => k_is); (case k8 => (dsimp only; omega)); (case k9 => exact BindsTo.of_eq rfl); (case c5 => decide); (case kB => exact locs rfl); (case c2 => exact rfl); (case c3 => exact rfl); (case c4 => exact rfl); k_whole; intro g' L' h' FG' F' N' B' X' T'; (try dsimp only); (try k_fold)))
local macro_rules | `(tactic| walk_at "MINE steps") => `(tactic| repeat' ((fail_if_success (with_reducible show wpAny _ _ (pyIter _) _ _ _)); (fail_if_success (with_reducible show wpAny _ _ (subscriptTail _ (Expr.Slice _ _ _ _) _ _) _ _ _)); (fail_if_success (with_reducible show FrEnd _ _ _ _ _ _ _ _ _)); (fail_if_success (with_reducible show LstEnd _ _ _ _ _ _ _ _)); (fail_if_success (with_reducible show wpAny _ _ (compareOp CmpOp.Eq (Value.ref _) (Value.ref _)) _ _ _)); (fail_if_success (with_reducible show wpAny _ _ (compareOp CmpOp.NotIn _ _) _ _ _)); (fail_if_success (with_reducible show wpAny _ _ (eval (Expr.ListComp _ _ _ _) _) _ _ _)); (fail_if_success (with_reducible show wpAny _ _ (eval (Expr.IfExp _ _ _ _) _) _ _ _)); (fail_if_success (with_reducible show LCt.CompSrcT _ _ _ _ _ _ _ _ _ _ _ _ _ _ _)); (fail_if_success (with_reducible show LCg.CompSrc _ _ _ _ _ _ _ _ _ _ _ _ _ _)); (fail_if_success (with_reducible show ElEnd _ _ _ _ _ _ _)); (fail_if_success (with_reducible show InvEndN _ _ _ _ _ _ _)); (fail_if_success (with_reducible show KswEnd _ _ _ _ _ _ _ _ _ _ _ _)); (fail_if_success (with_reducible show wpAny _ _ (exec (Stmt.While _ _ _ _) _) _ _ _)); (fail_if_success (with_reducible show wpAny _ _ (exec (Stmt.For _ _ _ _ _) _) _ _ _)); (fail_if_success (with_reducible show wpAny _ _ (call (Value.ref _) _) _ _ _)); (fail_if_success (with_reducible show wpAny _ _ (subscriptTail _ (Expr.UnaryOp _ _ _) _ _) _ _ _)); first | (k_unfold; (try dsimp only)) | (k_end; wrow_close) | walk1 | (dsimp only; walk1) | (leave1; walk_say "STEP leave1"; try dsimp only) | fail "no step"))
local macro_rules | `(tactic| walk_at "MINE enterC") => `(tactic| (refine' code_defC ?k1 ?k2 ?k3 ?k4 ?k5 ?kA ?kF ?kK ?k6 ?k7 ?k8 ?k9 ?kB ?kD ?_ ?c2 ?c3 ?c4; (case kA => exact rfl); (case kF => assumption); (case kK => assumption); (case k1 => k_asm); (case k2 => k_asm); (case k3 => k_asm); (case k4 => k_asm); (case k5 => k_asm); (case k6 => k_is); (case k7 => k_is); (case k8 => (dsimp only; omega)); (case k9 => exact BindsTo.of_eq rfl); (case kB => exact rfl); (case kD => decide +kernel); (case c2 => exact rfl); (case c3 => exact rfl); (case c4 => exact rfl); k_whole; intro g' L' h' tk' cells' FG' F' N' Y' B' X' T' l1; (try k_lt l1); k_cells Y'; (try simp only [List.cons_append, List.nil_append] at N'); (try dsimp only); (try k_fold)))
local macro_rules | `(tactic| k_mem) => `(tactic| ((show (_ : Addr × Obj) ∈ (_ : List (Addr × Obj))); with_reducible assumption))
local macro_rules | `(tactic| walk_at "MINE for") => `(tactic| ((rename Fr _ _ _ _ => lF'); (with_unfolding_all refine' For_invVF lF' ?k1 ?k2 ?_; (case k1 => exact rfl); (case k2 => exact rfl))))
local macro_rules | `(tactic| walk_at "MINE use") => `(tactic| ((case uB => k_asm); (case uF => k_asm); (case uX => k_asm); (case uN => k_asm); (case uT => k_asm); (case ud => (dsimp only; omega)); (case uu => (dsimp only; omega))))
local macro_rules | `(tactic| walk_at "MINE compT") => `(tactic| (k_dflt (refine LCt.ListComp_T (F₀ := by k_asm) (by with_unfolding_all rfl) (by decide) (by rfl) (by decide) (by rfl) ?_)))
local macro_rules | `(tactic| walk_at "MINE compU") => `(tactic| (k_dflt (refine LCg.ListComp_U (F₀ := by k_asm) (by with_unfolding_all rfl) (by decide) (by rfl) (by decide) (by rfl) ?_)))
local macro_rules | `(tactic| walk_at "MINE same") => `(tactic| (intro z9 h91 h92 h93; (try simp only [List.contains_cons, List.contains_nil, Bool.or_false, Bool.or_eq_false_iff, beq_eq_false_iff_ne, ne_eq] at h93); first | (simp [h91, h93]; done) | (simp [h91, h93]; rfl) | (simp [h91]; rfl) | rfl))
local macro_rules | `(tactic| walk_at "MINE useTop") => `(tactic| ((case uB => k_asm); (case uF => k_asm); (case uX => k_asm); (case uN => k_asm); (case uT => k_asm); (case ud => decide); (case uu => (have hcL9 := cLine_is; (try simp only [units_deeper, units_caller]); (try dsimp only); omega))))
local macro_rules | `(tactic| walk_at "MINE slice") => `(tactic| (k_dflt (refine' kmk_slice_ints ?zF ?zN ?zl ?zp ?zq ?zi ?zm ?zc ?_ ?zs ?zt ?zz; (case zF => k_asm); (case zN => k_asm); (case zl => kmk_list); (case zp => kmk_part); (case zq => kmk_part); (case zi => l_ints); (case zm => kmk_nums); (case zc => kmk_len); (case zs => with_unfolding_all rfl); (case zt => kmk_pure); (case zz => kmk_size))))
local macro_rules | `(tactic| walk_at "binaryOp Pow int int") => `(tactic| (refine my_pow (by omega) (by omega) (by assumption) ?_))
set_option maxRecDepth 100000 in
set_option maxHeartbeats 8000000 in
theorem come_t (w mean mg mb) (news : List (Addr × Obj)) (l : Addr) (vs : List Value) (n : Nat) (r : List Int) (kk : Nat) (f : Int) (t1 t2 : Tok) (hm : (l, listOf vs.toArray n) ∈ news) (hi : IntsAre vs r) (h0 : kk < r.length) (hl : r.length ≤ 70) :
    Con w mean mg mb 9 33 [.ref l, .int (kk : Int) t1, .int f t2] news (fun v tl => tl = [] ∧ ∃ (j : Nat) (t : Tok), v = .int (j : Int) t ∧ IsCome r kk f j) := by
  unfold Con
  k_fill
  w_top off
  intro dp un gd env outer A₀ base h₀ L m s Q E B F X N T hf hk hd hu hret
  refine wpAny_noRaise (wpAny_call ?_)
  k_dflt (walk_at "MINE enter")
  have kMk := kstMark
  walk_at "MINE steps"
  walk_at "MINE slice"
  intro D1 ws1 h1 F1 N1 l1 hI1 hC1 hL1
  (try k_lt l1)
  walk_at "MINE steps"
  k_fold
  walk_at "MINE for"
  walk_at "MINE steps"
  rename News _ _ _ _ => N2
  rename Fr _ _ _ _ => F2
  rename IsRange _ _ _ _ _ _ _ _ => R2
  rename IntsAre _ (_ ++ [f]) => hc
  rename _ ∧ _ ∧ AllLt _ _ => lC
  have hx1 : ((kk : Int)).toNat = kk := by omega
  rw [hx1] at hc
  have hcl : (r.take kk ++ [f]).length = kk + 1 := by simp; omega
  refine' kst_rangeD (σ := Unit) (n := kk + 1) (fun _ => _) (fun _ => []) (fun _ => True) [] (fun pre _ => ∀ i, i < pre.length → ¬ Suf r kk f (kk + 1 - i)) () (by rfl) R2 ?hs ?hn F2 N2 trivial ?hk ?hp ?ht ?hd
  case hs => exact small_down (by omega) (by omega) (by omega) (by omega)
  case hn => rw [rangeSize_downNat]; omega
  case hk => intro p hp; cases hp
  case hp => intro i hi; simp at hi
  case ht =>
    rintro _ pre k tk3 u h tk own hk hlt hoff _ hP F3 N3
    dsimp only [kstB, envOf] at hP F3 N3
    simp only [List.cons_append, List.map_cons] at N3 hoff
    (try dsimp only)
    k_fold
    obtain ⟨j, hj, rfl⟩ : ∃ j : Nat, j = kk + 1 - pre.length ∧ k = (j : Int) := ⟨_, rfl, by omega⟩
    have hm' : (l, listOf vs.toArray n) ∈ news ++ own := List.mem_append.mpr (.inl hm)
    walk_at "MINE steps"
    walk_at "MINE slice"
    intro D2 ws2 h2 F4 N4 l2 hI2 hC2 hL2
    (try k_lt l2)
    walk_at "MINE steps"
    k_dflt (refine' kmk_slice_ints ?zF ?zN ?zl ?zp ?zq hc (kmk_from hc ?zsg) ?zc ?_ ?zs ?zt ?zz)
    case zF => k_asm
    case zN => k_asm
    case zl => kmk_list
    case zp => kmk_part
    case zq => kmk_part
    case zsg => omega
    case zc => kmk_len
    case zs => with_unfolding_all rfl
    case zt => kmk_pure
    case zz => kmk_size
    intro D3 ws3 h3 F5 N5 l3 hI3 hC3 hL3
    (try k_lt l3)
    walk_at "MINE steps"
    refine' eq_intsK (news_list N5 ?q1) hI2 (news_list N5 ?q2) hI3 ?q3 ?_
    case q1 => k_mem
    case q2 => k_mem
    case q3 => (try simp only [units_deeper]); (try dsimp only); omega
    have e1 : ((j : Int)).toNat = j := by omega
    have e2 : ((kk : Int) + 1 - (j : Int)).toNat = kk + 1 - j := by omega
    rw [e1, e2]
    by_cases hS : Suf r kk f j
    · have hS' : (decide (List.take j r = List.drop (kk + 1 - j) (List.take kk r ++ [f]))) = true := decide_eq_true hS
      rw [hS']
      walk_at "MINE steps"
      rename Fr h₀ _ _ _ => F6
      rename News h₀ _ _ _ => N6
      refine hret _ [] _ _ F6 (kst_newsOf N6 ?_) (fun _ _ _ h => by cases h) ⟨rfl, j, _, rfl, by omega, fun _ => hS, ?_⟩
      · intro p hp
        refine .tail _ (.tail _ (.tail _ (.tail _ (.tail _ (List.mem_append.mpr (.inl hp))))))
      · intro k hk1 hk2
        have := hP (kk + 1 - k) (by omega)
        have e3 : kk + 1 - (kk + 1 - k) = k := by omega
        rwa [e3] at this
    · have hS' : (decide (List.take j r = List.drop (kk + 1 - j) (List.take kk r ++ [f]))) = false := decide_eq_false hS
      rw [hS']
      walk_at "MINE steps"
      refine kst_end () F5 N5 (by kst_in) (by kst_in) (by rfl) trivial (fun p hp => by cases hp) (by walk_at "MINE same") ?_
      intro i hi
      rw [List.length_append, List.length_singleton] at hi
      by_cases e : i = pre.length
      · rw [e, ← hj]; exact hS
      · exact hP i (by omega)
  case hd =>
    intro c u h tk _ hP F3 N3
    dsimp only [kstB, envOf] at hP F3 N3
    (try dsimp only)
    walk_at "MINE steps"
    rename Fr h₀ _ _ _ => F6
    rename News h₀ _ _ _ => N6
    refine hret _ [] _ _ F6 (kst_newsOf N6 ?_) (fun _ _ _ h => by cases h) ⟨rfl, 0, _, rfl, by omega, fun h => absurd h (Nat.lt_irrefl _), ?_⟩
    · intro p hp
      exact .tail _ (.tail _ (.tail _ hp))
    · intro k hk1 hk2
      rw [downKs_length] at hP
      have := hP (kk + 1 - k) (by omega)
      have e3 : kk + 1 - (kk + 1 - k) = k := by omega
      rwa [e3] at this
theorem my_last {prog : Program} {w : World} {A : Around} {E : Value → Shared → Prop} {s : Shared} {value slice : PySem.Expr} {l : Addr} {vs : List Value} {ns : List Int} {u : Tok} {Q : Value → Shared → Prop} (hl : s.heap.IsList l vs.toArray) (hi : IntsAre vs ns)
    (h0 : 0 < ns.length) (h : ∀ t, Q (.int (ns.getD (ns.length - 1) 0) t) s)
    (hs : subscripted slice false (.ref l) (.int (-1) u) = operate [.ref l, .int (-1) u] (getItem (.ref l) (.int (-1) u))) :
    wpAny (model prog w) A (subscriptTail value slice (.ref l) (.int (-1) u)) Q E s := by
  have hlen := hi.length
  obtain ⟨t, ht⟩ := hi.get (ns.length - 1) (ns.getD (ns.length - 1) 0) (by rw [List.getD_eq_getElem?_getD, List.getElem?_eq_getElem (by omega)]; rfl)
  refine kde_neg hl (by omega) (by omega) (j := ns.length - 1) ?_ ht (h t) hs
  rw [seqIndex_neg (by omega) (by omega)]
  congr 1; omega
/-- the end of a call that gives a new list of ints -/
def LstEnd (h₀ : Heap) (L : Addr) (m : Str → Option Value) (s₁ : Shared) (need : List (Addr × Obj)) (G : List Int → Prop) (v : Value) (s₂ : Shared) : Prop :=
  ∃ D rv rn r h' tk all, v = .ref D ∧ s₂ = { s₁ with heap := h', toks := tk } ∧ Fr h₀ L h' m ∧ News h₀ L h' all ∧ (∀ p ∈ (D, listOf (rv : List Value).toArray rn) :: need, p ∈ all) ∧ (∀ q ∈ need, q.1 ≠ D) ∧ IntsAre rv r ∧ G r
theorem lstEnd {h₀ : Heap} {L : Addr} {m : Str → Option Value} {s₁ : Shared} {need all : List (Addr × Obj)} {G : List Int → Prop} {D : Addr} {rv : List Value} {rn : Nat} {r : List Int} {h' : Heap} {tk : Nat} (F : Fr h₀ L h' m) (N : News h₀ L h' all) (hs : ∀ p ∈ (D, listOf rv.toArray rn) :: need, p ∈ all) (hne : ∀ q ∈ need, q.1 ≠ D) (hi : IntsAre rv r) (g : G r) :
    LstEnd h₀ L m s₁ need G (.ref D) { s₁ with heap := h', toks := tk } := ⟨D, rv, rn, r, h', tk, all, rfl, rfl, F, N, hs, hne, hi, g⟩
theorem cut_list {M : Model} {A : Around} {E : Value → Shared → Prop} {s : Shared} {h₀ : Heap} {L : Addr} {m : Str → Option Value} {news : List (Addr × Obj)} {t : Sem Value} {Q : Value → Shared → Prop} (_F : Fr h₀ L s.heap m) (_N : News h₀ L s.heap news) (G : List Int → Prop)
    (h1 : wpAny M A t (fun v s' => LstEnd h₀ L m s news G v s') E s)
    (h2 : ∀ D rv rn r h' tk, Fr h₀ L h' m → News h₀ L h' ((D, listOf (rv : List Value).toArray rn) :: news) → (∀ q ∈ news, q.1 ≠ D) → IntsAre rv r → G r → Q (.ref D) { s with heap := h', toks := tk }) : wpAny M A t Q E s :=
  wpAny_mono h1 (fun _ _ ⟨D, rv, rn, r, h', tk, _, e1, e2, F', N', hs, hne, hi, g⟩ => e1 ▸ e2 ▸ h2 D rv rn r h' tk F' (fun p hp => N' p (hs p hp)) hne hi g) fun _ _ x => x
theorem len13 {w : List Int} (h : (List.take 10 w).length = min 10 w.length) : 3 ≤ (List.take 10 w ++ [(0 : Int), 1, 0]).length ∧ (List.take 10 w ++ [(0 : Int), 1, 0]).length ≤ 13 := by
  rw [List.length_append, h]; simp; omega
theorem menu_ne {S : Int} (h : ¬ S.fmod 4 = 0) : ([2, 2, 3] : List Int).getD (S.fmod 4 - 1).toNat 0 ≠ 0 := by
  have h1 := Int.fmod_nonneg_of_pos S (b := 4) (by omega)
  have h2 := Int.fmod_lt_of_pos S (b := 4) (by omega)
  have h3 : S.fmod 4 = 1 ∨ S.fmod 4 = 2 ∨ S.fmod 4 = 3 := by omega
  rcases h3 with h3 | h3 | h3 <;> rw [h3] <;> decide
theorem Els.some_ints {R : Int → Value → Prop} (hR : ∀ a y, R a y → ∃ z t, y = .int z t) : ∀ {ys : List Value} {as : List Int}, Els R ys as → ∃ zs, IntsAre ys zs ∧ zs.length = as.length
  | _, _, .nil => ⟨[], .nil, rfl⟩
  | _, _, .cons h r => by
    obtain ⟨z, t, rfl⟩ := hR _ _ h
    obtain ⟨zs, h1, h2⟩ := r.some_ints hR
    exact ⟨z :: zs, .cons _ _ h1, by simp [h2]⟩
set_option maxRecDepth 100000 in
set_option maxHeartbeats 8000000 in
theorem law_t : PySem.Challenge.rw_dz0097_02.Holds := by
  apply Mine.hd02
  w_strict k_go0
  rename List Int => W
  have kMk := kstMark
  (try k_unmd)
  (try k_fold)
  walk_at "MINE steps"
  (try dsimp only)
  rename News _ _ _ _ => N1
  rename Fr _ _ _ _ => F1
  refine cut_list F1 N1 (fun r => 3 ≤ r.length ∧ r.length ≤ 13) ?_ ?_
  · -- DEV<
    walk1
    walk_at "MINE steps"
    walk1
    walk_at "MINE steps"
    · rename News _ _ _ _ => kN
      rename Fr _ _ _ _ => kF
      rename IntsAre _ (List.take 10 _ ++ _) => hI
      rename (List.take 10 _).length = _ => hC
      exact lstEnd kF kN (by kst_in) (by k_all) hI (len13 hC)
    · k_fold
      rename IntsAre _ (List.take 10 _ ++ _) => hI
      rename (List.take 10 _).length = _ => hC
      have hlen := len13 hC
      walk_at "MINE compU"
      walk_at "MINE steps"
      refine' srcU_list (fun a v => ∃ z tt, v = .int z tt) rfl ?sF ?sN ?sm hI ?sz ?st ?sf
      case sF => k_asm
      case sN => k_asm
      case sm => k_mem
      case sz => omega
      case st =>
        intro a ta I oI C oC D9 m9 h12 tk12 ys E9 ha hC9 hx F12 N12
        (try dsimp only)
        (try k_unmd)
        (try k_fold)
        rename ¬ (Int.fmod _ 4 = 0) => hS
        have hmenu := menu_ne hS
        walk_at "MINE steps"
        (try k_unfold)
        (try dsimp only)
        rename News _ _ _ _ => N13
        rename Fr _ _ _ _ => F13
        exact elEnd F13 N13 (by kst_in) ⟨_, _, rfl⟩
      case sf =>
        intro D12 ys12 k12 h12 tk12 F12 N12 hne12 hels12
        obtain ⟨zs, hz1, hz2⟩ := hels12.some_ints (fun _ _ h => h)
        have hne12 := allNe_of hne12
        simp only [AllNe, and_true] at hne12
        (try dsimp only)
        walk_at "MINE steps"
        rename News _ _ _ _ => kN
        rename Fr _ _ _ _ => kF
        exact lstEnd kF kN (by kst_in) (by k_all) hz1 (by rw [hz2]; exact hlen)
    -- DEV>
  · intro D rv rn r h2 tk2 F2 N2 hne hr hG
    have hne := allNe_of hne
    simp only [AllNe, and_true] at hne
    (try dsimp only)
    walk_at "MINE steps"
    k_fold
    walk_at "MINE for"
    walk_at "MINE steps"
    rename News _ _ _ _ => N3
    rename Fr _ _ _ _ => F3
    refine' kst_listL (σ := List Value × Nat × List Int) (fun c => (_, listOf c.1.toArray c.2.1) :: (D, listOf rv.toArray rn) :: _) (fun _ => []) (fun c => IntsAre c.1 c.2.2) [] (fun pre c => c.2.2.Nodup ∧ (∀ y, y ∈ c.2.2 ↔ y ∈ pre) ∧ c.2.2.length ≤ pre.length) ([], 0, []) (by rfl) (fun _ => .tail _ (.head _)) hr F3 N3 ?ff ?fk ?fp ?ft ?fd
    case ff => exact .nil
    case fk => intro p hp; cases hp
    case fp => exact ⟨by simp, by simp, by simp⟩
    case ft =>
      -- DEV<
      rintro ⟨fv, fn, fs⟩ pre post y ty u h tk own hsplit hmem hoff hf hP F4 N4
      dsimp only [kstB] at hf hP
      dsimp only [kstB, envOfC] at F4 N4
      simp only [List.cons_append, List.map_cons] at N4 hoff
      (try dsimp only)
      (try k_fold)
      have hfl := hP.2.2
      have hpl : pre.length ≤ 13 := by
        have := congrArg List.length hsplit
        rw [List.length_append, List.length_cons] at this
        omega
      walk_at "MINE steps"
      refine' my_notin (news_list N4 ?nm) hf ?na ?nb
      case nm => k_mem
      case na =>
        intro hni
        walk_at "MINE steps"
        rename News _ _ _ _ => N5
        rename Fr _ _ _ _ => F5
        simp only [List.push_toArray] at N5
        refine kst_end (_, _, fs ++ [y]) F5 N5 (by kst_in) (by kst_in) (by rfl) (IntsAre.append hf (.cons _ _ .nil)) (fun p hp => by cases hp) (by walk_at "MINE same") ⟨?_, ?_, ?_⟩
        · refine List.nodup_append.mpr ⟨hP.1, by simp, fun a ha b hb => ?_⟩
          rw [List.mem_singleton.mp hb]
          intro e; rw [e] at ha; exact hni ha
        · intro z
          dsimp only
          rw [List.mem_append, List.mem_append, hP.2.1 z]
        · dsimp only
          rw [List.length_append, List.length_append]; simp only [List.length_singleton]; omega
      case nb =>
        intro hin
        walk_at "MINE steps"
        refine kst_end (fv, fn, fs) F4 N4 (by kst_in) (by kst_in) (by rfl) hf (fun p hp => by cases hp) (by walk_at "MINE same") ⟨hP.1, ?_, ?_⟩
        · intro z
          dsimp only
          rw [List.mem_append, List.mem_singleton, hP.2.1 z]
          constructor
          · exact .inl
          · rintro (h | rfl)
            · exact h
            · exact (hP.2.1 _).mp hin
        · dsimp only
          rw [List.length_append, List.length_singleton]; omega
      -- DEV>
    case fd =>
      rintro ⟨fv, fn, fs⟩ u h tk hf hP F4 N4
      dsimp only [kstB] at hf hP
      dsimp only [kstB, envOfC] at F4 N4
      obtain ⟨hnd, hfm, hfl⟩ := hP
      (try dsimp only)
      walk_at "MINE steps"
      rename News _ _ _ _ => N5
      rename Fr _ _ _ _ => F5
      obtain ⟨M, hM⟩ : ∃ M, M = (if W.sum < 0 then -W.sum else W.sum).fmod (10 ^ Int.toNat 60) := ⟨_, rfl⟩
      have hM0 : 0 ≤ M := hM ▸ Int.fmod_nonneg_of_pos _ (by decide)
      have hM1 : M < 10 ^ 60 := hM ▸ Int.fmod_lt_of_pos _ (by decide)
      rw [← hM] at F5
      refine' con_use (gen_t _ _ _ _ _ _ _ _ _ (pfx_list ?gm hr ?gl) ?gn) ?uB ?uF ?uX ?uN ?uT rfl rfl rfl ?ud ?uu ?hh
      walk_at "MINE useTop"
      case gm => k_mem
      case gl => omega
      case gn => omega
      case hh =>
        rintro _ _ h6 tk6 F6 N6 hlt6 ⟨TA, tv, tn, rfl, rfl, ht⟩
        simp only [List.cons_append, List.nil_append] at N6
        have l2 : ∀ q : Addr × Obj, q ∈ _ → q.1 < TA := fun q hq => hlt6 q hq _ (.head _)
        k_lt l2
        (try dsimp only)
        walk_at "MINE steps"
        (try k_fold)
        rename Fr _ _ _ _ => F7
        refine For_any F7 ?_ (by intro _; rfl)
        walk_at "MINE steps"
        rename News _ _ _ _ => N8
        rename Fr _ _ _ _ => F8
        rename IsRange _ _ _ _ _ _ _ _ => R8
        refine' for_range (σ := List Value × Nat × List Int × Obj) (n := r.length) (fun c => (_, listOf c.1.toArray c.2.1) :: _ :: _ :: _ :: _ :: (_, c.2.2.2) :: _) [] (fun i c => IntsAre c.1 c.2.2.1 ∧ (∃ v, c.2.2.2.data = .cell v) ∧ c.2.2.1.length = i + 1 ∧ c.2.2.1.getD 0 0 = 0 ∧ ∀ k, k < i → c.2.2.1.getD (k + 1) 0 = (fs.length + M) ^ (k + 1) + c.2.2.1.getD ((tab (eqs r) r.length).getD k 0) 0) (_, 0, [0], _) (by rfl) R8 ?ws ?wn F8 N8 ?wj ?wa ?wt ?wd ?we
        case ws => exact small_one (by omega) (by omega) (by omega) (by omega)
        case wn => rw [rangeSize_nat]; omega
        case wj => exact ⟨.cons _ _ .nil, ⟨_, by assumption⟩, rfl, rfl, fun k hk => absurd hk (Nat.not_lt_zero _)⟩
        case wa => intro c; rfl
        case we => exact PassesOwn.leaving
        case wt =>
          -- DEV<
          rintro i ⟨wv, wn, ws, ko⟩ u h9 tk9 I oI t9 hi ⟨hw, ⟨kv, hko⟩, hwl, hw0, hwk⟩ F9 N9 hI9
          dsimp only at hw hko hwl hw0 hwk F9 N9 hI9
          have hI9 := allNe_of hI9
          simp only [AllNe, and_true] at hI9
          have hMb : ((fs.length : Int) + M).natAbs < 2 ^ 210 := by
            have h1 : (10 : Int) ^ 60 + 13 < 2 ^ 210 := by decide
            omega
          have htl : ((tab (eqs r) r.length).map Int.ofNat).length = r.length := by rw [List.length_map, tab_length]
          have hi0 : (0 + (i : Int)).toNat = i := by omega
          have hgd : (List.map Int.ofNat (tab (eqs r) r.length)).getD (0 + (i : Int)).toNat 0 = (((tab (eqs r) r.length).getD i 0 : Nat) : Int) := by rw [hi0, getD_map]
          have hlow := tab_low (eqs r) r.length i
          (try dsimp only)
          (try k_unmd)
          (try k_fold)
          walk_at "MINE steps"
          dsimp only [FrPost]
          rename News _ _ _ _ => N10
          rename Fr _ _ _ _ => F10
          rename _ = Data.cell (some (Value.int _ _)) => hk10
          have hp0 : (0 + (i : Int) + 1).toNat = i + 1 := by omega
          have hg2 : (((tab (eqs r) r.length).getD i 0 : Nat) : Int).toNat = (tab (eqs r) r.length).getD i 0 := by omega
          simp only [List.push_toArray, hgd, hp0, hg2] at N10
          refine frEnd (_, _, ws ++ [(fs.length + M) ^ (i + 1) + ws.getD ((tab (eqs r) r.length).getD i 0) 0], _) F10 N10 (by kst_in) ?_ ⟨IntsAre.append hw (.cons _ _ .nil), ⟨_, hk10⟩, ?_, ?_, ?_⟩
          · intro z hz
            first | rfl | (simp; done) | (simp; rfl)
          · dsimp only; rw [List.length_append, hwl]; rfl
          · dsimp only; rw [getD_snoc_lt (by omega)]; exact hw0
          · intro k hk
            dsimp only
            have hlk := tab_low (eqs r) r.length k
            by_cases e : k = i
            · subst e
              have e2 : k + 1 = ws.length := by omega
              rw [getD_snoc_lt (k := (tab (eqs r) r.length).getD k 0) (by omega), e2, getD_snoc]
            · rw [getD_snoc_lt (by omega), getD_snoc_lt (by omega)]
              exact hwk k (by omega)
          -- DEV>
        case wd =>
          rintro ⟨wv, wn, ws, ko⟩ u h9 tk9 ⟨hw, ⟨kv, hko⟩, hwl, hw0, hwk⟩ F9 N9
          dsimp only at hw hko hwl hw0 hwk F9 N9
          (try dsimp only)
          walk_at "MINE steps"
          k_fold
          walk_at "MINE compU"
          walk_at "MINE steps"
          refine' srcU_list (fun a v => ∃ tt, v = .int (ws.getD r.length 0 - a) tt) rfl ?cF ?cN ?cm hw ?cz ?ct ?cf
          case cF => k_asm
          case cN => k_asm
          case cm => k_mem
          case cz => omega
          case ct =>
            intro a ta I oI C oC D9 m9 h12 tk12 ys E9 ha hC9 hx F12 N12
            (try dsimp only)
            (try k_unmd)
            (try k_fold)
            walk_at "MINE steps"
            refine' my_last (news_list N12 ?lm) hw (by omega) ?_ ?ls
            case lm => k_mem
            case ls => with_unfolding_all rfl
            intro tl
            have e1 : ws.length - 1 = r.length := by omega
            rw [e1]
            walk_at "MINE steps"
            exact elEnd F12 N12 (fun _ h => h) ⟨_, rfl⟩
          case cf =>
            intro WA qv qn h13 tk13 F13 N13 hne13 hels13
            have hq := hels13.ints (f := fun a => ws.getD r.length 0 - a) (fun _ _ h => h)
            have hne13 := allNe_of hne13
            simp only [AllNe, and_true] at hne13
            have hql : (ws.map fun a => ws.getD r.length 0 - a).length = r.length + 1 := by rw [List.length_map]; exact hwl
            (try dsimp only)
            walk_at "MINE steps"
            (try k_fold)
            rename Fr _ _ _ _ => F14
            refine For_any F14 ?_ (by intro _; rfl)
            walk_at "MINE steps"
            rename News _ _ _ _ => N15
            rename Fr _ _ _ _ => F15
            rename IsRange _ _ _ _ _ _ _ _ => R15
            refine' for_range (σ := Obj) (n := r.length) (fun c => _ :: _ :: _ :: _ :: _ :: _ :: (_, c) :: _) [Str.ofString "on"] (fun i c => ∃ v, c.data = .cell v) _ (by rfl) R15 ?vs ?vn F15 N15 ?vj ?va ?vt ?vd ?ve
            case vs => exact small_one (by omega) (by omega) (by omega) (by omega)
            case vn => rw [rangeSize_nat]; omega
            case vj => exact ⟨_, hko⟩
            case va => intro c; rfl
            case ve => exact PassesOwn.leaving
            case vt =>
              rintro i ko2 u2 h16 tk16 I oI t16 hi ⟨kv2, hko2⟩ F16 N16 hI16
              (try dsimp only at F16 N16 hI16)
              have hI16 := allNe_of hI16
              simp only [AllNe, and_true] at hI16
              (try dsimp only)
              (try k_unmd)
              (try k_fold)
              walk_at "MINE steps"
              (try k_fold)
              walk_at "MINE compU"
              walk_at "MINE steps"
              refine' srcU_list (fun a v => ∃ tt, v = .int ((ws.map fun a => ws.getD r.length 0 - a).getD (comeOf r i a) 0) tt) rfl ?oF ?oN ?om hf ?oz ?ot ?of
              case oF => k_asm
              case oN => k_asm
              case om => k_mem
              case oz => omega
              case ot =>
                intro a ta I2 oI2 C oC D9 m9 h17 tk17 ys E9 ha hC9 hx F17 N17
                (try dsimp only)
                (try k_unmd)
                (try k_fold)
                walk_at "MINE steps"
                have e0 : (0 + (i : Int)) = (i : Int) := by omega
                rw [e0]
                refine' con_use (come_t _ _ _ _ _ _ _ _ r i a t16 ta ?km hr hi ?kl) ?uB ?uF ?uX ?uN ?uT rfl rfl rfl ?ud ?uu ?kh
                walk_at "MINE useTop"
                case km => k_mem
                case kl => omega
                case kh =>
                  rintro _ _ h19 tk19 F19 N19 hlt19 ⟨rfl, j, tj, rfl, hcome⟩
                  rw [List.nil_append] at N19
                  have hj := hcome.1
                  (try dsimp only)
                  walk_at "MINE steps"
                  exact elEnd F19 N19 (fun _ h => h) ⟨_, by rw [comeOf_eq hcome, Int.toNat_natCast]⟩
              case of =>
                intro ON yv yn h18 tk18 F18 N18 hne18 hels18
                have hy := hels18.ints (f := fun a => (ws.map fun a => ws.getD r.length 0 - a).getD (comeOf r i a) 0) (fun _ _ h => h)
                have hne18 := allNe_of hne18
                simp only [AllNe, and_true] at hne18
                (try dsimp only)
                have hlw := tab_low (eqs r) r.length
                have h210 : (10 : Int) ^ 60 + 13 < 2 ^ 210 := by decide
                have hMb : ((fs.length : Int) + M).natAbs < 2 ^ 210 := by omega
                have hMc : M.natAbs < 2 ^ 210 := by omega
                have hWb : ∀ x, ((ws.map fun a => ws.getD r.length 0 - a).getD x 0).natAbs < 2 ^ 4000 :=
                  wait_bound (worth_bound (m := (fs.length : Int) + M) (by omega) (by omega) hw0 hwk hlw) hwl (by omega)
                walk_at "MINE steps"
                refine my_mul hMb (hWb _) ?_
                walk_at "MINE steps"
                refine my_mul hMc (hWb _) ?_
                walk_at "MINE steps"
                · exact absurd (conway hnd hfm hwl hw0 hwk hi) (by assumption)
                · dsimp only [FrPost]
                  rename News _ _ _ _ => N20
                  rename Fr _ _ _ _ => F20
                  rename _ = Data.cell (some (Value.int _ _)) => hk20
                  refine frEnd _ F20 N20 (by kst_in) ?_ ⟨_, hk20⟩
                  intro z hz
                  (try simp only [List.contains_cons, List.contains_nil, Bool.or_false, Bool.or_eq_false_iff, beq_eq_false_iff_ne, ne_eq] at hz)
                  first | (simp [hz]; done) | (simp [hz]; rfl)
            case vd =>
              rintro ko2 u2 h16 tk16 ⟨kv2, hko2⟩ F16 N16
              (try dsimp only at F16 N16)
              (try dsimp only)
              have htl : ((tab (eqs r) r.length).map Int.ofNat).length = r.length := by rw [List.length_map, tab_length]
              walk_at "MINE steps"
end Mine
theorem PySem.Challenge.cw_dz0097_02_holds : PySem.Challenge.rw_dz0097_02.Holds := by
  exact Mine.law_t
