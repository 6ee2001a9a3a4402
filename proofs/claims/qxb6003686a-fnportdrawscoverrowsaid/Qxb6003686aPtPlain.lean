/-
  THE PLAIN LAWS BEHIND FnPortDrawsCoverRow: numbers and lists, no walk.
-/
import Derived.Test.Qxb6003686aPtFit
import Derived.Test.Qxb6003686aPtSort
namespace Go.Proofs.Qxb6003686a

def dd (LL : Nat → Nat) (s : Nat) : Nat := if LL s = 0 then 1 else LL s
/-- The rows g s 0 .. g s (d s - 1), one behind the other. -/
def cat (g : Nat → Nat → Nat) (d : Nat → Nat) : Nat → List Nat
  | 0 => []
  | s + 1 => cat g d s ++ (List.range (d s)).map (g s)

theorem cat_length (g : Nat → Nat → Nat) (d : Nat → Nat) : ∀ n, (cat g d n).length = off d n
  | 0 => rfl
  | n + 1 => by simp only [cat, off, List.length_append, cat_length g d n, List.length_map, List.length_range]

theorem getD_append_left' (l k : List Nat) (i : Nat) (h : i < l.length) : (l ++ k).getD i 0 = l.getD i 0 := by
  simp [List.getD, List.getElem?_append_left h]
theorem getD_append_right' (l k : List Nat) (i : Nat) : (l ++ k).getD (l.length + i) 0 = k.getD i 0 := by
  simp [List.getD, List.getElem?_append_right]

theorem cat_getD (g : Nat → Nat → Nat) (d : Nat → Nat) (s j : Nat) (hj : j < d s) : ∀ n, s < n → (cat g d n).getD (off d s + j) 0 = g s j
  | 0, h => by omega
  | n + 1, h => by
    by_cases e : s = n
    · subst e
      unfold cat
      have := getD_append_right' (cat g d s) ((List.range (d s)).map (g s)) j
      rw [cat_length] at this
      rw [this]
      simp [List.getD, hj]
    · have hlt : s < n := by omega
      unfold cat
      have h1 : off d (s + 1) ≤ off d n := off_mono hlt
      have h2 : off d (s + 1) = off d s + d s := rfl
      rw [getD_append_left' _ _ _ (by rw [cat_length]; omega)]
      exact cat_getD g d s j hj n hlt

theorem cat_all {P : Nat → Prop} (g : Nat → Nat → Nat) (d : Nat → Nat) : ∀ n, (∀ s j, s < n → j < d s → P (g s j)) → ∀ k, k < off d n → P ((cat g d n).getD k 0)
  | 0, _, k, hk => by simp [off] at hk
  | n + 1, h, k, hk => by
    unfold cat
    by_cases e : k < off d n
    · rw [getD_append_left' _ _ _ (by rw [cat_length]; exact e)]
      exact cat_all g d n (fun s j hs hj => h s j (by omega) hj) k e
    · have hk2 : off d (n + 1) = off d n + d n := rfl
      have hj : k - off d n < d n := by omega
      have := getD_append_right' (cat g d n) ((List.range (d n)).map (g n)) (k - off d n)
      rw [cat_length, show off d n + (k - off d n) = k by omega] at this
      rw [this]
      have e2 : ((List.range (d n)).map (g n)).getD (k - off d n) 0 = g n (k - off d n) := by simp [List.getD, hj]
      rw [e2]
      exact h n _ (by omega) hj

/-! ### The ports -/
theorem prt_getD (R LL : Nat → Nat) (s j : Nat) (hj : j < (lstOf R LL s).length) : ∀ n, s < n → (prt R LL s).length + j < (prt R LL n).length ∧ (prt R LL n).getD ((prt R LL s).length + j) 0 = (lstOf R LL s).getD j 0
  | 0, h => by omega
  | n + 1, h => by
    by_cases e : s = n
    · subst e
      rw [show prt R LL (s + 1) = prt R LL s ++ lstOf R LL s from rfl]
      refine ⟨by rw [List.length_append]; omega, ?_⟩
      exact getD_append_right' _ _ _
    · obtain ⟨h1, h2⟩ := prt_getD R LL s j hj n (by omega)
      rw [show prt R LL (n + 1) = prt R LL n ++ lstOf R LL n from rfl]
      refine ⟨by rw [List.length_append]; omega, ?_⟩
      rw [getD_append_left' _ _ _ h1]
      exact h2

theorem lstOf_mem (R LL : Nat → Nat) (s j : Nat) (hj : j < (lstOf R LL s).length) : ∃ i, i < LL s ∧ (lstOf R LL s).getD j 0 = rowOf R LL s i := by
  have hm : (lstOf R LL s).getD j 0 ∈ lstOf R LL s := by
    simp [List.getD, hj]
  unfold lstOf lst at hm
  obtain ⟨h1, _⟩ := List.mem_filter.1 hm
  obtain ⟨i, hi, he⟩ := List.mem_map.1 h1
  exact ⟨i, List.mem_range.1 hi, he.symm⟩

/-- The table's entry for a slot's draw. -/
def ent (R LL : Nat → Nat) (n s j : Nat) : Nat := if j < (lstOf R LL s).length then (prt R LL s).length + j else (prt R LL n).length
/-- Where the draw leads. -/
def lead (R LL : Nat → Nat) (s j : Nat) : Nat := if j < (lstOf R LL s).length then (lstOf R LL s).getD j 0 else s

theorem dest_ent (R LL : Nat → Nat) (n s j : Nat) (hs : s < n) (hr : ∀ i, i < LL s → rowOf R LL s i = elim_ ∨ rowOf R LL s i < n) (hn : n ≤ 256) :
    dest (prt R LL n ++ [2147483646]) (ent R LL n s j) s = lead R LL s j ∧ ent R LL n s j < (prt R LL n ++ [2147483646]).length := by
  unfold dest ent lead
  by_cases h : j < (lstOf R LL s).length
  · obtain ⟨h1, h2⟩ := prt_getD R LL s j h n hs
    simp only [if_pos h]
    rw [getD_append_left' _ _ _ h1, h2]
    obtain ⟨i, hi, he⟩ := lstOf_mem R LL s j h
    have hne : (lstOf R LL s).getD j 0 ≠ 2147483646 := by
      rw [he]
      rcases hr i hi with h' | h'
      · rw [h']; decide
      · omega
    rw [if_neg hne]
    exact ⟨rfl, by rw [List.length_append]; omega⟩
  · simp only [if_neg h]
    have := getD_append_right' (prt R LL n) [2147483646] 0
    rw [Nat.add_zero] at this
    rw [this]
    simp

theorem lead_perm_aux (s : Nat) (r : Nat → Nat) : ∀ k, (lst s r k ++ List.replicate (k - (lst s r k).length) s).Perm ((List.range k).map r)
  | 0 => by simp [lst]
  | k + 1 => by
    have ih := lead_perm_aux s r k
    have hle := lst_le s r k
    rw [List.range_succ, List.map_append, lst_succ]
    by_cases h : r k = s
    · rw [if_pos h, List.append_nil]
      have e : k + 1 - (lst s r k).length = (k - (lst s r k).length) + 1 := by omega
      rw [e, List.replicate_succ', ← List.append_assoc]
      simp only [List.map_cons, List.map_nil, h]
      exact List.Perm.append_right _ ih
    · rw [if_neg h]
      have e : k + 1 - (lst s r k ++ [r k]).length = k - (lst s r k).length := by simp
      rw [e]
      simp only [List.map_cons, List.map_nil]
      refine List.Perm.trans ?_ (List.Perm.append_right [r k] ih)
      rw [List.append_assoc, List.append_assoc]
      exact List.Perm.append_left _ List.perm_append_comm

theorem lead_list (R LL : Nat → Nat) (s : Nat) : (List.range (LL s)).map (lead R LL s) = lstOf R LL s ++ List.replicate (LL s - (lstOf R LL s).length) s := by
  have hle : (lstOf R LL s).length ≤ LL s := lst_le _ _ _
  apply List.ext_getElem?
  intro i
  by_cases hi : i < LL s
  · by_cases h : i < (lstOf R LL s).length
    · rw [List.getElem?_append_left h]
      simp [hi, lead, h]
    · rw [List.getElem?_append_right (by omega)]
      simp only [List.getElem?_map, List.getElem?_range hi, Option.map_some, lead, if_neg h]
      rw [List.getElem?_replicate, if_pos (by omega)]
  · rw [List.getElem?_eq_none (by simp; omega), List.getElem?_eq_none (by simp; omega)]

theorem lead_perm (R LL : Nat → Nat) (s : Nat) : ((List.range (LL s)).map (lead R LL s)).Perm ((List.range (LL s)).map (rowOf R LL s)) := by
  rw [lead_list]
  exact lead_perm_aux s (rowOf R LL s) (LL s)

/-! ### The crossings -/
theorem ev1_snoc (s : Nat) (l : List Nat) (t : Nat) : ev1 s (l ++ [t]) = ev1 s l ++ (if t = elim_ then [] else [(s, t)]) := by
  unfold ev1
  rw [List.filter_append, List.map_append]
  by_cases h : t = elim_
  · simp [h]
  · simp [h]

theorem ev_step (s : Nat) (r : Nat → Nat) (k : Nat) : ev1 s (lst s r (k + 1)) = ev1 s (lst s r k) ++ (if r k = s ∨ r k = elim_ then [] else [(s, r k)]) := by
  rw [lst_succ]
  by_cases h : r k = s
  · rw [if_pos h, if_pos (.inl h), List.append_nil, List.append_nil]
  · rw [if_neg h, ev1_snoc]
    by_cases h2 : r k = elim_
    · rw [if_pos h2, if_pos (.inr h2)]
    · rw [if_neg h2, if_neg (by omega)]

end Go.Proofs.Qxb6003686a
