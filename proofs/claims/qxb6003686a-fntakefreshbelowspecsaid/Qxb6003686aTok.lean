/-
  ROWS OF TOKENS (three cells an element), and the contracts of slices.Clone, slices.Reverse and slices.Delete at them.
-/
import Derived.Test.Qxb6003686aClone
import Derived.Deep.RegionLaw
namespace Go.Proofs.Qxb6003686a
open Go.RowKit

theorem Try.info32 : (Try.prog.info? 32).map (fun i => (i.zero, i.size, i.bytes)) = some (some (.agg #[.int .i64 0, .int .i64 0, .bool false]), 3, 24) := by kernel_rfl

/-- A row of 'cap' tokens, none frozen, the first N of which are E. -/
def TRow (w : World) (g cap N : Nat) (E : Nat → Int × Int × Bool) : Prop :=
  ∃ f, w.rowIs g 32 (cap * 3) f ∧ N ≤ cap ∧ ∀ j, j < N → f (j * 3) = .int .i64 (E j).1 ∧ f (j * 3 + 1) = .int .i64 (E j).2.1 ∧ f (j * 3 + 2) = .bool (E j).2.2

namespace TRow
variable {w : World} {g cap N : Nat} {E : Nat → Int × Int × Bool}

theorem lt (h : TRow w g cap N E) : g < w.heap.size := by
  obtain ⟨f, hf, _⟩ := h
  exact hf.lt

theorem cell (h : TRow w g cap N E) (j : Nat) (hj : j < N) :
    w.cell? ⟨g, j * 3, none⟩ = some (.int .i64 (E j).1) ∧ w.cell? ⟨g, j * 3 + 1, none⟩ = some (.int .i64 (E j).2.1) ∧ w.cell? ⟨g, j * 3 + 2, none⟩ = some (.bool (E j).2.2) := by
  obtain ⟨f, hf, hN, hE⟩ := h
  have := hE j hj
  rw [hf.cell (by omega), hf.cell (by omega), hf.cell (by omega), this.1, this.2.1, this.2.2]
  exact ⟨rfl, rfl, rfl⟩

theorem frozen (h : TRow w g cap N E) (i : Nat) : w.frozen? ⟨g, i, none⟩ = false := by
  obtain ⟨f, hf, _⟩ := h
  exact hf.frozen i

theorem of_block {w' : World} (h : TRow w g cap N E) (e : w'.heap[g]? = w.heap[g]?) : TRow w' g cap N E := by
  obtain ⟨f, hf, r⟩ := h
  exact ⟨f, hf.of_block e, r⟩

theorem below {w' : World} {B : Nat} (h : TRow w g cap N E) (hb : Below B w w') (hg : g < B) : TRow w' g cap N E := h.of_block (hb.block g hg)

theorem alloc (h : TRow w g cap N E) (o : Obj) : TRow (w.alloc o) g cap N E := h.of_block (Below.heap_alloc _ _ _ h.lt)
theorem drewN (h : TRow w g cap N E) (q : Nat) : TRow (w.drewN q) g cap N E := h
theorem drew (h : TRow w g cap N E) : TRow w.drew g cap N E := h

theorem setOther {a : Addr} (h : TRow w g cap N E) (ha : g ≠ a.block) (v : Value) : TRow (w.setCell a v) g cap N E := h.of_block (Below.heap_setCell _ _ _ _ ha)

theorem congr {E' : Nat → Int × Int × Bool} (h : TRow w g cap N E) (e : ∀ j, j < N → E j = E' j) : TRow w g cap N E' := by
  obtain ⟨f, hf, hN, hE⟩ := h
  exact ⟨f, hf, hN, fun j hj => by rw [← e j hj]; exact hE j hj⟩

theorem less {N' : Nat} (h : TRow w g cap N E) (hN : N' ≤ N) : TRow w g cap N' E := by
  obtain ⟨f, hf, hc, hE⟩ := h
  exact ⟨f, hf, by omega, fun j hj => hE j (by omega)⟩

/-- One token is stored. -/
theorem set3 (h : TRow w g cap N E) (i : Nat) (x : Int × Int × Bool) :
    TRow (((w.setCell ⟨g, i * 3, none⟩ (.int .i64 x.1)).setCell ⟨g, i * 3 + 1, none⟩ (.int .i64 x.2.1)).setCell ⟨g, i * 3 + 2, none⟩ (.bool x.2.2)) g cap N (fun j => if j = i then x else E j) := by
  obtain ⟨f, hf, hN, hE⟩ := h
  refine ⟨_, ((hf.set (i * 3) _).set (i * 3 + 1) _).set (i * 3 + 2) _, hN, fun j hj => ?_⟩
  have := hE j hj
  by_cases e : j = i
  · subst e
    simp only [if_true]
    refine ⟨?_, ?_, trivial⟩
    · rw [if_neg (by omega), if_neg (by omega)]
    · rw [if_neg (by omega)]
  · simp only [if_neg e]
    refine ⟨?_, ?_, ?_⟩
    · rw [if_neg (by omega), if_neg (by omega), if_neg (by omega)]; exact this.1
    · rw [if_neg (by omega), if_neg (by omega), if_neg (by omega)]; exact this.2.1
    · rw [if_neg (by omega), if_neg (by omega), if_neg (by omega)]; exact this.2.2
end TRow

/-- The cells of m tokens, as a list. -/
def tokList (E : Nat → Int × Int × Bool) : Nat → List Value
  | 0 => []
  | m + 1 => tokList E m ++ [.int .i64 (E m).1, .int .i64 (E m).2.1, .bool (E m).2.2]

theorem tokList_length (E : Nat → Int × Int × Bool) (m : Nat) : (tokList E m).length = m * 3 := by
  induction m with
  | zero => rfl
  | succ m ih => simp [tokList, ih]; omega

theorem tokList_at (E : Nat → Int × Int × Bool) (m j : Nat) (hj : j < m) :
    (tokList E m)[j * 3]? = some (.int .i64 (E j).1) ∧ (tokList E m)[j * 3 + 1]? = some (.int .i64 (E j).2.1) ∧ (tokList E m)[j * 3 + 2]? = some (.bool (E j).2.2) := by
  induction m with
  | zero => omega
  | succ m ih =>
    have hl := tokList_length E m
    unfold tokList
    by_cases e : j = m
    · subst e
      rw [List.getElem?_append_right (by omega), List.getElem?_append_right (by omega), List.getElem?_append_right (by omega), hl]
      have e0 : j * 3 - j * 3 = 0 := by omega
      have e1 : j * 3 + 1 - j * 3 = 1 := by omega
      have e2 : j * 3 + 2 - j * 3 = 2 := by omega
      rw [e0, e1, e2]
      exact ⟨rfl, rfl, rfl⟩
    · rw [List.getElem?_append_left (by omega), List.getElem?_append_left (by omega), List.getElem?_append_left (by omega)]
      exact ih (by omega)

theorem tokList_one (E : Nat → Int × Int × Bool) (m : Nat) : ∀ u ∈ tokList E m, u.oneCell' = true := by
  induction m with
  | zero => simp [tokList]
  | succ m ih =>
    intro u hu
    simp only [tokList, List.mem_append, List.mem_cons, List.not_mem_nil, or_false] at hu
    rcases hu with h | h | h | h
    · exact ih u h
    · subst h; rfl
    · subst h; rfl
    · subst h; rfl

/-- The tokens lie at an address. -/
def TokAt (w : World) (b o m : Nat) (E : Nat → Int × Int × Bool) : Prop :=
  ∀ j, j < m → w.cell? ⟨b, o + j * 3, none⟩ = some (.int .i64 (E j).1) ∧ w.cell? ⟨b, o + j * 3 + 1, none⟩ = some (.int .i64 (E j).2.1) ∧ w.cell? ⟨b, o + j * 3 + 2, none⟩ = some (.bool (E j).2.2)

theorem tokSrc {w : World} {b o m : Nat} {E : Nat → Int × Int × Bool} (h : TokAt w b o m E) : ∀ i v, (tokList E m)[i]? = some v → w.cell? ((⟨b, o, none⟩ : Addr).add i) = some v := by
  intro i v hv
  have hl := tokList_length E m
  have hi := (List.getElem?_eq_some_iff.1 hv).1
  rw [Addr.add_lit]
  have hj : i / 3 < m := by omega
  have L := tokList_at E m (i / 3) hj
  have C := h (i / 3) hj
  have hr : i % 3 = 0 ∨ i % 3 = 1 ∨ i % 3 = 2 := by omega
  rcases hr with hr | hr | hr
  · have e : i = i / 3 * 3 := by omega
    rw [show o + i = o + i / 3 * 3 by omega, C.1, ← L.1, ← e]; exact hv
  · have e : i = i / 3 * 3 + 1 := by omega
    rw [show o + i = o + i / 3 * 3 + 1 by omega, C.2.1, ← L.2.1, ← e]; exact hv
  · have e : i = i / 3 * 3 + 2 := by omega
    rw [show o + i = o + i / 3 * 3 + 2 by omega, C.2.2, ← L.2.2, ← e]; exact hv

theorem TRow.of_own {w : World} {base g m cap : Nat} {E : Nat → Int × Int × Bool} (h : w.ownsRow base 32 3 (.slice (some ⟨g, 0, none⟩) m cap) m (tokList E m)) : TRow w g cap m E := by
  rcases h.2 with ⟨h', _⟩ | ⟨g', cap', cur, h', _, hg, hnc, _, hcs, htake⟩
  · simp at h'
  · simp only [Value.slice.injEq, Option.some.injEq, Addr.mk.injEq, and_true, true_and] at h'
    obtain ⟨rfl, rfl⟩ := h'
    refine ⟨fun i => cur[i]?.getD undef, ⟨cur, hg, hcs, fun i hi => ?_⟩, hnc, fun j hj => ?_⟩
    · have : i < cur.size := by omega
      simp [this]
    · have L := tokList_at E m j hj
      rw [← htake] at L
      rw [List.getElem?_take, List.getElem?_take, List.getElem?_take, if_pos (by omega), if_pos (by omega), if_pos (by omega)] at L
      simp only [Array.getElem?_toList] at L
      simp only [L.1, L.2.1, L.2.2]
      exact ⟨rfl, rfl, rfl⟩

set_option maxHeartbeats 400000 in
theorem tclone (b o m c : Nat) (E : Nat → Int × Int × Bool) (w : World) (h : TokAt w b o m E) (hm : m ≤ 1048576) :
    Calls Try.prog 38 #[.slice (some ⟨b, o, none⟩) m c] w fun e w' => ∃ g cap', e = .returned (.slice (some ⟨g, 0, none⟩) m cap') ∧ w.heap.size ≤ g ∧ Below w.heap.size w w' ∧ TRow w' g cap' m E := by
  have hnn := fun w => Lib.run_eql_slice_nil (P := Try.prog) w 57 32 (some ⟨b, o, none⟩) m c 0 0 Try.underlying57
  obtain ⟨i0, hi, hz0, hz1, hz2⟩ := info_parts Try.info32
  go_enter Try.func38, Try.ntmps38
  go_wp2_with (at_builtin; refine wpList_append_own _ rfl (.tmp 5) (.tmp 6) 57 rfl w.heap.size 32 i0 _ 3 24 Try.underlying57 hi hz0 hz1 hz2 rfl (by decide) _ _ _ rfl (World.ownsRow_made w #[] 0 (Nat.le_refl _) (by unfold maxLen; omega) (by simp)) ⟨b, o, none⟩ m c (tokList E m) rfl (tokList_length E m) (fun i v hv => acell (tokSrc h i v hv)) (tokList_one E m) (by unfold maxLen; omega) (by omega) (by simp) ?_)
  intro v' w1 own1 grow1 hne
  obtain ⟨g, cap', hv, hg⟩ : ∃ g cap', v' = .slice (some ⟨g, 0, none⟩) m cap' ∧ w.heap.size ≤ g := by
    rcases own1.2 with ⟨h1, h2⟩ | ⟨g, cap', cur, h1, h2, _⟩
    · exact absurd h1 hne
    · exact ⟨g, cap', by simpa using h1, h2⟩
  have hT : TRow w1 g cap' m E := by
    have := own1
    rw [hv] at this
    exact TRow.of_own this
  rw [hv]
  have hb : Below w.heap.size w w1 := ((Below.refl w.heap.size w).alloc (Nat.le_refl _) _).grown grow1 (by simp) (fun k hk => by simp [Value.ownBlock] at hk; omega)
  clear own1 grow1 hne hv
  go_wp2
  go_ret
  exact ⟨g, cap', rfl, hg, hb, hT⟩

/-! ### slices.Reverse -/
/-- What stands behind k exchanges. -/
def revPart (E : Nat → Int × Int × Bool) (m k j : Nat) : Int × Int × Bool := if j < k ∨ m ≤ j + k then E (m - 1 - j) else E j

theorem revPart_step (E : Nat → Int × Int × Bool) (m k : Nat) (h : 2 * k + 1 < m) (j : Nat) (hj : j < m) :
    (if j = m - 1 - k then E k else if j = k then E (m - 1 - k) else revPart E m k j) = revPart E m (k + 1) j := by
  unfold revPart
  by_cases h1 : j = m - 1 - k
  · rw [if_pos h1, if_pos (by omega)]; congr 1; omega
  · rw [if_neg h1]
    by_cases h2 : j = k
    · rw [if_pos h2, if_pos (by omega)]; congr 1; omega
    · rw [if_neg h2]
      by_cases h3 : j < k ∨ m ≤ j + k
      · rw [if_pos h3, if_pos (by omega)]
      · rw [if_neg h3, if_neg (by omega)]

set_option maxHeartbeats 400000 in
theorem treverse (g m cap : Nat) (E : Nat → Int × Int × Bool) (w : World) (h : TRow w g cap m E) (hm : m ≤ 1048576) :
    Calls Try.prog 39 #[.slice (some ⟨g, 0, none⟩) m cap] w fun e w' => e = .returned (.tuple #[]) ∧ But (fun b => b = g) w w' ∧ TRow w' g cap m (fun j => E (m - 1 - j)) := by
  go_enter Try.func39, Try.ntmps39
  go_wp2_with fail
  go_loopw [2, 3] (fun i j wr => ∃ k : Nat, 2 * k ≤ m + 1 ∧ i = .int .i64 k ∧ j = .int .i64 (m - 1 - k : Int) ∧ Hid (But (fun b => b = g) w wr ∧ TRow wr g cap m (revPart E m k))) (fun i _ _ => m - (intOf i).toNat)
  case atStart =>
    refine ⟨0, by omega, rfl, by go_num, But.refl _ _, h.congr ?_⟩
    intro j hj
    unfold revPart
    rw [if_neg (by omega)]
  case round =>
    obtain ⟨k, hk, rfl, rfl, HR⟩ := hrel
    by_cases hlt : 2 * k + 1 < m
    · obtain ⟨x0, x1, x2⟩ := HR.out.2.cell k (by omega)
      obtain ⟨y0, y1, y2⟩ := HR.out.2.cell (m - 1 - k) (by omega)
      have f0 := HR.out.2.frozen
      go_wp2_with fail
      go_region
      go_wp2_with fail
      go_roundw
      case rel =>
        obtain ⟨r1, r4⟩ := HR.out
        refine ⟨k + 1, by omega, by go_num, by go_num, ?_, ?_⟩
        · exact ((((((r1.setCell rfl _).setCell rfl _).setCell rfl _).setCell rfl _).setCell rfl _).setCell rfl _).drew
        · refine ((r4.set3 k _).set3 (m - 1 - k) _).drew.congr ?_
          intro j hj
          have e1 : revPart E m k k = E k := by unfold revPart; rw [if_neg (by omega)]
          have e2 : revPart E m k (m - 1 - k) = E (m - 1 - k) := by unfold revPart; rw [if_neg (by omega)]
          simp only [e1, e2]
          exact revPart_step E m k hlt j hj
      case measure => simp [intOf]; omega
    · go_wp2_with fail
      go_end0
      obtain ⟨r1, r4⟩ := HR.out
      refine ⟨rfl, r1, r4.congr ?_⟩
      intro j hj
      unfold revPart
      by_cases h3 : j < k ∨ m ≤ j + k
      · rw [if_pos h3]
      · rw [if_neg h3]; congr 1; omega

/-! ### slices.Delete -/
theorem rowIs_setCells {g n : Nat} {e : TypeId} : ∀ (vs : List Value) (o : Nat) (w : World) (f : Nat → Value), w.rowIs g e n f →
    (w.setCells g o vs).rowIs g e n (fun c => if o ≤ c ∧ c < o + vs.length then (vs[c - o]?).getD undef else f c)
  | [], o, w, f, h => h.congr (fun c _ => by rw [if_neg (by simp)])
  | v :: r, o, w, f, h => by
    have ih := rowIs_setCells r (o + 1) (w.setCell ⟨g, o, none⟩ v) _ (h.set o v)
    refine World.rowIs.congr ih ?_
    intro c _
    simp only [List.length_cons]
    by_cases h1 : c = o
    · subst h1
      rw [if_neg (by omega), if_pos rfl, if_pos (by omega)]
      simp
    · by_cases h2 : o + 1 ≤ c ∧ c < o + 1 + r.length
      · rw [if_pos h2, if_pos (by omega), show c - o = (c - (o + 1)) + 1 by omega]
        simp
      · rw [if_neg h2, if_neg h1, if_neg (by omega)]

theorem But.setCells {g : Nat} {a : World} : ∀ (vs : List Value) (o : Nat) (w : World), But (fun b => b = g) a w → But (fun b => b = g) a (w.setCells g o vs)
  | [], _, _, h => h
  | v :: r, o, w, h => But.setCells r (o + 1) (w.setCell ⟨g, o, none⟩ v) (h.setCell rfl v)

theorem run_clear_toks (w : World) (g N i n c : Nat) (f : Nat → Value) (hr : w.rowIs g 32 (N * 3) f) (hn : 0 < n) (hN : i + n ≤ N) :
    ∃ w', (∀ ty, (Builtin.clear_ #[57] ty #[.slice (some ⟨g, i * 3, none⟩) n c]).run Try.prog w = .ok (.tuple #[]) w') ∧ But (fun b => b = g) w w' ∧ ∃ f', w'.rowIs g 32 (N * 3) f' ∧ ∀ c, c < i * 3 → f' c = f c := by
  obtain ⟨zs, hzs⟩ : ∃ zs, zs = (Builtin.zeroCells (Value.agg #[.int .i64 0, .int .i64 0, .bool false]).cells n).toList := ⟨_, rfl⟩
  have hl : zs.length = n * 3 := by
    rw [hzs, Array.length_toList, size_zeroCells]; rfl
  have h1 : ∀ v ∈ zs, v.oneCell' = true := by
    intro v hv
    rw [hzs] at hv
    simp only [Builtin.zeroCells, Array.toList_map, List.mem_map] at hv
    obtain ⟨k, _, rfl⟩ := hv
    have : k % 3 = 0 ∨ k % 3 = 1 ∨ k % 3 = 2 := by omega
    rcases this with h | h | h <;> simp [Value.cells, h, Value.oneCell']
  have hst := run_storeCells_cells (P := Try.prog) g (i * 3) zs 0 w (fun j hj => by rw [hl] at hj; rw [Nat.add_zero, hr.cell (by omega)]; rfl) (fun j hj => by rw [Nat.add_zero]; exact hr.frozen _) h1
  simp only [Nat.add_zero] at hst
  have hv : ∀ w, (zeroValue 32).run Try.prog w = .ok (.agg #[.int .i64 0, .int .i64 0, .bool false]) w := Try.zeroValue32
  obtain ⟨m, rfl⟩ : ∃ m, n = m + 1 := ⟨n - 1, by omega⟩
  refine ⟨w.setCells g (i * 3) zs, ?_, But.setCells _ (i * 3) w (But.refl _ _), _, rowIs_setCells zs (i * 3) w f hr, fun c hc => by rw [if_neg (by omega)]⟩
  intro ty
  simp [Builtin.clear_, run_underlying Try.underlying57, hv, ← hzs, hst]

set_option maxHeartbeats 1600000 in
set_option maxRecDepth 1000000 in
theorem tdelete (g N i j : Nat) (E : Nat → Int × Int × Bool) (w : World) (h : TRow w g N N E) (hij : i ≤ j) (hj : j ≤ N) (hN : N ≤ 1048576) :
    Calls Try.prog 40 #[.slice (some ⟨g, 0, none⟩) N N, .int .i64 i, .int .i64 j] w fun e w' => e = .returned (.slice (some ⟨g, 0, none⟩) (N - (j - i)) N) ∧ But (fun b => b = g) w w' ∧ TRow w' g N (N - (j - i)) (fun t => if t < i then E t else E (t + (j - i))) := by
  by_cases heq : i = j
  · subst heq
    have h0 : Calls Try.prog 40 #[.slice (some ⟨g, 0, none⟩) N N, .int .i64 i, .int .i64 i] w fun e w' => e = .returned (.slice (some ⟨g, 0, none⟩) N N) ∧ w' = w := by
      clear h
      go_enter Try.func40, Try.ntmps40
      go_wp2
      all_goals (go_ret; exact ⟨rfl, rfl⟩)
    refine h0.mono ?_
    rintro e w ⟨rfl, rfl⟩
    refine ⟨by rw [Nat.sub_self, Nat.sub_zero], But.refl _ _, ?_⟩
    rw [Nat.sub_self, Nat.sub_zero]
    exact h.congr (fun t _ => by by_cases ht : t < i <;> simp [ht])
  · have hlt : i < j := by omega
    obtain ⟨i0, hi, hz0, hz1, hz2⟩ := info_parts Try.info32
    obtain ⟨f, hrow, _, hE⟩ := h
    obtain ⟨news, hnews⟩ : ∃ news, news = tokList (fun t => E (j + t)) (N - j) := ⟨_, rfl⟩
    have hlen : news.length = (N - j) * 3 := by rw [hnews]; exact tokList_length _ _
    have htok : TokAt w g (j * 3) (N - j) (fun t => E (j + t)) := by
      intro t ht
      have := hE (j + t) (by omega)
      rw [show j * 3 + t * 3 = (j + t) * 3 by omega, hrow.cell (by omega), hrow.cell (by omega), hrow.cell (by omega), this.1, this.2.1, this.2.2]
      exact ⟨rfl, rfl, rfl⟩
    obtain ⟨A, hA, hsrc⟩ : ∃ A : Addr, (if N = j then some (⟨g, 0, none⟩ : Addr) else some ⟨g, j * 3, none⟩) = some A ∧ Hid (∀ t u, news[t]? = some u → w.drew.cell? (A.add t) = some u) := by
      by_cases h : N = j
      · refine ⟨⟨g, 0, none⟩, by simp [h], fun t u hu => ?_⟩
        have h0 : news.length = 0 := by rw [hlen]; omega
        rw [List.length_eq_zero_iff.1 h0] at hu
        simp at hu
      · refine ⟨⟨g, j * 3, none⟩, by simp [h], fun t u hu => ?_⟩
        rw [hnews] at hu
        exact tokSrc htok t u hu
    have s1 : Hid (news.length = (N - j) * 3) := hlen
    have s2 : Hid (∀ u ∈ news, u.oneCell' = true) := by rw [hnews]; exact tokList_one _ _
    have s3 : Hid (∀ t, t < news.length → (w.drew.cell? ⟨g, 0 + i * 3 + t, none⟩).isSome = true ∧ w.drew.frozen? ⟨g, 0 + i * 3 + t, none⟩ = false) := by
      intro t ht
      rw [hlen] at ht
      exact ⟨by show (w.cell? _).isSome = true; rw [hrow.cell (by omega)]; rfl, hrow.frozen _⟩
    obtain ⟨W1, hW1⟩ : ∃ W1, W1 = w.drew.setCells g (0 + i * 3) news := ⟨_, rfl⟩
    have hW : Hid (W1 = w.drew.setCells g (0 + i * 3) news) := hW1
    have row1 := rowIs_setCells news (0 + i * 3) w.drew f hrow
    rw [← hW1] at row1
    have but1 : But (fun b => b = g) w W1 := by rw [hW1]; exact But.setCells _ _ _ (But.refl _ _).drew
    obtain ⟨W2, hcl, but2, f2, row2, hf2⟩ := run_clear_toks W1 g N (i + (N - j)) (N - (i + (N - j))) (N - (i + (N - j))) _ row1 (by omega) (by omega)
    have hne : ¬ N = i + (N - j) := by omega
    have hiN : i ≤ N := by omega
    have Row1 := hide row1
    have But1 := hide but1
    have But2 := hide but2
    have Row2 := hide row2
    have HF := hide hf2
    have HE := hide hE
    have HN := hide hnews
    clear row1 but1 but2 row2 hf2 hE hW1 hrow htok hnews hlen
    go_enter Try.func40, Try.ntmps40
    go_wp2_with fail
    go_region_law (refine step_append_room rfl (.tmp 22) (.tmp 25) 57 rfl 32 i0 3 Try.underlying57 hi hz1 g 0 i N (by simp [Act.eval, Act.put]) A (N - j) (N - j) news (by simp [Act.eval, Act.put]) s1.out hsrc.out s2.out (by omega) s3.out ?_; rw [← hW.out])
    go_wp2
    go_ret
    refine ⟨by rw [show N - (j - i) = i + (N - j) by omega]; rfl, But1.out.trans But2.out, f2, Row2.out, by omega, fun t ht => ?_⟩
    have hlen := s1.out
    have a0 := HF.out (t * 3) (by omega)
    have a1 := HF.out (t * 3 + 1) (by omega)
    have a2 := HF.out (t * 3 + 2) (by omega)
    rw [a0, a1, a2]
    by_cases hti : t < i
    · rw [if_neg (by omega), if_neg (by omega), if_neg (by omega)]
      simp only [if_pos hti]
      exact HE.out t (by omega)
    · rw [if_pos (by omega), if_pos (by omega), if_pos (by omega)]
      simp only [if_neg hti]
      have L := tokList_at (fun t => E (j + t)) (N - j) (t - i) (by omega)
      rw [← HN.out] at L
      rw [show t * 3 - (0 + i * 3) = (t - i) * 3 by omega, show t * 3 + 1 - (0 + i * 3) = (t - i) * 3 + 1 by omega, show t * 3 + 2 - (0 + i * 3) = (t - i) * 3 + 2 by omega, L.1, L.2.1, L.2.2]
      rw [show j + (t - i) = t + (j - i) by omega]
      exact ⟨rfl, rfl, rfl⟩
end Go.Proofs.Qxb6003686a
