import Derived.Test.Qxb6617110aHas
namespace Go.Proofs.Qxb6617110a
open Go.RowKit

/-- The list so far: what zqInsertSorted has laid down behind k elements. -/
structure InsAt (x : Nat → Int) (len : Nat) (p : Int) (k : Nat) (pl : Bool) (xs : List Int) : Prop where
  asc : xs.Pairwise (· < ·)
  mem : ∀ r, r ∈ xs ↔ (∃ j, j < k ∧ x j = r) ∨ (pl = true ∧ r = p)
  under : ∀ r, r ∈ xs → ∀ j, k ≤ j → j < len → r < x j
  low : pl = false → ∀ r, r ∈ xs → r < p
  size : xs.length = k + pl.toNat

theorem InsAt.start (x : Nat → Int) (len : Nat) (p : Int) : InsAt x len p 0 false [] :=
  ⟨List.Pairwise.nil, fun r => by simp, fun r h => by simp at h, fun _ r h => by simp at h, rfl⟩
theorem InsAt.place {x : Nat → Int} {len : Nat} {p : Int} {k : Nat} {xs : List Int} (h : InsAt x len p k false xs) (hx : ∀ i j, i < j → j < len → x i < x j) (hk : k < len) (hp : p < x k) : InsAt x len p k true (xs ++ [p]) := by
  refine ⟨?_, fun r => ?_, fun r hr j h1 h2 => ?_, (fun h => by cases h), by simp [h.size]⟩
  · rw [List.pairwise_append]
    refine ⟨h.asc, List.pairwise_singleton _ _, fun a ha b hb => ?_⟩
    obtain rfl : b = p := by simpa using hb
    exact h.low rfl a ha
  · rw [List.mem_append, h.mem r]
    simp
  · rcases List.mem_append.1 hr with h3 | h3
    · exact h.under r h3 j h1 h2
    · obtain rfl : r = p := by simpa using h3
      by_cases e : j = k
      · subst e; exact hp
      · exact Int.lt_trans hp (hx k j (by omega) h2)
theorem InsAt.step {x : Nat → Int} {len : Nat} {p : Int} {k : Nat} {pl : Bool} {xs : List Int} (h : InsAt x len p k pl xs) (hx : ∀ i j, i < j → j < len → x i < x j) (hk : k < len) (hp : pl = false → x k < p) : InsAt x len p (k + 1) pl (xs ++ [x k]) := by
  refine ⟨?_, fun r => ?_, fun r hr j h1 h2 => ?_, fun e r hr => ?_, by simp [h.size]; omega⟩
  · rw [List.pairwise_append]
    refine ⟨h.asc, List.pairwise_singleton _ _, fun a ha b hb => ?_⟩
    obtain rfl : b = x k := by simpa using hb
    exact h.under a ha k (Nat.le_refl _) hk
  · rw [List.mem_append, h.mem r]
    constructor
    · rintro ((⟨j, h1, h2⟩ | h1) | h1)
      · exact Or.inl ⟨j, by omega, h2⟩
      · exact Or.inr h1
      · exact Or.inl ⟨k, by omega, by simpa using Eq.symm (by simpa using h1)⟩
    · rintro (⟨j, h1, h2⟩ | h1)
      · by_cases e : j = k
        · right; subst e; simp [h2]
        · left; left; exact ⟨j, by omega, h2⟩
      · left; right; exact h1
  · rcases List.mem_append.1 hr with h3 | h3
    · exact h.under r h3 j (by omega) h2
    · obtain rfl : r = x k := by simpa using h3
      exact hx k j (by omega) h2
  · rcases List.mem_append.1 hr with h3 | h3
    · exact h.low e r h3
    · obtain rfl : r = x k := by simpa using h3
      exact hp e
theorem InsAt.last {x : Nat → Int} {len : Nat} {p : Int} {xs : List Int} (h : InsAt x len p len false xs) : InsAt x len p len true (xs ++ [p]) := by
  refine ⟨?_, fun r => ?_, fun r hr j h1 h2 => by omega, (fun h => by cases h), by simp [h.size]⟩
  · rw [List.pairwise_append]
    refine ⟨h.asc, List.pairwise_singleton _ _, fun a ha b hb => ?_⟩
    obtain rfl : b = p := by simpa using hb
    exact h.low rfl a ha
  · rw [List.mem_append, h.mem r]
    simp

/-- A row that answers as y, ascending, its members those of mem. -/
structure RowOf (w : World) (v : Value) (mem : Int → Prop) (m : Nat) (y : Nat → Int) : Prop where
  val : ∃ N c, v = .slice (some ⟨N, 0, none⟩) m c ∧ N < w.heap.size ∧ ∀ j, j < m → w.cell? ⟨N, j, none⟩ = some (.int .i64 (y j))
  asc : ∀ i j, i < j → j < m → y i < y j
  mem : ∀ r, mem r ↔ ∃ j, j < m ∧ y j = r

theorem RowOf.of_owns {w : World} {base : Nat} {v : Value} {n : Nat} {xs : List Int} {mem : Int → Prop} {g c : Nat} (hv : v = .slice (some ⟨g, 0, none⟩) n c) (h : w.ownsRow base 3 1 v n (xs.map (Value.int .i64))) (ha : xs.Pairwise (· < ·)) (hm : ∀ r, mem r ↔ r ∈ xs) : RowOf w v mem n (fun j => xs.getD j 0) := by
  have hl : xs.length = n := by simpa using h.1
  refine ⟨⟨g, c, hv, ?_, fun j hj => ?_⟩, fun i j h1 h2 => ?_, fun r => ?_⟩
  · exact (h.lt g (by rw [hv]; rfl)).2
  · have := h.cells (g := g) (by rw [hv]; rfl) j (.int .i64 (xs.getD j 0)) (by simp [show j < xs.length by omega])
    rw [Addr.add_lit, Nat.zero_add] at this
    exact this
  · have := List.pairwise_iff_getElem.1 ha i j (by omega) (by omega) h1
    simpa [List.getD_eq_getElem?_getD, show i < xs.length by omega, show j < xs.length by omega] using this
  · rw [hm r, List.mem_iff_getElem]
    constructor
    · rintro ⟨i, hi, e⟩
      exact ⟨i, by omega, by simpa [List.getD_eq_getElem?_getD, hi] using e⟩
    · rintro ⟨i, hi, e⟩
      exact ⟨i, by omega, by simpa [List.getD_eq_getElem?_getD, show i < xs.length by omega] using e⟩

theorem new_cell (w : World) (v : Value) : ∀ j u, [v][j]? = some u → (w.alloc (.cells #[v] 3)).cell? ((⟨w.heap.size, 0, none⟩ : Addr).add j) = some u := by
  intro j u h
  match j, h with
  | 0, h =>
    rw [Addr.add_lit, cell_of_row _ _ _ _ _ _ (heap_alloc_new w _)]
    simpa using h
theorem one_cell (n : Int) : ∀ u ∈ [Value.int .i64 n], u.oneCell' = true := by
  intro u hu
  simp at hu
  subst hu
  rfl

set_option maxRecDepth 100000 in
set_option maxHeartbeats 800000 in
theorem ins18 (x : Nat → Int) (p : Int) (g len c : Nat) (hx : ∀ i j, i < j → j < len → x i < x j) (w : World) (hl : len ≤ 1048576) (hg : g < w.heap.size)
    (hc : ∀ j, j < len → w.cell? ⟨g, j, none⟩ = some (.int .i64 (x j))) :
    Calls Try.prog 18 #[.slice (some ⟨g, 0, none⟩) len c, .int .i64 p] w fun e w' => ∃ v m y, e = .returned v ∧ Below w.heap.size w w' ∧ RowOf w' v (fun r => (∃ j, j < len ∧ x j = r) ∨ r = p) m y := by
  obtain ⟨i0, hi, hz0, hz1, hz2⟩ := info_parts Try.info3
  have HC := mkHid hc
  have HX := mkHid hx
  clear hc hx
  go_enter Try.func18, Try.ntmps18
  go_wp2_with (at_make; refine wpList_make_own _ rfl _ _ 31 rfl w.heap.size 3 i0 (.int .i64 0) 1 Try.underlying31 hi hz0 hz1 _ _ _ (len + 1) rfl rfl (by omega) ?b2 ?b3 (Nat.le_refl _) ?_)
  case b2 => rw [hz2]; omega
  case b3 => unfold maxLen; omega
  intro w0 hown0 hgrow0
  go_wp2
  go_loopw [5, 6, 7] (fun out sp si wr => ∃ (k n : Nat) (pl : Bool) (xs : List Int), k ≤ len ∧ n = k + pl.toNat ∧ out = .slice (some ⟨w.heap.size, 0, none⟩) n (len + 1) ∧ sp = .bool pl ∧ si = .int .i64 k ∧
      Hid (wr.ownsRow w.heap.size 3 1 (.slice (some ⟨w.heap.size, 0, none⟩) n (len + 1)) n (xs.map (Value.int .i64))) ∧ Hid (InsAt x len p k pl xs) ∧ Hid (Below w.heap.size w wr))
    (fun _ _ si _ => len - (intOf si).toNat)
  case atStart => exact ⟨0, 0, false, [], Nat.zero_le _, rfl, rfl, rfl, rfl, hown0, InsAt.start _ _ _, (Below.refl _ _).grown hgrow0 (Nat.le_refl _) (fun k h => by cases h)⟩
  case round =>
    obtain ⟨k, n, pl, xs, hk, rfl, rfl, rfl, rfl, HO, HI, HB⟩ := hrel
    have hsz := HB.out.size
    clear hgrow0 hown0
    by_cases hlt : k < len
    · have hck : wr.cell? ⟨g, k, none⟩ = some (.int .i64 (x k)) := (HB.out.cell (p := ⟨g, k, none⟩) hg).trans (HC.out k hlt)
      by_cases h1 : x k = p
      · have H1 := mkHid h1
        have h2 : (x k == p) = true := by simpa using h1
        clear h1
        go_wp2
        go_ret
        refine ⟨_, len, x, rfl, HB.out, ⟨⟨g, c, rfl, by omega, fun j hj => (HB.out.cell (p := ⟨g, j, none⟩) hg).trans (HC.out j hj)⟩, HX.out, fun r => ?_⟩⟩
        constructor
        · rintro (h | rfl)
          · exact h
          · exact ⟨k, hlt, H1.out⟩
        · exact Or.inl
      · cases pl with
        | true =>
          go_wp2_with (at_builtin; refine wpList_append_fits _ rfl (.tmp 39) (.tmp 44) 31 rfl w.heap.size 3 i0 1 Try.underlying31 hi hz1 w.heap.size (k + 1) (len + 1) _ rfl (HO.out.alloc _) ⟨wr.heap.size, 0, none⟩ 1 1 [.int .i64 (x k)] rfl rfl (new_cell _ _) (one_cell _) (by omega) ?_; intro w1 hown1 hgrow1; have HO1 := mkHid hown1; have HG1 := mkHid hgrow1; clear hown1 hgrow1)
          go_roundw
          case rel => exact ⟨k + 1, k + 1 + 1, true, xs ++ [x k], by omega, rfl, rfl, rfl, by go_num, mkHid (by simpa using HO1.out), HI.out.step HX.out hlt (fun h => by cases h), (HB.out.alloc hsz _).grown HG1.out (by simp; omega) (fun k hk => by cases hk; exact Nat.le_refl _)⟩
          case measure => simp [intOf]; omega
        | false =>
          by_cases h2 : p < x k
          · go_wp2_with (first
              | (at_builtin; refine wpList_append_fits _ rfl (.tmp 35) (.tmp 37) 31 rfl w.heap.size 3 i0 1 Try.underlying31 hi hz1 w.heap.size k (len + 1) _ rfl (HO.out.alloc _) ⟨wr.heap.size, 0, none⟩ 1 1 [.int .i64 p] rfl rfl (new_cell _ _) (one_cell _) (by omega) ?_; intro w1 hown1 hgrow1; have HO1 := mkHid hown1; have HB1 : Hid (Below w.heap.size w w1) := (HB.out.alloc hsz _).grown hgrow1 (by simp; omega) (fun k hk => by cases hk; exact Nat.le_refl _); have hck1 : w1.cell? ⟨g, k, none⟩ = some (.int .i64 (x k)) := (HB1.out.cell (p := ⟨g, k, none⟩) hg).trans (HC.out k hlt); clear hown1 hgrow1)
              | (at_builtin; refine wpList_append_fits _ rfl (.tmp 39) (.tmp 44) 31 rfl w.heap.size 3 i0 1 Try.underlying31 hi hz1 w.heap.size (k + 1) (len + 1) _ rfl (HO1.out.alloc _) ⟨w1.heap.size, 0, none⟩ 1 1 [.int .i64 (x k)] rfl rfl (new_cell _ _) (one_cell _) (by omega) ?_; intro w2 hown1 hgrow1; have HO2 := mkHid hown1; have HB2 : Hid (Below w.heap.size w w2) := (HB1.out.alloc HB1.out.size _).grown hgrow1 (by have := HB1.out.size; simp; omega) (fun k hk => by cases hk; exact Nat.le_refl _); clear hown1 hgrow1))
            go_roundw
            case rel => exact ⟨k + 1, k + 1 + 1, true, xs ++ [p] ++ [x k], by omega, rfl, rfl, rfl, by go_num, mkHid (by simpa using HO2.out), (HI.out.place HX.out hlt h2).step HX.out hlt (fun h => by cases h), HB2⟩
            case measure => simp [intOf]; omega
          · go_wp2_with (at_builtin; refine wpList_append_fits _ rfl (.tmp 39) (.tmp 44) 31 rfl w.heap.size 3 i0 1 Try.underlying31 hi hz1 w.heap.size k (len + 1) _ rfl (HO.out.alloc _) ⟨wr.heap.size, 0, none⟩ 1 1 [.int .i64 (x k)] rfl rfl (new_cell _ _) (one_cell _) (by omega) ?_; intro w1 hown1 hgrow1; have HO1 := mkHid hown1; have HG1 := mkHid hgrow1; clear hown1 hgrow1)
            go_roundw
            case rel => exact ⟨k + 1, k + 1, false, xs ++ [x k], by omega, rfl, rfl, rfl, by go_num, mkHid (by simpa using HO1.out), HI.out.step HX.out hlt (fun _ => by omega), (HB.out.alloc hsz _).grown HG1.out (by simp; omega) (fun k hk => by cases hk; exact Nat.le_refl _)⟩
            case measure => simp [intOf]; omega
    · obtain rfl : k = len := by omega
      cases pl with
      | true =>
        go_wp2
        go_ret
        exact ⟨_, _, _, rfl, HB.out, RowOf.of_owns rfl HO.out HI.out.asc (fun r => by rw [HI.out.mem r]; simp)⟩
      | false =>
        go_wp2_with (at_builtin; refine wpList_append_fits _ rfl (.tmp 48) (.tmp 50) 31 rfl w.heap.size 3 i0 1 Try.underlying31 hi hz1 w.heap.size k (k + 1) _ rfl (HO.out.alloc _) ⟨wr.heap.size, 0, none⟩ 1 1 [.int .i64 p] rfl rfl (new_cell _ _) (one_cell _) (by omega) ?_; intro w1 hown1 hgrow1; have HO1 := mkHid hown1; have HG1 := mkHid hgrow1; clear hown1 hgrow1)
        go_ret
        exact ⟨_, _, _, rfl, (HB.out.alloc hsz _).grown HG1.out (by simp; omega) (fun k hk => by cases hk; exact Nat.le_refl _), RowOf.of_owns rfl (xs := xs ++ [p]) (by simpa using HO1.out) HI.out.last.asc (fun r => by rw [HI.out.last.mem r]; simp)⟩
end Go.Proofs.Qxb6617110a
