import Derived.Test.Qxb6616658aFmtWra
namespace Go.Proofs.Qxb6616658aFmt
open Go.RowKit Go.Extern.Stop Go.Stop Go.Extern

/-- A word's four bytes as cells. -/
def wordL (big : Bool) (v : Int) : List Value := [.int .u8 (wordF big v 0), .int .u8 (wordF big v 1), .int .u8 (wordF big v 2), .int .u8 (wordF big v 3)]
theorem tail_words (big : Bool) (a b c d : Int) : tailL (recH big a b c d) = wordL big a ++ wordL big b ++ wordL big c ++ wordL big d := by kernel_rfl
theorem wordL_one (big : Bool) (v : Int) : ∀ u ∈ wordL big v, u.oneCell' = true := by
  intro u hu
  simp [wordL] at hu
  rcases hu with rfl | rfl | rfl | rfl <;> rfl
theorem new_cells (w : World) (vs : List Value) (t : TypeId) : ∀ j u, vs[j]? = some u → (w.alloc (.cells vs.toArray t)).cell? ((⟨w.heap.size, 0, none⟩ : Addr).add j) = some u := by
  intro j u h
  rw [Addr.add_lit, cell_of_row _ _ _ _ _ _ (heap_alloc_new w _), Nat.zero_add]
  simpa using h

theorem grown_tr {a b c : World} {N : Nat} (h1 : a.grownBy b (some N)) (h2 : b.grownBy c (some N)) : a.grownBy c (some N) :=
  ⟨h2.1.trans h1.1, h2.2.trans h1.2, h2.3.trans h1.3, Nat.le_trans h1.4 h2.4, fun k hk hne => (h2.5 k (Nat.lt_of_lt_of_le hk h1.4) hne).trans (h1.5 k hk hne)⟩

set_option maxRecDepth 100000 in
set_option maxHeartbeats 400000 in
theorem put23 (big : Bool) (v : Int) (hv0 : 0 ≤ v) (hv1 : v ≤ 4294967295) (B g n cap : Nat) (xs : List Value) (w : World) (h : w.ownsRow B 5 1 (.slice (some ⟨g, 0, none⟩) n cap) n xs) (hroom : n + 4 ≤ cap) (hBw : B ≤ w.heap.size) (hBg : B ≤ g) :
    Calls Tryf.prog 23 #[.slice (some ⟨g, 0, none⟩) n cap, .int .u32 v, .bool big] w fun e w' => e = .returned (.slice (some ⟨g, 0, none⟩) (n + 4) cap) ∧ w'.ownsRow B 5 1 (.slice (some ⟨g, 0, none⟩) (n + 4) cap) (n + 4) (xs ++ wordL big v) ∧ Below B w w' ∧ w.grownBy w' (some g) := by
  obtain ⟨i0, hi, hz0, hz1, hz2⟩ := info_parts Tryf.info5
  have HO := mkHid h
  clear h
  go_enter Tryf.func23, Tryf.ntmps23
  cases big
  · go_wp2_with (at_builtin; refine wpList_append_fits _ rfl (.tmp 22) (.tmp 34) 22 rfl B 5 i0 1 Tryf.underlying22 hi hz1 g n cap _ rfl (HO.out.alloc _) ⟨w.heap.size, 0, none⟩ 4 4 (wordL false v) rfl rfl (new_cells w (wordL false v) 5) (wordL_one _ _) hroom ?_; intro w1 hown1 hgrow1; have HO1 := mkHid hown1; have HG1 := mkHid hgrow1; clear hown1 hgrow1)
    go_ret
    have hg := grown_tr (World.grownBy_alloc w _ (some g)) HG1.out
    exact ⟨rfl, HO1.out, (Below.refl B w).grown hg hBw (fun k hk => by rw [← Option.some.inj hk]; exact hBg), hg⟩
  · go_wp2_with (at_builtin; refine wpList_append_fits _ rfl (.tmp 8) (.tmp 20) 22 rfl B 5 i0 1 Tryf.underlying22 hi hz1 g n cap _ rfl (HO.out.alloc _) ⟨w.heap.size, 0, none⟩ 4 4 (wordL true v) rfl rfl (new_cells w (wordL true v) 5) (wordL_one _ _) hroom ?_; intro w1 hown1 hgrow1; have HO1 := mkHid hown1; have HG1 := mkHid hgrow1; clear hown1 hgrow1)
    go_ret
    have hg := grown_tr (World.grownBy_alloc w _ (some g)) HG1.out
    exact ⟨rfl, HO1.out, (Below.refl B w).grown hg hBw (fun k hk => by rw [← Option.some.inj hk]; exact hBg), hg⟩

set_option maxRecDepth 100000 in
set_option maxHeartbeats 400000 in
theorem equal24 (xs : Nat → Int) (g1 g2 n c1 c2 : Nat) (w : World) (hn : n ≤ 4194304) (h1 : ∀ j, j < n → w.cell? ⟨g1, j, none⟩ = some (.int .u8 (xs j))) (h2 : ∀ j, j < n → w.cell? ⟨g2, j, none⟩ = some (.int .u8 (xs j))) :
    Calls Tryf.prog 24 #[.slice (some ⟨g1, 0, none⟩) n c1, .slice (some ⟨g2, 0, none⟩) n c2] w fun e w' => e = .returned (.bool true) ∧ ∃ k, w.drewN k = w' := by
  have H1 := mkHid h1
  have H2 := mkHid h2
  clear h1 h2
  go_enter Tryf.func24, Tryf.ntmps24
  go_wp2
  go_loopw [5] (fun i wr => ∃ k m : Nat, k ≤ n ∧ i = .int .i64 k ∧ wr = w.drewN m) (fun i _ => n - (intOf i).toNat)
  case atStart => exact ⟨0, 0, Nat.zero_le _, rfl, rfl⟩
  case round =>
    obtain ⟨k, m, hk, rfl, rfl⟩ := hrel
    by_cases hlt : k < n
    · have c1 := H1.out k hlt
      have c2 := H2.out k hlt
      go_wp2
      go_quiet (fail)
      go_wp2
      go_roundw
      case rel => exact ⟨k + 1, _, by omega, by go_num, rfl⟩
      case measure => simp [intOf]; omega
    · obtain rfl : k = n := by omega
      go_wp2
      go_ret
      exact ⟨rfl, _, rfl⟩

theorem data_some {T b gd nd : Nat} {d : Nat → Int} {w : World} (hgT : gd < T) (hTb : T ≤ b) (hnd : nd ≤ 1048576) (hc : ∀ j, j < nd → w.cell? ⟨gd, j, none⟩ = some (.int .u8 (d j))) :
    DataIn T b (some ⟨gd, 0, none⟩) nd ((List.range nd).map fun j => Value.int .u8 (d j)) w := by
  intro bs w5 hB hL h1 hlen
  refine (Tryf.Buffer_Write_any b b bs _ ⟨gd, 0, none⟩ nd nd w5 hB (Nat.le_of_lt hB.lt) h1 (by simp) (by show gd ≠ b; omega) (fun j v hv => ?_) (fun v hv => ?_) (by omega)).mono fun e w' ⟨h2, h3, h4, _⟩ => ⟨h2, h3, h4⟩
  · have hj : j < nd := by have := (List.getElem?_eq_some_iff.1 hv).1; simpa using this
    rw [Addr.add_lit, Nat.zero_add]
    have e : v = .int .u8 (d j) := by simpa [hj] using hv.symm
    rw [e]
    exact (hL.cell (p := ⟨gd, j, none⟩) hgT).trans (hc j hj)
  · obtain ⟨j, _, rfl⟩ := List.mem_map.1 hv
    rfl
end Go.Proofs.Qxb6616658aFmt
