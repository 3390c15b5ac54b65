import Derived.Test.Qxb6616658aFmtLeaf
namespace Go.Proofs.Qxb6616658aFmt
open Go.RowKit

def le4 (x : Nat → Int) (i : Nat) : Int := x i + x (i + 1) * 256 + x (i + 2) * 65536 + x (i + 3) * 16777216
def be4 (x : Nat → Int) (i : Nat) : Int := x i * 16777216 + x (i + 1) * 65536 + x (i + 2) * 256 + x (i + 3)
def le2 (x : Nat → Int) (i : Nat) : Int := x i + x (i + 1) * 256
def be2 (x : Nat → Int) (i : Nat) : Int := x i * 256 + x (i + 1)

theorem le32n (x : Nat → Int) (i g n c : Nat) (w : World) (hn : 4 ≤ n) (hx : ∀ j, 0 ≤ x j ∧ x j ≤ 255) (hc : ∀ j, i ≤ j → j < i + 4 → w.cell? ⟨g, j, none⟩ = some (.int .u8 (x j))) :
    Calls Tryf.prog 25 #[.slice (some ⟨g, i, none⟩) n c] w fun e w' => e = .returned (.int .u32 (le4 x i)) ∧ ∃ k, w' = w.drewN k :=
  le32 g i n c _ _ _ _ w hn (hx i) (hx (i + 1)) (hx (i + 2)) (hx (i + 3)) (hc i (by omega) (by omega)) (hc (i + 1) (by omega) (by omega)) (hc (i + 2) (by omega) (by omega)) (hc (i + 3) (by omega) (by omega))
theorem be32n (x : Nat → Int) (i g n c : Nat) (w : World) (hn : 4 ≤ n) (hx : ∀ j, 0 ≤ x j ∧ x j ≤ 255) (hc : ∀ j, i ≤ j → j < i + 4 → w.cell? ⟨g, j, none⟩ = some (.int .u8 (x j))) :
    Calls Tryf.prog 26 #[.slice (some ⟨g, i, none⟩) n c] w fun e w' => e = .returned (.int .u32 (be4 x i)) ∧ ∃ k, w' = w.drewN k :=
  be32 g i n c _ _ _ _ w hn (hx i) (hx (i + 1)) (hx (i + 2)) (hx (i + 3)) (hc i (by omega) (by omega)) (hc (i + 1) (by omega) (by omega)) (hc (i + 2) (by omega) (by omega)) (hc (i + 3) (by omega) (by omega))
theorem le16n (x : Nat → Int) (i g n c : Nat) (w : World) (hn : 2 ≤ n) (hx : ∀ j, 0 ≤ x j ∧ x j ≤ 255) (hc : ∀ j, i ≤ j → j < i + 2 → w.cell? ⟨g, j, none⟩ = some (.int .u8 (x j))) :
    Calls Tryf.prog 27 #[.slice (some ⟨g, i, none⟩) n c] w fun e w' => e = .returned (.int .u32 (le2 x i)) ∧ ∃ k, w' = w.drewN k :=
  le16 g i n c _ _ w hn (hx i) (hx (i + 1)) (hc i (by omega) (by omega)) (hc (i + 1) (by omega) (by omega))
theorem be16n (x : Nat → Int) (i g n c : Nat) (w : World) (hn : 2 ≤ n) (hx : ∀ j, 0 ≤ x j ∧ x j ≤ 255) (hc : ∀ j, i ≤ j → j < i + 2 → w.cell? ⟨g, j, none⟩ = some (.int .u8 (x j))) :
    Calls Tryf.prog 28 #[.slice (some ⟨g, i, none⟩) n c] w fun e w' => e = .returned (.int .u32 (be2 x i)) ∧ ∃ k, w' = w.drewN k :=
  be16 g i n c _ _ w hn (hx i) (hx (i + 1)) (hc i (by omega) (by omega)) (hc (i + 1) (by omega) (by omega))

def pcapNo : Value := .tuple #[.bool false, .bool false, .bool false, .int .u32 0]
set_option maxRecDepth 100000 in
set_option maxHeartbeats 400000 in
theorem pcap_short (a : Option Addr) (n c : Nat) (w : World) (hn : n < 24) :
    Calls Tryf.prog 9 #[.slice a n c] w fun e w' => e = .returned pcapNo ∧ ∃ k, w' = w.drewN k := by
  go_enter Tryf.func9, Tryf.ntmps9
  go_wp2
  exact bodyPost_ret (v := pcapNo) (by simp [results, Tryf.results9, go_sem, pcapNo]) rfl ⟨rfl, 0, rfl⟩

theorem cells_drewN {w : World} {g n : Nat} {x : Nat → Int} (hn : 24 ≤ n) (hc : ∀ j, j < n → w.cell? ⟨g, j, none⟩ = some (.int .u8 (x j))) : ∀ k j, j < 24 → (w.drewN k).cell? ⟨g, j, none⟩ = some (.int .u8 (x j)) :=
  fun k j hj => (by simpa using hc j (by omega))

set_option maxRecDepth 100000 in
set_option maxHeartbeats 400000 in
theorem pcap_none (x : Nat → Int) (g n : Nat) (w : World) (hn : 24 ≤ n) (hx : ∀ j, 0 ≤ x j ∧ x j ≤ 255) (hc : ∀ j, j < n → w.cell? ⟨g, j, none⟩ = some (.int .u8 (x j)))
    (l1 : (le4 x 0 != 2712847316) = true) (l2 : (le4 x 0 != 2712812621) = true) (b1 : (be4 x 0 != 2712847316) = true) (b2 : (be4 x 0 != 2712812621) = true) :
    Calls Tryf.prog 9 #[.slice (some ⟨g, 0, none⟩) n n] w fun e w' => e = .returned pcapNo ∧ ∃ k, w' = w.drewN k := by
  have HC : Hid (∀ k j, j < 24 → (w.drewN k).cell? ⟨g, j, none⟩ = some (.int .u8 (x j))) := cells_drewN hn hc
  have HX : Hid (∀ j, 0 ≤ x j ∧ x j ≤ 255) := hx
  clear hc hx
  go_enter Tryf.func9, Tryf.ntmps9
  go_wp2_with (first
    | (go_at_call 25; refine (le32n x _ _ _ _ _ ?_ HX.out ?_).mono ?_; (· omega); (· intro j h1 h2; first | exact HC.out 0 j (by omega) | exact HC.out _ j (by omega)); rintro e w' ⟨rfl, k1, rfl⟩)
    | (go_at_call 26; refine (be32n x _ _ _ _ _ ?_ HX.out ?_).mono ?_; (· omega); (· intro j h1 h2; exact HC.out _ j (by omega)); rintro e w' ⟨rfl, k2, rfl⟩))
  exact bodyPost_ret (v := pcapNo) (by simp [results, Tryf.results9, go_sem, pcapNo]) rfl ⟨rfl, _, rfl⟩

set_option maxRecDepth 100000 in
set_option maxHeartbeats 400000 in
theorem pcap_le_ok (x : Nat → Int) (nn : Bool) (g n : Nat) (w : World) (hn : 24 ≤ n) (hx : ∀ j, 0 ≤ x j ∧ x j ≤ 255) (hc : ∀ j, j < n → w.cell? ⟨g, j, none⟩ = some (.int .u8 (x j)))
    (hm : (le4 x 0 = 2712847316 ∧ nn = false) ∨ (le4 x 0 = 2712812621 ∧ nn = true)) (v1 : (le2 x 4 != 2) = false) (v2 : (le2 x 6 != 4) = false) :
    Calls Tryf.prog 9 #[.slice (some ⟨g, 0, none⟩) n n] w fun e w' => e = .returned (.tuple #[.bool true, .bool false, .bool nn, .int .u32 (bits .and .u32 (le4 x 20) 67108863)]) ∧ ∃ k, w' = w.drewN k := by
  have HC : Hid (∀ k j, j < 24 → (w.drewN k).cell? ⟨g, j, none⟩ = some (.int .u8 (x j))) := cells_drewN hn hc
  have HX : Hid (∀ j, 0 ≤ x j ∧ x j ≤ 255) := hx
  clear hc hx
  rcases hm with ⟨hm, rfl⟩ | ⟨hm, rfl⟩
  all_goals
    go_enter Tryf.func9, Tryf.ntmps9
    go_wp2_with (first
      | (go_at_call 25; refine (le32n x _ _ _ _ _ ?_ HX.out ?_).mono ?_; (· omega); (· intro j h1 h2; first | exact HC.out 0 j (by omega) | exact HC.out _ j (by omega)); rintro e w' ⟨rfl, k1, rfl⟩)
      | (go_at_call 26; refine (be32n x _ _ _ _ _ ?_ HX.out ?_).mono ?_; (· omega); (· intro j h1 h2; exact HC.out _ j (by omega)); rintro e w' ⟨rfl, k2, rfl⟩)
      | (go_at_call 27; refine (le16n x _ _ _ _ _ ?_ HX.out ?_).mono ?_; (· omega); (· intro j h1 h2; exact HC.out _ j (by omega)); rintro e w' ⟨rfl, k3, rfl⟩)
      | (go_at_call 28; refine (be16n x _ _ _ _ _ ?_ HX.out ?_).mono ?_; (· omega); (· intro j h1 h2; exact HC.out _ j (by omega)); rintro e w' ⟨rfl, k4, rfl⟩))
    refine bodyPost_ret (v := (.tuple #[.bool true, .bool false, .bool _, .int .u32 (bits .and .u32 (le4 x 20) 67108863)])) ?_ rfl ⟨rfl, _, rfl⟩
    simp [results, Tryf.results9, go_sem]

set_option maxRecDepth 100000 in
set_option maxHeartbeats 400000 in
theorem pcap_be_ok (x : Nat → Int) (nn : Bool) (g n : Nat) (w : World) (hn : 24 ≤ n) (hx : ∀ j, 0 ≤ x j ∧ x j ≤ 255) (hc : ∀ j, j < n → w.cell? ⟨g, j, none⟩ = some (.int .u8 (x j)))
    (l1 : (le4 x 0 != 2712847316) = true) (l2 : (le4 x 0 != 2712812621) = true) (hm : (be4 x 0 = 2712847316 ∧ nn = false) ∨ (be4 x 0 = 2712812621 ∧ nn = true)) (v1 : (be2 x 4 != 2) = false) (v2 : (be2 x 6 != 4) = false) :
    Calls Tryf.prog 9 #[.slice (some ⟨g, 0, none⟩) n n] w fun e w' => e = .returned (.tuple #[.bool true, .bool true, .bool nn, .int .u32 (bits .and .u32 (be4 x 20) 67108863)]) ∧ ∃ k, w' = w.drewN k := by
  have HC : Hid (∀ k j, j < 24 → (w.drewN k).cell? ⟨g, j, none⟩ = some (.int .u8 (x j))) := cells_drewN hn hc
  have HX : Hid (∀ j, 0 ≤ x j ∧ x j ≤ 255) := hx
  clear hc hx
  rcases hm with ⟨hm, rfl⟩ | ⟨hm, rfl⟩
  all_goals
    go_enter Tryf.func9, Tryf.ntmps9
    go_wp2_with (first
      | (go_at_call 25; refine (le32n x _ _ _ _ _ ?_ HX.out ?_).mono ?_; (· omega); (· intro j h1 h2; first | exact HC.out 0 j (by omega) | exact HC.out _ j (by omega)); rintro e w' ⟨rfl, k1, rfl⟩)
      | (go_at_call 26; refine (be32n x _ _ _ _ _ ?_ HX.out ?_).mono ?_; (· omega); (· intro j h1 h2; exact HC.out _ j (by omega)); rintro e w' ⟨rfl, k2, rfl⟩)
      | (go_at_call 27; refine (le16n x _ _ _ _ _ ?_ HX.out ?_).mono ?_; (· omega); (· intro j h1 h2; exact HC.out _ j (by omega)); rintro e w' ⟨rfl, k3, rfl⟩)
      | (go_at_call 28; refine (be16n x _ _ _ _ _ ?_ HX.out ?_).mono ?_; (· omega); (· intro j h1 h2; exact HC.out _ j (by omega)); rintro e w' ⟨rfl, k4, rfl⟩))
    refine bodyPost_ret (v := (.tuple #[.bool true, .bool true, .bool _, .int .u32 (bits .and .u32 (be4 x 20) 67108863)])) ?_ rfl ⟨rfl, _, rfl⟩
    simp [results, Tryf.results9, go_sem]

set_option maxRecDepth 100000 in
set_option maxHeartbeats 400000 in
theorem pcap_le_bad (x : Nat → Int) (nn : Bool) (g n : Nat) (w : World) (hn : 24 ≤ n) (hx : ∀ j, 0 ≤ x j ∧ x j ≤ 255) (hc : ∀ j, j < n → w.cell? ⟨g, j, none⟩ = some (.int .u8 (x j)))
    (hm : (le4 x 0 = 2712847316 ∧ nn = false) ∨ (le4 x 0 = 2712812621 ∧ nn = true)) (hv : (le2 x 4 != 2) = true ∨ (le2 x 4 != 2) = false ∧ (le2 x 6 != 4) = true) :
    Calls Tryf.prog 9 #[.slice (some ⟨g, 0, none⟩) n n] w fun e w' => e = .returned pcapNo ∧ ∃ k, w' = w.drewN k := by
  have HC : Hid (∀ k j, j < 24 → (w.drewN k).cell? ⟨g, j, none⟩ = some (.int .u8 (x j))) := cells_drewN hn hc
  have HX : Hid (∀ j, 0 ≤ x j ∧ x j ≤ 255) := hx
  clear hc hx
  rcases hm with ⟨hm, rfl⟩ | ⟨hm, rfl⟩
  all_goals rcases hv with hv | ⟨hv, hv2⟩
  all_goals
    go_enter Tryf.func9, Tryf.ntmps9
    go_wp2_with (first
      | (go_at_call 25; refine (le32n x _ _ _ _ _ ?_ HX.out ?_).mono ?_; (· omega); (· intro j h1 h2; first | exact HC.out 0 j (by omega) | exact HC.out _ j (by omega)); rintro e w' ⟨rfl, k1, rfl⟩)
      | (go_at_call 26; refine (be32n x _ _ _ _ _ ?_ HX.out ?_).mono ?_; (· omega); (· intro j h1 h2; exact HC.out _ j (by omega)); rintro e w' ⟨rfl, k2, rfl⟩)
      | (go_at_call 27; refine (le16n x _ _ _ _ _ ?_ HX.out ?_).mono ?_; (· omega); (· intro j h1 h2; exact HC.out _ j (by omega)); rintro e w' ⟨rfl, k3, rfl⟩)
      | (go_at_call 28; refine (be16n x _ _ _ _ _ ?_ HX.out ?_).mono ?_; (· omega); (· intro j h1 h2; exact HC.out _ j (by omega)); rintro e w' ⟨rfl, k4, rfl⟩))
    refine bodyPost_ret (v := pcapNo) ?_ rfl ⟨rfl, _, rfl⟩
    simp [results, Tryf.results9, go_sem, pcapNo]

set_option maxRecDepth 100000 in
set_option maxHeartbeats 400000 in
theorem pcap_be_bad (x : Nat → Int) (nn : Bool) (g n : Nat) (w : World) (hn : 24 ≤ n) (hx : ∀ j, 0 ≤ x j ∧ x j ≤ 255) (hc : ∀ j, j < n → w.cell? ⟨g, j, none⟩ = some (.int .u8 (x j)))
    (l1 : (le4 x 0 != 2712847316) = true) (l2 : (le4 x 0 != 2712812621) = true) (hm : (be4 x 0 = 2712847316 ∧ nn = false) ∨ (be4 x 0 = 2712812621 ∧ nn = true)) (hv : (be2 x 4 != 2) = true ∨ (be2 x 4 != 2) = false ∧ (be2 x 6 != 4) = true) :
    Calls Tryf.prog 9 #[.slice (some ⟨g, 0, none⟩) n n] w fun e w' => e = .returned pcapNo ∧ ∃ k, w' = w.drewN k := by
  have HC : Hid (∀ k j, j < 24 → (w.drewN k).cell? ⟨g, j, none⟩ = some (.int .u8 (x j))) := cells_drewN hn hc
  have HX : Hid (∀ j, 0 ≤ x j ∧ x j ≤ 255) := hx
  clear hc hx
  rcases hm with ⟨hm, rfl⟩ | ⟨hm, rfl⟩
  all_goals rcases hv with hv | ⟨hv, hv2⟩
  all_goals
    go_enter Tryf.func9, Tryf.ntmps9
    go_wp2_with (first
      | (go_at_call 25; refine (le32n x _ _ _ _ _ ?_ HX.out ?_).mono ?_; (· omega); (· intro j h1 h2; first | exact HC.out 0 j (by omega) | exact HC.out _ j (by omega)); rintro e w' ⟨rfl, k1, rfl⟩)
      | (go_at_call 26; refine (be32n x _ _ _ _ _ ?_ HX.out ?_).mono ?_; (· omega); (· intro j h1 h2; exact HC.out _ j (by omega)); rintro e w' ⟨rfl, k2, rfl⟩)
      | (go_at_call 27; refine (le16n x _ _ _ _ _ ?_ HX.out ?_).mono ?_; (· omega); (· intro j h1 h2; exact HC.out _ j (by omega)); rintro e w' ⟨rfl, k3, rfl⟩)
      | (go_at_call 28; refine (be16n x _ _ _ _ _ ?_ HX.out ?_).mono ?_; (· omega); (· intro j h1 h2; exact HC.out _ j (by omega)); rintro e w' ⟨rfl, k4, rfl⟩))
    refine bodyPost_ret (v := pcapNo) ?_ rfl ⟨rfl, _, rfl⟩
    simp [results, Tryf.results9, go_sem, pcapNo]

end Go.Proofs.Qxb6616658aFmt
