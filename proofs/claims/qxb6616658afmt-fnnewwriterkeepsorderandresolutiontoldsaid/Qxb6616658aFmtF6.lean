import Derived.Test.Qxb6616658aFmtWrf
import Derived.Test.Qxb6616658aFmtWrb
import Derived.Test.Qxb6616658aFmtWrc
import Derived.Test.Qxb6616658aFmtWrd
namespace Go.Proofs.Qxb6616658aFmt
open Go.RowKit Go.Extern.Stop Go.Stop Go.Extern

set_option maxRecDepth 100000 in
set_option maxHeartbeats 400000 in
theorem newwriter2 (x : Nat → Int) (ord : Value) (nn : Bool) (B b : Nat) (w : World) (h : Lib.IsBuffer 71 5 B b [] w) :
    Calls Tryf.prog 32 #[.iface 45 (.pointer (some ⟨b, 0, none⟩)), .agg (hdrA x ord nn)] w fun e w' => ∃ N, e = .returned (.tuple #[.pointer (some ⟨N, 0, none⟩), .nilIface]) ∧ Below B w w' ∧ Lib.IsBuffer 71 5 B b (rawL x) w' ∧ b < N ∧
      w'.heap[N]? = some (.cells (wrA (.iface 45 (.pointer (some ⟨b, 0, none⟩))) x ord nn) 78 (0, 0)) := by
  have hm := Tryf.mWrite
  have hna := Tryf.nWrite
  have hbs : b < w.heap.size := h.lt
  have hBb : B ≤ b := h.1
  have HC : Hid (Calls Tryf.prog 65 #[.pointer (some ⟨b, 0, none⟩), .slice (some ⟨w.heap.size, 0, none⟩) 24 24] (w.alloc (.cells (hdrA x ord nn) 37)).drew fun e w' => e = .returned (.tuple #[.int .i64 24, .nilIface]) ∧ Hid (Lib.IsBuffer 71 5 B b (rawL x) w' ∧ Below B w w' ∧ w'.heap[w.heap.size]? = some (.cells (hdrA x ord nn) 37 (0, 0)))) :=
    (Tryf.Buffer_Write_any B b [] (rawL x) ⟨w.heap.size, 0, none⟩ 24 24 (w.alloc (.cells (hdrA x ord nn) 37)).drew (h.alloc _) (by simp; omega) (fun v hv => by cases hv) (rawL_len x) (by show w.heap.size ≠ b; omega) (fun j v hv => by
        obtain ⟨hj, rfl⟩ := rawL_get x j v hv
        have hadd : (⟨w.heap.size, 0, none⟩ : Addr).add j = ⟨w.heap.size, j, none⟩ := by unfold Addr.add; split <;> simp_all
        rw [hadd]
        show (w.alloc (.cells (hdrA x ord nn) 37)).cell? ⟨w.heap.size, j, none⟩ = _
        rw [cell_of_row _ _ _ _ _ _ (heap_alloc_new w _)]
        exact hdrA_get x ord nn j hj) (rawL_one x) (by simp)).mono fun e w' ⟨he, h1, h2, h3⟩ =>
      ⟨he, h1, (((Below.refl B w).alloc (by omega) _).drew).trans h2, h3 w.heap.size _ (heap_alloc_new w _) (by simp; omega) (fun c fz e => by cases e)⟩
  clear h
  go_enter Tryf.func32, Tryf.ntmps32
  go_wp2
  go_region_with (go_at_call 65; refine HC.out.mono ?_; rintro e w1 ⟨rfl, HW⟩)
  all_goals
    go_wp2_with (guard_target = wpList _ _ _ _ _ _; first
      | (refine wpList_load_row rfl 37 _ rfl w.heap.size rfl 37 (hdrA x ord nn) (0, 0) _ HW.out.2.2 Tryf.underlying37 rfl (by rw [hdrA_size]; exact Tryf.info37) ?_)
      | (refine wpList_build_eq rfl 78 #[(0, .tmp 21), (1, .tmp 22)] rfl [(0, .iface 45 (.pointer (some ⟨b, 0, none⟩))), (1, .agg (hdrA x ord nn))] (wrA (.iface 45 (.pointer (some ⟨b, 0, none⟩))) x ord nn) (built78 _ x ord nn) (by kernel_rfl) ?_))
    go_ret2
    obtain ⟨h1, h2, h3⟩ := HW
    have hs := h2.size
    exact ⟨_, rfl, h2.alloc (by omega) _, h1.alloc _, by omega, heap_at _ _ _ rfl⟩

set_option maxRecDepth 100000 in
set_option maxHeartbeats 400000 in
theorem newwriteron2 (x : Nat → Int) (ord : Value) (nn : Bool) (w : World) :
    Calls Tryf.prog 19 #[.agg (hdrA x ord nn)] w fun e w' => ∃ N b, e = .returned (.tuple #[.pointer (some ⟨N, 0, none⟩), .pointer (some ⟨b, 0, none⟩), .nilIface]) ∧ Below w.heap.size w w' ∧ w.heap.size < b ∧ Lib.IsBuffer 71 5 b b (rawL x) w' ∧ b < N ∧
      w'.heap[N]? = some (.cells (wrA (.iface 45 (.pointer (some ⟨b, 0, none⟩))) x ord nn) 78 (0, 0)) := by
  have HC := mkHid (newwriter2 x ord nn (w.heap.size + 1) (w.heap.size + 1) ((w.alloc (.cells (hdrA x ord nn) 37)).alloc (.cells #[.slice none 0 0, .int .i64 0, .int .i8 0] 71)) (by simpa using Lib.fresh_isBuffer 71 5 (w.alloc (.cells (hdrA x ord nn) 37))))
  go_enter Tryf.func19, Tryf.ntmps19
  go_wp2_with (first
    | (guard_target = wpList _ _ _ _ _ _; refine wpList_load_row rfl 37 _ rfl w.heap.size rfl 37 (hdrA x ord nn) (0, 0) _ (heap_alloc2_old w _ _) Tryf.underlying37 rfl (by rw [hdrA_size]; exact Tryf.info37) ?_)
    | (go_at_call 32; refine HC.out.mono ?_; rintro e w1 ⟨N, rfl, HW⟩; have HW := mkHid HW))
  go_ret3
  obtain ⟨h1, h2, h3, h4⟩ := HW
  refine ⟨N, w.heap.size + 1, rfl, ?_, by omega, h2, h3, h4⟩
  exact (((Below.refl w.heap.size w).alloc (Nat.le_refl _) _).alloc (by simp) _).trans (h1.mono (by omega))


/-- The order that a header's magic names. -/
def ordOf (big : Bool) : Value := if big = true then .iface 102 (.agg #[]) else .iface 100 (.agg #[])
def fracOf (nn : Bool) (nsec : Int) : Int := (if nn = true then nsec else nsec / 1000) % 4294967296
theorem write22 (big nn : Bool) (sec nsec orig : Int) (sd : Option Addr) (nd : Nat) (ds : List Value) (x : Nat → Int) (T N b : Nat) (w : World) (hs0 : 0 ≤ sec) (hs1 : sec ≤ 4294967295) (ho0 : 0 ≤ orig) (ho1 : orig ≤ 4294967295) (hn0 : 0 ≤ nsec) (hn1 : nsec ≤ 18446744073709551615)
    (hnd : nd ≤ 1048576) (hTN : T ≤ N) (hTb : T ≤ b) (h : Lib.IsBuffer 71 5 b b (rawL x) w) (hne : b ≠ N) (hD : DataIn T b sd nd ds w)
    (hN : w.heap[N]? = some (.cells (wrB (.iface 45 (.pointer (some ⟨b, 0, none⟩))) x (ordOf big) nn (fun _ => 0)) 78 (0, 0))) :
    Calls Tryf.prog 22 #[.pointer (some ⟨N, 0, none⟩), .agg #[.int .u32 sec, .int .u64 nsec, .int .u32 orig, .slice sd nd nd, .int .u32 0, .pointer none]] w fun e w' => e = .returned .nilIface ∧ Lib.IsBuffer 71 5 b b (rawL x ++ tailL (recH big sec (fracOf nn nsec) nd orig) ++ ds) w' ∧ Below T w w' := by
  cases big <;> cases nn
  · exact write22_le0 sec nsec orig sd nd ds x T N b w hs0 hs1 ho0 ho1 hn0 hn1 hnd hTN hTb h hne hD hN
  · exact write22_le1 sec nsec orig sd nd ds x T N b w hs0 hs1 ho0 ho1 hn0 hn1 hnd hTN hTb h hne hD hN
  · exact write22_be0 sec nsec orig sd nd ds x T N b w hs0 hs1 ho0 ho1 hn0 hn1 hnd hTN hTb h hne hD hN
  · exact write22_be1 sec nsec orig sd nd ds x T N b w hs0 hs1 ho0 ho1 hn0 hn1 hnd hTN hTb h hne hD hN

set_option maxRecDepth 100000 in
set_option maxHeartbeats 400000 in
theorem bytes21_any (a1 a2 : Option Addr) (n c nd cd : Nat) (v1 v2 v3 : Value) (w : World) (hn : n + nd ≤ 1048576) :
    Calls Tryf.prog 21 #[.slice a1 n c, v1, v2, v3, .slice a2 nd cd] w fun e w' => e = .returned (.bool true) ∧ w' = w := by
  go_enter Tryf.func21, Tryf.ntmps21
  go_wp2
  go_ret
  exact ⟨rfl, rfl⟩

set_option maxRecDepth 100000 in
set_option maxHeartbeats 400000 in
theorem f6_long (a1 a2 : Option Addr) (n c nd cd : Nat) (sec nsec orig : Int) (w : World) (hm1 : n ≤ maxLen) (hm2 : nd ≤ maxLen) (hn : 1048576 < n + nd) :
    Calls Tryf.prog 6 #[.slice a1 n c, .int .u32 sec, .int .u64 nsec, .int .u32 orig, .slice a2 nd cd] w fun e w' => e = .returned (.bool true) ∧ Below w.heap.size w w' := by
  unfold maxLen at hm1 hm2
  go_enter Tryf.func6, Tryf.ntmps6
  go_wp2
  all_goals
    first
      | (go_ret; exact ⟨rfl, Below.refl _ _⟩)
      | (exfalso; omega)

set_option maxRecDepth 100000 in
set_option maxHeartbeats 400000 in
theorem f6_refused (s0 s sd0 sd : Option Addr) (n c nd cd : Nat) (sec nsec orig : Int) (w w1 w2 : World) (hn : n + nd ≤ 1048576) (hb1 : Below w.heap.size w w1) (hb2 : Below w1.heap.size w1 w2)
    (h8 : Calls Tryf.prog 8 #[.slice s0 n c] w fun e w' => e = .returned (.slice s n n) ∧ w1 = w')
    (h8d : Calls Tryf.prog 8 #[.slice sd0 nd cd] w1 fun e w' => e = .returned (.slice sd nd nd) ∧ w2 = w')
    (h9 : Calls Tryf.prog 9 #[.slice s n n] w2 fun e w' => e = .returned pcapNo ∧ ∃ k, w' = w2.drewN k)
    (h10 : ∀ k, Refused s n (w2.drewN k)) :
    Calls Tryf.prog 6 #[.slice s0 n c, .int .u32 sec, .int .u64 nsec, .int .u32 orig, .slice sd0 nd cd] w fun e w' => e = .returned (.bool true) ∧ Below w.heap.size w w' := by
  have H8 := mkHid h8
  have H8d := mkHid h8d
  have H9 := mkHid h9
  have H10 := mkHid h10
  clear h8 h8d h9 h10
  go_enter Tryf.func6, Tryf.ntmps6
  go_wp2_with (first
    | (go_at_call 21; refine (bytes21_any _ _ _ _ _ _ _ _ _ _ hn).mono ?_; rintro e w' ⟨rfl, rfl⟩)
    | (go_at_call 8; have _t := HT; refine H8d.out.mono ?_; rintro e w' ⟨rfl, rfl⟩)
    | (go_at_call 8; refine H8.out.mono ?_; rintro e w' ⟨rfl, rfl⟩; have HT := mkHid trivial)
    | (go_at_call 9; refine H9.out.mono ?_; rintro e w' ⟨rfl, k, rfl⟩; unfold pcapNo)
    | (go_at_call 10; refine (H10.out k).mono ?_; rintro e w3 ⟨v1, v2, rfl, rfl, a, rfl, hb⟩; have HB := mkHid hb; clear hb))
  go_ret
  exact ⟨rfl, (below_drewN (hb1.trans (hb2.mono hb1.size)) k).trans (HB.out.mono (Nat.le_trans hb1.size hb2.size))⟩
end Go.Proofs.Qxb6616658aFmt
