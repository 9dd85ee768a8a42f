/-
  WALKS: ZZRoll, ZZNewScanner, cloneInts, zzBytes of the roll law.
-/
import Derived.Test.Qxb6601781aRoll
namespace Go.Proofs.Qxb6601781a
open Go.RowKit Kit

theorem roll_keep (S : Nat) (ind col kind line : Int) (vt vi : Value) (w : World) (hS : w.heap[S]? = some (.cells (scanCells vt vi ind) 54 (0, 0))) (hge : ¬ ind < col) :
    Calls Try.prog 23 #[.pointer (some ⟨S, 0, none⟩), .int .i64 col, .int .i64 (-1), .int .u8 kind, .int .i64 line] w fun e w' => e = .returned (.tuple #[]) ∧ w' = w := by
  have c8 : w.cell? ⟨S, 8, none⟩ = some (.int .i64 ind) := by simp [World.cell?, hS, scanCells]
  have c10 : w.cell? ⟨S, 10, none⟩ = some (.int .i64 0) := by simp [World.cell?, hS, scanCells]
  clear hS
  go_enter Try.func23, Try.ntmps23
  go_wp2
  refine bodyPost_ret (results_none rfl _ _ _) rfl ?_
  exact ⟨rfl, rfl⟩

/-- ZZRoll, either way. -/
theorem zzroll_any (B S : Nat) (ind col kind line : Int) (is ls : List Int) (w : World) (h : Scan w B S ind is kind ls) (hn : is.length ≤ 1048576) (hm : ls.length ≤ 1048576) (hB : B ≤ S) :
    Calls Try.prog 17 #[.pointer (some ⟨S, 0, none⟩), .int .i64 col, .int .i64 (-1), .int .u8 kind, .int .i64 line] w fun e w' => e = .returned (.tuple #[]) ∧
      (if ind < col then Scan w' B S col (is ++ [ind]) kind (ls ++ [line]) else Scan w' B S ind is kind ls) ∧ Below B w w' := by
  obtain ⟨vt, vi, hS, hoi, hot⟩ := h
  by_cases hlt : ind < col
  · simp only [if_pos hlt]
    go_enter Try.func17, Try.ntmps17
    go_wp2_with (go_at_call 23; refine (roll_push B S ind col kind line _ _ _ _ vt vi w hS hoi hot hlt hn hm hB).mono ?_; rintro e w' ⟨rfl, ⟨vt', vi', q1, q2, q3⟩, q4⟩)
    go_end0
    exact ⟨rfl, ⟨vt', vi', q1, by simpa using q2, by simpa using q3⟩, q4⟩
  · simp only [if_neg hlt]
    go_enter Try.func17, Try.ntmps17
    go_wp2_with (go_at_call 23; refine (roll_keep S ind col kind line vt vi w hS hlt).mono ?_; rintro e w' ⟨rfl, rfl⟩)
    go_end0
    exact ⟨rfl, ⟨vt, vi, hS, hoi, hot⟩, Below.refl _ _⟩

set_option maxHeartbeats 400000 in
theorem newScanner (kind : Int) (w : World) : Calls Try.prog 16 #[.int .i64 0, .int .i64 (-1), .slice none 0 0, .int .i64 0, .int .i64 0, .slice none 0 0, .slice none 0 0, .slice none 0 0] w fun e w' =>
    ∃ S, e = .returned (.pointer (some ⟨S, 0, none⟩)) ∧ Scan w' w.heap.size S (-1) [] kind [] ∧ w.heap.size ≤ S ∧ Below w.heap.size w w' := by
  obtain ⟨i51, hi51, hz0, hz1, hz2⟩ := info_parts Try.info51
  go_enter Try.func16, Try.ntmps16
  go_wp2_with (at_make; refine wpList_make_full _ rfl _ _ 48 rfl w.heap.size 51 i51 tokZero 6 Try.underlying48 hi51 hz0 hz1 .i64 .i64 0 0 0 rfl rfl rfl rfl (by omega) (by unfold maxLen; omega) (by omega) ?_; intro w1 hown1 hgrow1)
  refine wp_loop_rounds 1 ?_
  rw [rounds_succ]
  go_wp2
  go_ret
  refine ⟨_, rfl, ⟨_, _, heap_alloc_new w1 _, World.ownsRow_nil _ _ _ _, ?_⟩, hgrow1.size, ((Below.refl _ _).grown hgrow1 (Nat.le_refl _) (fun k hk => by cases hk)).alloc hgrow1.size _⟩
  exact (by simpa [madeCells] using hown1.alloc _)

theorem cloneI_nil (n c : Nat) (w : World) : Calls Try.prog 14 #[.slice none n c] w fun e w' => e = .returned (.slice none 0 0) ∧ w' = w := by
  have hq := fun W => Lib.run_eql_slice_nil (P := Try.prog) W 29 3 none n c 0 0 Try.underlying29
  go_enter Try.func14, Try.ntmps14
  go_wp2
  go_ret
  exact ⟨rfl, rfl⟩

theorem cloneI_some (x : Addr) (xs : List Value) (cap : Nat) (w : World) (hlen : xs.length ≤ 1048576) (h1 : ∀ u ∈ xs, u.oneCell' = true)
    (hc : ∀ i u, xs[i]? = some u → w.cell? (x.add i) = some u) :
    Calls Try.prog 14 #[.slice (some x) xs.length cap] w fun e w' => e = .returned (.slice (some ⟨w.heap.size, 0, none⟩) xs.length xs.length) ∧ w' = w.alloc (.cells xs.toArray 3) := by
  have hq := fun W => Lib.run_eql_slice_nil (P := Try.prog) W 29 3 (some x) xs.length cap 0 0 Try.underlying29
  have hmk := run_make_row' (P := Try.prog) 29 3 (.int .i64 0) 8 Try.underlying29 Try.info3 rfl .i64 .i64 xs.length (by omega) (by omega)
  obtain ⟨n, hn⟩ : ∃ n, n = xs.length := ⟨_, rfl⟩
  rw [← hn] at hmk hq ⊢
  have HN := hide hn
  have HC := hide hc
  have H1 := hide h1
  clear hn hc h1
  go_enter Try.func14, Try.ntmps14
  go_wp2_with (refine wpList_copy_clone rfl _ _ 29 29 rfl 3 Try.underlying29 Try.size3 n x cap xs _ rfl rfl HN.out (size_madeCells _ _) HC.out H1.out ?_)
  go_ret
  exact ⟨rfl, rfl⟩

theorem cloneI_any (v : Value) (xs : List Value) (w : World) (h : Sl w v xs) (hlen : xs.length ≤ 1048576) (h1 : ∀ u ∈ xs, u.oneCell' = true) :
    Calls Try.prog 14 #[v] w fun e w' => ∃ v', e = .returned v' ∧ w'.ownsRow w.heap.size 3 1 v' xs.length xs ∧ Below w.heap.size w w' := by
  obtain ⟨a, cap, rfl, hc, hm, hn, hcell⟩ := h
  cases a with
  | none =>
    obtain ⟨rfl, rfl⟩ := hn rfl
    refine (cloneI_nil _ _ w).mono fun e w' ⟨he, hw⟩ => ⟨_, he, ?_, ?_⟩
    · exact World.ownsRow_nil _ _ _ _
    · subst hw; exact Below.refl _ _
  | some x =>
    refine (cloneI_some x xs cap w (by omega) h1 (hcell x rfl)).mono fun e w' ⟨he, hw⟩ => ⟨_, he, ?_, ?_⟩
    · subst hw; exact owns_made w xs 3 (by omega)
    · subst hw; exact (Below.refl _ _).alloc (Nat.le_refl _) _

theorem zzR_any (a0 : Option Addr) (n0 c0 : Nat) (k : Int) (w : World) (h0 : n0 ≤ 9223372036854775807) :
    Calls Try.prog 20 #[.slice a0 n0 c0, .int .u8 k] w fun e w' => e = .returned (.bool (decide (n0 ≤ 1048576))) ∧ w' = w := by
  by_cases g0 : n0 ≤ 1048576
  · go_enter Try.func20, Try.ntmps20
    go_wp2
    go_ret
    exact ⟨ret_bool (by simp; omega), rfl⟩
  · go_enter Try.func20, Try.ntmps20
    go_wp2
    go_ret
    exact ⟨ret_bool (by simp; omega), rfl⟩

end Go.Proofs.Qxb6601781a
