/-
  WALK: ZZScannerState.
-/
import Derived.Test.Qxb6601781aScan
namespace Go.Proofs.Qxb6601781a
open Go.RowKit Kit

theorem Try.info5' : (Try.prog.info? 5).map (fun i => (i.zero, i.size, i.bytes)) = some (some (.int .u8 0), 1, 1) := by kernel_rfl
theorem Try.info9 : (Try.prog.info? 9).map (fun i => (i.zero, i.size, i.bytes)) = some (some (.string ⟨#[]⟩), 1, 16) := by kernel_rfl

/-- The six rows after k rounds. -/
structure Rows6 (w : World) (H n : Nat) (kind : Int) (ls : List Int) (k : Nat) : Prop where
  r0 : w.rowIs H 5 n (fun j => if j < k then .int .u8 kind else .int .u8 0)
  r1 : w.rowIs (H + 1) 5 n (fun _ => .int .u8 0)
  r2 : w.rowIs (H + 2) 3 n (fun j => if j < k then .int .i64 (ls.getD j 0) else .int .i64 0)
  r3 : w.rowIs (H + 3) 9 n (fun _ => .string ⟨#[]⟩)
  r4 : w.rowIs (H + 4) 9 n (fun _ => .string ⟨#[]⟩)
  r5 : w.rowIs (H + 5) 3 n (fun _ => .int .i64 0)

theorem Rows6.drewN {w : World} {H n : Nat} {kind : Int} {ls : List Int} {k : Nat} (h : Rows6 w H n kind ls k) (m : Nat) : Rows6 (w.drewN m) H n kind ls k := ⟨h.r0, h.r1, h.r2, h.r3, h.r4, h.r5⟩

theorem rows6_step {w : World} {H n : Nat} {kind : Int} {ls : List Int} {k : Nat} (h : Rows6 w H n kind ls k) :
    Rows6 ((((((w.setCell ⟨H, k, none⟩ (.int .u8 kind)).setCell ⟨H + 1, k, none⟩ (.int .u8 0)).setCell ⟨H + 2, k, none⟩ (.int .i64 (ls[k]?.getD 0))).setCell ⟨H + 3, k, none⟩ (.string ⟨#[]⟩)).setCell ⟨H + 4, k, none⟩ (.string ⟨#[]⟩)).setCell ⟨H + 5, k, none⟩ (.int .i64 0)) H n kind ls (k + 1) := by
  obtain ⟨r0, r1, r2, r3, r4, r5⟩ := h
  refine ⟨?_, ?_, ?_, ?_, ?_, ?_⟩
  · refine ((((((r0.set k _).setOther (by simp) _).setOther (by simp) _).setOther (by simp) _).setOther (by simp) _).setOther (by simp) _).congr fun i _ => ?_
    by_cases h1 : i = k
    · simp [h1]
    · by_cases h2 : i < k
      · simp [h1, h2, show i < k + 1 by omega]
      · simp [h1, h2, show ¬ i < k + 1 by omega]
  · refine (((((((r1.setOther (by simp) _).set k _).setOther (by simp) _).setOther (by simp) _).setOther (by simp) _).setOther (by simp) _)).congr fun i _ => ?_
    simp
  · refine (((((((r2.setOther (by simp) _).setOther (by simp) _).set k _).setOther (by simp) _).setOther (by simp) _).setOther (by simp) _)).congr fun i _ => ?_
    by_cases h1 : i = k
    · simp [h1]
    · by_cases h2 : i < k
      · simp [h1, h2, show i < k + 1 by omega]
      · simp [h1, h2, show ¬ i < k + 1 by omega]
  · refine (((((((r3.setOther (by simp) _).setOther (by simp) _).setOther (by simp) _).set k _).setOther (by simp) _).setOther (by simp) _)).congr fun i _ => ?_
    simp
  · refine (((((((r4.setOther (by simp) _).setOther (by simp) _).setOther (by simp) _).setOther (by simp) _).set k _).setOther (by simp) _)).congr fun i _ => ?_
    simp
  · refine (((((((r5.setOther (by simp) _).setOther (by simp) _).setOther (by simp) _).setOther (by simp) _).setOther (by simp) _).set k _)).congr fun i _ => ?_
    simp

theorem rows6_start (w : World) (n : Nat) (kind : Int) (ls : List Int) :
    Rows6 ((((((w.alloc (.cells (madeCells #[.int .u8 0] n) 5)).alloc (.cells (madeCells #[.int .u8 0] n) 5)).alloc (.cells (madeCells #[.int .i64 0] n) 3)).alloc (.cells (madeCells #[.string ⟨#[]⟩] n) 9)).alloc (.cells (madeCells #[.string ⟨#[]⟩] n) 9)).alloc (.cells (madeCells #[.int .i64 0] n) 3)) w.heap.size n kind ls 0 := by
  refine ⟨?_, ?_, ?_, ?_, ?_, ?_⟩
  · exact ((((((World.rowIs_made w _ n 5).alloc _).alloc _).alloc _).alloc _).alloc _).congr fun i _ => by simp
  · have := (((((World.rowIs_made (w.alloc (.cells (madeCells #[.int .u8 0] n) 5)) (.int .u8 0) n 5).alloc (.cells (madeCells #[.int .i64 0] n) 3)).alloc (.cells (madeCells #[.string ⟨#[]⟩] n) 9)).alloc (.cells (madeCells #[.string ⟨#[]⟩] n) 9)).alloc (.cells (madeCells #[.int .i64 0] n) 3))
    simpa using this
  · have := ((((World.rowIs_made ((w.alloc (.cells (madeCells #[.int .u8 0] n) 5)).alloc (.cells (madeCells #[.int .u8 0] n) 5)) (.int .i64 0) n 3).alloc (.cells (madeCells #[.string ⟨#[]⟩] n) 9)).alloc (.cells (madeCells #[.string ⟨#[]⟩] n) 9)).alloc (.cells (madeCells #[.int .i64 0] n) 3))
    simp only [World.size_alloc] at this
    exact this.congr fun i _ => by simp
  · have := (((World.rowIs_made (((w.alloc (.cells (madeCells #[.int .u8 0] n) 5)).alloc (.cells (madeCells #[.int .u8 0] n) 5)).alloc (.cells (madeCells #[.int .i64 0] n) 3)) (.string ⟨#[]⟩) n 9).alloc (.cells (madeCells #[.string ⟨#[]⟩] n) 9)).alloc (.cells (madeCells #[.int .i64 0] n) 3))
    simpa using this
  · have := ((World.rowIs_made ((((w.alloc (.cells (madeCells #[.int .u8 0] n) 5)).alloc (.cells (madeCells #[.int .u8 0] n) 5)).alloc (.cells (madeCells #[.int .i64 0] n) 3)).alloc (.cells (madeCells #[.string ⟨#[]⟩] n) 9)) (.string ⟨#[]⟩) n 9).alloc (.cells (madeCells #[.int .i64 0] n) 3))
    simpa using this
  · have := (World.rowIs_made (((((w.alloc (.cells (madeCells #[.int .u8 0] n) 5)).alloc (.cells (madeCells #[.int .u8 0] n) 5)).alloc (.cells (madeCells #[.int .i64 0] n) 3)).alloc (.cells (madeCells #[.string ⟨#[]⟩] n) 9)).alloc (.cells (madeCells #[.string ⟨#[]⟩] n) 9)) (.int .i64 0) n 3)
    simpa using this

theorem below6_start (w : World) (o0 o1 o2 o3 o4 o5 : Obj) : Below w.heap.size w ((((((w.alloc o0).alloc o1).alloc o2).alloc o3).alloc o4).alloc o5) :=
  ((((((Below.refl _ _).alloc (Nat.le_refl _) _).alloc (by simp) _).alloc (by simp; omega) _).alloc (by simp; omega) _).alloc (by simp; omega) _).alloc (by simp; omega) _

theorem below6_step {w wr : World} {k : Nat} (h : Below w.heap.size w wr) (v0 v1 v2 v3 v4 v5 : Value) :
    Below w.heap.size w ((((((wr.setCell ⟨w.heap.size, k, none⟩ v0).setCell ⟨w.heap.size + 1, k, none⟩ v1).setCell ⟨w.heap.size + 2, k, none⟩ v2).setCell ⟨w.heap.size + 3, k, none⟩ v3).setCell ⟨w.heap.size + 4, k, none⟩ v4).setCell ⟨w.heap.size + 5, k, none⟩ v5) :=
  (((((h.setCell (by simp) _).setCell (by simp) _).setCell (by simp) _).setCell (by simp) _).setCell (by simp) _).setCell (by simp) _

set_option maxRecDepth 100000 in
set_option maxHeartbeats 1600000 in
theorem state_any (S : Nat) (ind kind : Int) (n : Nat) (vi : Value) (a : Option Addr) (cap g : Nat) (ls : List Int) (w : World)
    (hS : w.heap[S]? = some (.cells (scanCells (.slice a n cap) vi ind) 54 (0, 0))) (hn : n ≤ 1048576) (ha : 0 < n → a = some ⟨g, 0, none⟩)
    (hc : ∀ j, j < n → w.cell? ⟨g, j * 6, none⟩ = some (.int .u8 kind) ∧ w.cell? ⟨g, j * 6 + 1, none⟩ = some (.int .u8 0) ∧ w.cell? ⟨g, j * 6 + 2, none⟩ = some (.int .i64 (ls.getD j 0)) ∧
      w.cell? ⟨g, j * 6 + 3, none⟩ = some (.string ⟨#[]⟩) ∧ w.cell? ⟨g, j * 6 + 4, none⟩ = some (.string ⟨#[]⟩) ∧ w.cell? ⟨g, j * 6 + 5, none⟩ = some (.int .i64 0)) :
    Calls Try.prog 18 #[.pointer (some ⟨S, 0, none⟩)] w fun e w' => e = .returned (.tuple #[.int .i64 0, .int .i64 ind, vi, .int .i64 0, .int .i64 0,
      .slice (some ⟨w.heap.size, 0, none⟩) n n, .slice (some ⟨w.heap.size + 1, 0, none⟩) n n, .slice (some ⟨w.heap.size + 2, 0, none⟩) n n, .slice (some ⟨w.heap.size + 3, 0, none⟩) n n,
      .slice (some ⟨w.heap.size + 4, 0, none⟩) n n, .slice (some ⟨w.heap.size + 5, 0, none⟩) n n]) ∧ Rows6 w' w.heap.size n kind ls n ∧ Below w.heap.size w w' := by
  have hSlt := lt_of_block hS
  have c4 : w.cell? ⟨S, 4, none⟩ = some (.slice a n cap) := by simp [World.cell?, hS, scanCells]
  have c5 : w.cell? ⟨S, 5, none⟩ = some (.int .i64 0) := by simp [World.cell?, hS, scanCells]
  have c6 : w.cell? ⟨S, 6, none⟩ = some (.int .i64 0) := by simp [World.cell?, hS, scanCells]
  have c8 : w.cell? ⟨S, 8, none⟩ = some (.int .i64 ind) := by simp [World.cell?, hS, scanCells]
  have c9 : w.cell? ⟨S, 9, none⟩ = some vi := by simp [World.cell?, hS, scanCells]
  have c10 : w.cell? ⟨S, 10, none⟩ = some (.int .i64 0) := by simp [World.cell?, hS, scanCells]
  have HA := hide ha
  have HC := hide hc
  clear hS ha hc
  have mk5 := run_make_row' (P := Try.prog) 22 5 (.int .u8 0) 1 Try.underlying22 Try.info5' rfl .i64 .i64 n (by omega) (by omega)
  have mk3 := run_make_row' (P := Try.prog) 29 3 (.int .i64 0) 8 Try.underlying29 Try.info3 rfl .i64 .i64 n (by omega) (by omega)
  have mk9 := run_make_row' (P := Try.prog) 30 9 (.string ⟨#[]⟩) 16 Try.underlying30 Try.info9 rfl .i64 .i64 n (by omega) (by omega)
  go_enter Try.func18, Try.ntmps18
  go_wp2
  go_loopw [20] (fun i wr => ∃ k : Nat, k ≤ n ∧ i = .int .i64 k ∧ Rows6 wr w.heap.size n kind ls k ∧ Below w.heap.size w wr) (fun i _ => n - (intOf i).toNat)
  case atStart =>
    exact ⟨0, Nat.zero_le _, rfl, rows6_start w n kind ls, below6_start w _ _ _ _ _ _⟩
  case round =>
    obtain ⟨k, hk, rfl, hR, hb⟩ := hrel
    by_cases hlt : k < n
    · obtain rfl := HA.out (by omega)
      obtain ⟨q0, q1, q2, q3, q4, q5⟩ := HC.out k hlt
      have e4 := (hb.cell (p := ⟨S, 4, none⟩) hSlt).trans c4
      have hglt := World.block_lt_of_cell? w _ q0
      have p0 := (hb.cell (p := ⟨g, k * 6, none⟩) hglt).trans q0
      have p1 := (hb.cell (p := ⟨g, k * 6 + 1, none⟩) hglt).trans q1
      have p2 := (hb.cell (p := ⟨g, k * 6 + 2, none⟩) hglt).trans q2
      have p3 := (hb.cell (p := ⟨g, k * 6 + 3, none⟩) hglt).trans q3
      have p4 := (hb.cell (p := ⟨g, k * 6 + 4, none⟩) hglt).trans q4
      have p5 := (hb.cell (p := ⟨g, k * 6 + 5, none⟩) hglt).trans q5
      have f0 := hR.r0.frozen k
      have f1 := hR.r1.frozen k
      have f2 := hR.r2.frozen k
      have f3 := hR.r3.frozen k
      have f4 := hR.r4.frozen k
      have f5 := hR.r5.frozen k
      have o0 := hR.r0.cell hlt
      have o1 := hR.r1.cell hlt
      have o2 := hR.r2.cell hlt
      have o3 := hR.r3.cell hlt
      have o4 := hR.r4.cell hlt
      have o5 := hR.r5.cell hlt
      rw [if_neg (by omega)] at o0 o2
      clear q0 q1 q2 q3 q4 q5
      go_wp2
      go_roundw
      case rel => exact ⟨k + 1, by omega, by go_num, rows6_step hR, below6_step hb _ _ _ _ _ _⟩
      case measure => simp [intOf]; omega
    · have ek : k = n := by omega
      subst ek
      have e4 := (hb.cell (p := ⟨S, 4, none⟩) hSlt).trans c4
      have e5 := (hb.cell (p := ⟨S, 5, none⟩) hSlt).trans c5
      have e6 := (hb.cell (p := ⟨S, 6, none⟩) hSlt).trans c6
      have e8 := (hb.cell (p := ⟨S, 8, none⟩) hSlt).trans c8
      have e9 := (hb.cell (p := ⟨S, 9, none⟩) hSlt).trans c9
      have e10 := (hb.cell (p := ⟨S, 10, none⟩) hSlt).trans c10
      clear c4 c5 c6 c8 c9 c10
      go_wp2
      go_quiet (fail)
      go_wp2
      exact bodyPost_ret (v := .tuple #[.int .i64 0, .int .i64 ind, vi, .int .i64 0, .int .i64 0, .slice (some ⟨w.heap.size, 0, none⟩) k k, .slice (some ⟨w.heap.size + 1, 0, none⟩) k k, .slice (some ⟨w.heap.size + 2, 0, none⟩) k k, .slice (some ⟨w.heap.size + 3, 0, none⟩) k k, .slice (some ⟨w.heap.size + 4, 0, none⟩) k k, .slice (some ⟨w.heap.size + 5, 0, none⟩) k k]) (by simp [results, Try.results18, go_sem]) rfl ⟨rfl, hR.drewN _, below_drewN hb _⟩

theorem tok_at (kind : Int) (ls : List Int) (j r : Nat) (hj : j < ls.length) (hr : r < 6) : (ls.flatMap (tokCells kind))[j * 6 + r]? = (tokCells kind (ls.getD j 0))[r]? := by
  induction ls generalizing j with
  | nil => simp at hj
  | cons a l ih =>
    simp only [List.flatMap_cons]
    have hl : (tokCells kind a).length = 6 := rfl
    cases j with
    | zero => rw [List.getElem?_append_left (by omega)]; simp
    | succ j =>
      rw [List.getElem?_append_right (by omega), hl, show (j + 1) * 6 + r - 6 = j * 6 + r from by omega, ih j (by simpa using hj)]
      simp

theorem state_scan (B S : Nat) (ind kind : Int) (is ls : List Int) (w : World) (h : Scan w B S ind is kind ls) (hn : ls.length ≤ 1048576) :
    Calls Try.prog 18 #[.pointer (some ⟨S, 0, none⟩)] w fun e w' => ∃ vi, e = .returned (.tuple #[.int .i64 0, .int .i64 ind, vi, .int .i64 0, .int .i64 0,
      .slice (some ⟨w.heap.size, 0, none⟩) ls.length ls.length, .slice (some ⟨w.heap.size + 1, 0, none⟩) ls.length ls.length, .slice (some ⟨w.heap.size + 2, 0, none⟩) ls.length ls.length, .slice (some ⟨w.heap.size + 3, 0, none⟩) ls.length ls.length,
      .slice (some ⟨w.heap.size + 4, 0, none⟩) ls.length ls.length, .slice (some ⟨w.heap.size + 5, 0, none⟩) ls.length ls.length]) ∧ Sl w' vi (is.map (Value.int .i64)) ∧ Rows6 w' w.heap.size ls.length kind ls ls.length ∧ Below w.heap.size w w' := by
  obtain ⟨vt, vi, hS, hoi, hot⟩ := h
  rcases hot.2 with ⟨rfl, h0⟩ | ⟨g, cap, cur, rfl, hrest⟩
  · rw [h0]
    refine (state_any S ind kind 0 vi none 0 0 ls w hS (by omega) (by omega) (by omega)).mono fun e w' ⟨he, hR, hb⟩ => ⟨vi, he, (Sl.of_owns hoi).below hb, hR, hb⟩
  · refine (state_any S ind kind ls.length vi _ cap g ls w hS hn (fun _ => rfl) ?_).mono fun e w' ⟨he, hR, hb⟩ => ⟨vi, he, (Sl.of_owns hoi).below hb, hR, hb⟩
    intro j hj
    have hcell : ∀ r, r < 6 → w.cell? ⟨g, j * 6 + r, none⟩ = (tokCells kind (ls.getD j 0))[r]? := fun r hr => by
      rw [hot.cellAt (j * 6 + r) (by omega), tok_at kind ls j r hj hr]
    exact ⟨by simpa [tokCells] using hcell 0 (by omega), by simpa [tokCells] using hcell 1 (by omega), by simpa [tokCells] using hcell 2 (by omega), by simpa [tokCells] using hcell 3 (by omega), by simpa [tokCells] using hcell 4 (by omega), by simpa [tokCells] using hcell 5 (by omega)⟩

end Go.Proofs.Qxb6601781a
