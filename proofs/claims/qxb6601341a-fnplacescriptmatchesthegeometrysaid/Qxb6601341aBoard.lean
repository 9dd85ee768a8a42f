import Derived.Test.Qxb6601341aKit
import Derived.Test.Qxb6601341aProg
import Derived.Laws.BitsAllLaws
import Derived.Laws.Rows
import Derived.Laws.Tables
namespace Go.Proofs.Qxb6601341a
open Go.Proofs Go.RowKit Go.Proofs.Qxb6601341a.Kit

/-- A board's value. -/
def brd (F r c l t : Nat) : Array Value := #[.int .u32 (F : Int), .int .i64 (r : Int), .int .u32 (c : Int), .int .u32 (l : Int), .int .u32 (t : Int)]

set_option maxHeartbeats 1000000 in
set_option maxRecDepth 100000 in
theorem place_calls (F r c l t q : Nat) (w : World) (hF : F < 4294967296) (hr : r < 1000000) (hc : c < 4294967296) (hl : l < 4294967296) (ht : t < 4294967296) (hq : q < 4294967296) :
    Calls Try.prog 8 #[.agg (brd F r c l t), .int .u32 (q : Int)] w fun e w' => e = .returned (.agg (brd F (r + 1) (c ||| q) ((l ||| q) * 2 % 4294967296 &&& F) ((t ||| q) / 2))) ∧ Below w.heap.size w w' := by
  unfold brd
  have o1 := u32_or_nat c q hc hq
  have o2 := u32_or_nat l q hl hq
  have o3 := u32_or_nat t q ht hq
  have l2 : l ||| q < 2 ^ 32 := Nat.or_lt_two_pow (by omega) (by omega)
  have l3 : t ||| q < 2 ^ 32 := Nat.or_lt_two_pow (by omega) (by omega)
  have o4 := u32_and_nat ((l ||| q) * 2 % 4294967296) F (by omega) hF
  obtain ⟨C, hC⟩ : ∃ C, C = c ||| q := ⟨_, rfl⟩
  obtain ⟨L, hL⟩ : ∃ L, L = l ||| q := ⟨_, rfl⟩
  obtain ⟨T, hT⟩ : ∃ T, T = t ||| q := ⟨_, rfl⟩
  rw [← hC] at o1 ⊢
  rw [← hL] at o2 o4 l2 ⊢
  rw [← hT] at o3 l3 ⊢
  obtain ⟨A, hA⟩ : ∃ A, A = L * 2 % 4294967296 &&& F := ⟨_, rfl⟩
  rw [← hA] at o4 ⊢
  have o5 : bits .and .u32 ((L : Int) * 2 % 4294967296) (F : Int) = (A : Int) := by rw [← o4]; congr 1
  clear hC hL hT o4 hA
  go_enter Try.func8, Try.ntmps8
  go_wp2_with fail
  refine bodyPost_ret (v := .agg #[.int .u32 (F : Int), .int .i64 ((r : Int) + 1), .int .u32 (C : Int), .int .u32 (A : Int), .int .u32 ((T : Int) / 2)]) (by simp [results, Try.results8, go_sem]) rfl ⟨by simp, ?_⟩
  exact ((Below.refl _ _).alloc (Nat.le_refl _) _).alloc (by simp) _

theorem heap_new (w : World) (o : Obj) : (w.alloc o).heap[w.heap.size]? = some o := by
  show (w.heap.push o)[w.heap.size]? = some o
  simp

theorem below_setRow {B : Nat} {a w : World} (h : Below B a w) {g : Nat} (hg : B ≤ g) (cs : Array Value) : Below B a (w.setRow g cs) := by
  refine h.trans ⟨rfl, rfl, rfl, by simp [World.setRow], fun k hk => ?_⟩
  simp only [World.setRow, Array.getElem?_modify]
  rw [if_neg (by omega)]

theorem brd_one (F r c l t : Nat) : (brd F r c l t).all (·.oneCell') = true := by simp [brd, Value.oneCell']
theorem brd_size (F r c l t : Nat) : (Try.prog.info? 27).map (·.size) = some (brd F r c l t).size := by
  show _ = some 5
  kernel_rfl

theorem two_rows {w wr : World} {o q : Obj} (hb : Below ((w.alloc o).alloc q).heap.size ((w.alloc o).alloc q) wr) : wr.heap[w.heap.size]? = some o ∧ wr.heap[w.heap.size + 1]? = some q := by
  constructor
  · rw [hb.block w.heap.size (by simp; omega), Below.heap_alloc _ _ _ (by simp)]; exact heap_new _ _
  · rw [hb.block (w.heap.size + 1) (by simp)]
    have := heap_new (w.alloc o) q
    simpa using this

set_option maxHeartbeats 1000000 in
set_option maxRecDepth 100000 in
theorem zzPlace_calls (F r c l t q : Nat) (w : World) (hF : F < 4294967296) (hr : r < 1000000) (hc : c < 4294967296) (hl : l < 4294967296) (ht : t < 4294967296) (hq : q < 4294967296) :
    Calls Try.prog 6 #[.agg (brd F r c l t), .int .u32 (q : Int)] w fun e w' => e = .returned (.agg (brd F (r + 1) (c ||| q) ((l ||| q) * 2 % 4294967296 &&& F) ((t ||| q) / 2))) ∧ Below w.heap.size w w' := by
  have HP := hide (fun W => place_calls F r c l t q W hF hr hc hl ht hq)
  obtain ⟨B, hB⟩ : ∃ B, B = brd F r c l t := ⟨_, rfl⟩
  obtain ⟨B', hB'⟩ : ∃ B, B = brd F (r + 1) (c ||| q) ((l ||| q) * 2 % 4294967296 &&& F) ((t ||| q) / 2) := ⟨_, rfl⟩
  have HZ : Hid ((Try.prog.info? 27).map (·.size) = some B.size) := by rw [hB]; exact brd_size _ _ _ _ _
  have HZ' : Hid ((Try.prog.info? 27).map (·.size) = some B'.size) := by rw [hB']; exact brd_size _ _ _ _ _
  have H5 : Hid (5 = B'.size) := by rw [hB']; rfl
  have H1 : Hid (B'.all (·.oneCell') = true) := by rw [hB']; exact brd_one _ _ _ _ _
  rw [← hB, ← hB'] at HP ⊢
  clear hB hB' hF hr hc hl ht hq
  have HB1 : Hid (∀ z, Below ((w.alloc (.cells B 27)).alloc (.cells z 27)).heap.size ((w.alloc (.cells B 27)).alloc (.cells z 27)) ((w.alloc (.cells B 27)).alloc (.cells z 27))) := fun z => Below.refl _ _
  go_enter Try.func6, Try.ntmps6
  go_wp2_with (refine wpList_load_row rfl 27 _ rfl _ rfl 27 B (0, 0) _ (two_rows (HB1.out _)).1 Try.underlying27 rfl HZ.out ?_)
  refine (HP.out _).mono ?_
  rintro e w1 ⟨rfl, hb1⟩
  have HR := hide (two_rows hb1).2
  have HBL := hide hb1
  clear hb1
  go_wp2_with (refine wpList_store_row rfl 27 _ _ rfl _ B' rfl rfl 27 _ HR.out HZ'.out H5.out H1.out ?_)
  have hr := run_loadVar_row (P := Try.prog) (w1.setRow (w.heap.size + 1) B') (w.heap.size + 1) 27 27 B' (0, 0) _ (setRow_heap _ _ _ _ _ _ HR.out) Try.underlying27 rfl HZ'.out
  refine bodyPost_ret (v := .agg B') (by simp [results, Try.results6, asAddr, Act.put, hr]) rfl ⟨rfl, ?_⟩
  exact below_setRow ((((Below.refl w.heap.size w).alloc (Nat.le_refl _) _).alloc (by simp) _).trans (HBL.out.mono (by simp; omega))) (Nat.le_succ _) _

set_option maxHeartbeats 1000000 in
set_option maxRecDepth 100000 in
theorem make_calls (F : Nat) (w : World) :
    Calls Try.prog 5 #[.int .u32 (F : Int), .int .i64 0, .int .u32 0, .int .u32 0, .int .u32 0] w fun e w' => e = .returned (.agg (brd F 0 0 0 0)) ∧ Below w.heap.size w w' := by
  unfold brd
  go_enter Try.func5, Try.ntmps5
  go_wp2_with fail
  refine bodyPost_ret (v := .agg #[.int .u32 (F : Int), .int .i64 0, .int .u32 0, .int .u32 0, .int .u32 0]) (by simp [results, Try.results5, go_sem]) rfl ⟨by simp, ?_⟩
  exact (Below.refl _ _).alloc (Nat.le_refl _) _

set_option maxHeartbeats 1000000 in
set_option maxRecDepth 100000 in
theorem fields_calls (F r c l t : Nat) (w : World) :
    Calls Try.prog 7 #[.agg (brd F r c l t)] w fun e w' => e = .returned (.tuple #[.int .u32 (F : Int), .int .i64 (r : Int), .int .u32 (c : Int), .int .u32 (l : Int), .int .u32 (t : Int)]) ∧ Below w.heap.size w w' := by
  unfold brd
  go_enter Try.func7, Try.ntmps7
  go_wp2_with fail
  go_quiet (fail)
  go_wp2_with fail
  refine bodyPost_ret (v := .tuple #[.int .u32 (F : Int), .int .i64 (r : Int), .int .u32 (c : Int), .int .u32 (l : Int), .int .u32 (t : Int)]) (by simp [results, Try.results7, go_sem]) rfl ⟨rfl, ?_⟩
  exact below_drewN ((Below.refl _ _).alloc (Nat.le_refl _) _) _

set_option maxHeartbeats 1000000 in
theorem zz4 (n : Int) (a : Option Addr) (len cap : Nat) (w : World) (h : len ≤ 9223372036854775807) :
    Calls Try.prog 4 #[.int .i64 n, .slice a len cap] w fun e w' => e = .returned (.bool (decide (len ≤ 1048576))) ∧ w = w' := by
  by_cases hz : len ≤ 1048576
  · have hd : decide (len ≤ 1048576) = true := by simp; omega
    go_enter Try.func4, Try.ntmps4
    go_wp2_with fail
    go_ret
    exact ⟨by rw [hd]; rfl, rfl⟩
  · have hd : decide (len ≤ 1048576) = false := by simp; omega
    go_enter Try.func4, Try.ntmps4
    go_wp2_with fail
    go_ret
    exact ⟨by rw [hd]; rfl, rfl⟩
end Go.Proofs.Qxb6601341a
