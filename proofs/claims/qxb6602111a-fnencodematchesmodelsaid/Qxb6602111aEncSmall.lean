/-
  WALKS: the small functions on the encoder's road.
-/
import Derived.Test.Qxb6602111aAdapt
import Derived.Test.Qxb6602111aEncState
namespace Go.Proofs.Qxb6602111a
open Go.RowKit Kit

theorem Try.info5 : (Try.prog.info? 5).map (fun i => (i.zero, i.size, i.bytes)) = some (some (.int .u8 0), 1, 1) := by kernel_rfl
theorem Try.size5 : (Try.prog.info? 5).map (·.size) = some 1 := by kernel_rfl
theorem Try.info21 : (Try.prog.info? 21).map (fun i => (i.zero, i.size, i.bytes)) = some (some (.int .i32 0), 1, 4) := by kernel_rfl
theorem Try.size21 : (Try.prog.info? 21).map (·.size) = some 1 := by kernel_rfl
theorem Try.info3 : (Try.prog.info? 3).map (fun i => (i.zero, i.size, i.bytes)) = some (some (.int .i64 0), 1, 8) := by kernel_rfl

theorem thr38 (k b : Int) (w : World) (hk0 : 0 ≤ k) (hk1 : k ≤ 1000000000000000) (hb0 : 0 ≤ b) (hb1 : b ≤ 2340) :
    Calls Try.prog 38 #[.int .i64 k, .int .i64 b] w fun e w' => e = .returned (.int .i64 (Em.thr k b)) ∧ w = w' := by
  by_cases h1 : k - b < 1
  · have HT : Hid (Em.thr k b = 1) := if_pos h1
    go_enter Try.func38, Try.ntmps38
    go_wp2
    go_ret
    exact ⟨ret_int (by rw [HT.out]), rfl⟩
  · by_cases h2 : 26 < k - b
    · have HT : Hid (Em.thr k b = 26) := by show Em.thr k b = 26; unfold Em.thr; rw [if_neg h1, if_pos h2]
      go_enter Try.func38, Try.ntmps38
      go_wp2
      go_ret
      exact ⟨ret_int (by rw [HT.out]), rfl⟩
    · have HT : Hid (Em.thr k b = k - b) := by show Em.thr k b = k - b; unfold Em.thr; rw [if_neg h1, if_neg h2]
      go_enter Try.func38, Try.ntmps38
      go_wp2
      go_ret
      exact ⟨ret_int (by rw [HT.out]), rfl⟩

theorem thr31 (k b : Int) (w : World) (hk0 : 0 ≤ k) (hk1 : k ≤ 1000000000000000) (hb0 : 0 ≤ b) (hb1 : b ≤ 2340) :
    Calls Try.prog 31 #[.int .i64 k, .int .i64 b] w fun e w' => e = .returned (.int .i64 (Em.thr k b)) ∧ w = w' := by
  by_cases h1 : k - b < 1
  · have HT : Hid (Em.thr k b = 1) := if_pos h1
    go_enter Try.func31, Try.ntmps31
    go_wp2
    go_ret
    exact ⟨ret_int (by rw [HT.out]), rfl⟩
  · by_cases h2 : 26 < k - b
    · have HT : Hid (Em.thr k b = 26) := by show Em.thr k b = 26; unfold Em.thr; rw [if_neg h1, if_pos h2]
      go_enter Try.func31, Try.ntmps31
      go_wp2
      go_ret
      exact ⟨ret_int (by rw [HT.out]), rfl⟩
    · have HT : Hid (Em.thr k b = k - b) := by show Em.thr k b = k - b; unfold Em.thr; rw [if_neg h1, if_neg h2]
      go_enter Try.func31, Try.ntmps31
      go_wp2
      go_ret
      exact ⟨ret_int (by rw [HT.out]), rfl⟩

theorem digitByte (q : Int) (w : World) (h0 : 0 ≤ q) (h1 : q < 36) :
    Calls Try.prog 39 #[.int .i64 q] w fun e w' => e = .returned (.int .u8 (Em.dg q)) ∧ w = w' := by
  by_cases h : q < 26
  · have HT : Hid (Em.dg q = 97 + q) := if_pos h
    go_enter Try.func39, Try.ntmps39
    go_wp2
    go_ret
    exact ⟨ret_int (by rw [HT.out]), rfl⟩
  · have HT : Hid (Em.dg q = 22 + q) := if_neg h
    go_enter Try.func39, Try.ntmps39
    go_wp2
    go_ret
    exact ⟨ret_int (by rw [HT.out]; omega), rfl⟩

theorem zzE_any (a0 a1 : Option Addr) (n0 n1 c0 c1 : Nat) (w : World) (h0 : n0 ≤ 9223372036854775807) (h1 : n1 ≤ 9223372036854775807) :
    Calls Try.prog 9 #[.slice a0 n0 c0, .slice a1 n1 c1] w fun e w' => e = .returned (.bool (decide (n0 + n1 ≤ 1048576))) ∧ w = w' := by
  by_cases g0 : n0 ≤ 1048576
  · by_cases g1 : n1 ≤ 1048576
    · by_cases g2 : n0 + n1 ≤ 1048576
      · go_enter Try.func9, Try.ntmps9
        go_wp2
        go_ret
        exact ⟨ret_bool (by simp; omega), rfl⟩
      · go_enter Try.func9, Try.ntmps9
        go_wp2
        go_ret
        exact ⟨ret_bool (by simp; omega), rfl⟩
    · go_enter Try.func9, Try.ntmps9
      go_wp2
      go_ret
      exact ⟨ret_bool (by simp; omega), rfl⟩
  · go_enter Try.func9, Try.ntmps9
    go_wp2
    go_ret
    exact ⟨ret_bool (by simp; omega), rfl⟩

/-- b1CloneBytes at nil. -/
theorem cloneB_nil (n c : Nat) (w : World) : Calls Try.prog 11 #[.slice none n c] w fun e w' => e = .returned (.slice none 0 0) ∧ w' = w := by
  have hq := fun W => Lib.run_eql_slice_nil (P := Try.prog) W 22 5 none n c 0 0 Try.underlying22
  go_enter Try.func11, Try.ntmps11
  go_wp2
  go_ret
  exact ⟨rfl, rfl⟩

theorem cloneB_some (x : Addr) (xs : List Value) (cap : Nat) (w : World) (hlen : xs.length ≤ 1048576) (h1 : ∀ u ∈ xs, u.oneCell' = true)
    (hc : ∀ i u, xs[i]? = some u → w.cell? (x.add i) = some u) :
    Calls Try.prog 11 #[.slice (some x) xs.length cap] w fun e w' => e = .returned (.slice (some ⟨w.heap.size, 0, none⟩) xs.length xs.length) ∧ w' = w.alloc (.cells xs.toArray 5) := by
  have hq := fun W => Lib.run_eql_slice_nil (P := Try.prog) W 22 5 (some x) xs.length cap 0 0 Try.underlying22
  obtain ⟨i0, hi, hz0, hz1, hz2⟩ := info_parts Try.info5
  have hmk := run_make_row' (P := Try.prog) 22 5 (.int .u8 0) 1 Try.underlying22 Try.info5 rfl .i64 .i64 xs.length (by omega) (by omega)
  obtain ⟨n, hn⟩ : ∃ n, n = xs.length := ⟨_, rfl⟩
  rw [← hn] at hmk hq ⊢
  have HN : Hid (n = xs.length) := hn
  have HC : Hid (∀ i u, xs[i]? = some u → w.cell? (x.add i) = some u) := hc
  have H1 : Hid (∀ u ∈ xs, u.oneCell' = true) := h1
  clear hn hc h1
  go_enter Try.func11, Try.ntmps11
  go_wp2_with (refine wpList_copy_clone rfl _ _ 22 22 rfl 5 Try.underlying22 Try.size5 n x cap xs _ rfl rfl HN.out (size_madeCells _ _) HC.out H1.out ?_)
  go_ret
  exact ⟨rfl, rfl⟩

set_option maxHeartbeats 400000 in
theorem eqB_empty (a1 a2 : Option Addr) (c1 c2 : Nat) (w : World) : Calls Try.prog 15 #[.slice a1 0 c1, .slice a2 0 c2] w fun e w' => e = .returned (.bool true) ∧ w' = w := by
  go_enter Try.func15, Try.ntmps15
  go_wp2
  refine wp_loop_rounds 1 ?_
  rw [rounds_succ]
  go_wp2
  go_ret
  exact ⟨rfl, rfl⟩

set_option maxHeartbeats 400000 in
theorem eqB_full (b1 o1 c1 b2 o2 c2 n : Nat) (zs : List Int) (w : World) (hm : n ≤ 9223372036854775807)
    (h1 : ∀ j, j < n → w.cell? ⟨b1, o1 + j, none⟩ = some (.int .u8 (zs.getD j 0))) (h2 : ∀ j, j < n → w.cell? ⟨b2, o2 + j, none⟩ = some (.int .u8 (zs.getD j 0))) :
    Calls Try.prog 15 #[.slice (some ⟨b1, o1, none⟩) n c1, .slice (some ⟨b2, o2, none⟩) n c2] w fun e w' => e = .returned (.bool true) ∧ ∃ m, w' = w.drewN m := by
  go_enter Try.func15, Try.ntmps15
  go_wp2
  go_loopw [5] (fun i wr => ∃ k : Nat, k ≤ n ∧ i = .int .i64 k ∧ ∃ m, wr = w.drewN m) (fun i _ => n - (intOf i).toNat)
  case atStart => exact ⟨0, Nat.zero_le _, rfl, 0, rfl⟩
  case round =>
    obtain ⟨k, hk, rfl, m, rfl⟩ := hrel
    by_cases hlt : k < n
    · have g1 := h1 k hlt
      have g2 := h2 k hlt
      have b1' : (k : Int) < (n : Int) := by omega
      have b2' : (0 : Int) ≤ (k : Int) := by omega
      go_wp2
      go_quiet (fail)
      go_wp2
      go_roundw
      case rel => exact ⟨k + 1, by omega, by go_num, _, rfl⟩
      case measure => simp [intOf]; omega
    · go_wp2
      go_ret
      exact ⟨rfl, _, rfl⟩

theorem eqB_same (v1 v2 : Value) (zs : List Int) (w : World) (h1 : Sl w v1 (zs.map (Value.int .u8))) (h2 : Sl w v2 (zs.map (Value.int .u8))) :
    Calls Try.prog 15 #[v1, v2] w fun e w' => e = .returned (.bool true) ∧ ∃ m, w' = w.drewN m := by
  rcases h1.ints with ⟨rfl, a1, c1, rfl⟩ | ⟨b1, o1, c1, rfl, hc1, hm1, g1⟩
  · rcases h2.ints with ⟨_, a2, c2, rfl⟩ | ⟨b2, o2, c2, rfl, _, _, _⟩
    · exact (eqB_empty a1 a2 c1 c2 w).mono fun e w' ⟨he, hw⟩ => ⟨he, 0, hw⟩
    · exact (eqB_empty a1 _ c1 c2 w).mono fun e w' ⟨he, hw⟩ => ⟨he, 0, hw⟩
  · rcases h2.ints with ⟨rfl, a2, c2, rfl⟩ | ⟨b2, o2, c2, rfl, _, _, g2⟩
    · exact (eqB_empty _ a2 c1 c2 w).mono fun e w' ⟨he, hw⟩ => ⟨he, 0, hw⟩
    · exact eqB_full b1 o1 c1 b2 o2 c2 zs.length zs w (by unfold maxLen at hm1; omega) g1 g2

/-- b1CloneBytes, whatever the slice. -/
theorem cloneB_any (v : Value) (xs : List Value) (w : World) (h : Sl w v xs) (hlen : xs.length ≤ 1048576) (h1 : ∀ u ∈ xs, u.oneCell' = true) :
    Calls Try.prog 11 #[v] w fun e w' => ∃ v', e = .returned v' ∧ w'.ownsRow w.heap.size 5 1 v' xs.length xs ∧ Below w.heap.size w w' := by
  obtain ⟨a, cap, rfl, hc, hm, hn, hcell⟩ := h
  cases a with
  | none =>
    obtain ⟨rfl, rfl⟩ := hn rfl
    refine (cloneB_nil _ _ w).mono fun e w' ⟨he, hw⟩ => ⟨_, he, ?_, ?_⟩
    · exact World.ownsRow_nil _ _ _ _
    · subst hw; exact Below.refl _ _
  | some x =>
    refine (cloneB_some x xs cap w (by omega) h1 (hcell x rfl)).mono fun e w' ⟨he, hw⟩ => ⟨_, he, ?_, ?_⟩
    · subst hw; exact owns_made w xs 5 (by omega)
    · subst hw; exact (Below.refl _ _).alloc (Nat.le_refl _) _

theorem cloneR_nil (n c : Nat) (w : World) : Calls Try.prog 12 #[.slice none n c] w fun e w' => e = .returned (.slice none 0 0) ∧ w' = w := by
  have hq := fun W => Lib.run_eql_slice_nil (P := Try.prog) W 23 21 none n c 0 0 Try.underlying23
  go_enter Try.func12, Try.ntmps12
  go_wp2
  go_ret
  exact ⟨rfl, rfl⟩

theorem cloneR_some (x : Addr) (xs : List Value) (cap : Nat) (w : World) (hlen : xs.length ≤ 1048576) (h1 : ∀ u ∈ xs, u.oneCell' = true)
    (hc : ∀ i u, xs[i]? = some u → w.cell? (x.add i) = some u) :
    Calls Try.prog 12 #[.slice (some x) xs.length cap] w fun e w' => e = .returned (.slice (some ⟨w.heap.size, 0, none⟩) xs.length xs.length) ∧ w' = w.alloc (.cells xs.toArray 21) := by
  have hq := fun W => Lib.run_eql_slice_nil (P := Try.prog) W 23 21 (some x) xs.length cap 0 0 Try.underlying23
  obtain ⟨i0, hi, hz0, hz1, hz2⟩ := info_parts Try.info21
  have hmk := run_make_row' (P := Try.prog) 23 21 (.int .i32 0) 4 Try.underlying23 Try.info21 rfl .i64 .i64 xs.length (by omega) (by omega)
  obtain ⟨n, hn⟩ : ∃ n, n = xs.length := ⟨_, rfl⟩
  rw [← hn] at hmk hq ⊢
  have HN : Hid (n = xs.length) := hn
  have HC : Hid (∀ i u, xs[i]? = some u → w.cell? (x.add i) = some u) := hc
  have H1 : Hid (∀ u ∈ xs, u.oneCell' = true) := h1
  clear hn hc h1
  go_enter Try.func12, Try.ntmps12
  go_wp2_with (refine wpList_copy_clone rfl _ _ 23 23 rfl 21 Try.underlying23 Try.size21 n x cap xs _ rfl rfl HN.out (size_madeCells _ _) HC.out H1.out ?_)
  go_ret
  exact ⟨rfl, rfl⟩

/-- b1CloneRunes, whatever the slice. -/
theorem cloneR_any (v : Value) (xs : List Value) (w : World) (h : Sl w v xs) (hlen : xs.length ≤ 1048576) (h1 : ∀ u ∈ xs, u.oneCell' = true) :
    Calls Try.prog 12 #[v] w fun e w' => ∃ v', e = .returned v' ∧ w'.ownsRow w.heap.size 21 1 v' xs.length xs ∧ Below w.heap.size w w' := by
  obtain ⟨a, cap, rfl, hc, hm, hn, hcell⟩ := h
  cases a with
  | none =>
    obtain ⟨rfl, rfl⟩ := hn rfl
    refine (cloneR_nil _ _ w).mono fun e w' ⟨he, hw⟩ => ⟨_, he, ?_, ?_⟩
    · exact World.ownsRow_nil _ _ _ _
    · subst hw; exact Below.refl _ _
  | some x =>
    refine (cloneR_some x xs cap w (by omega) h1 (hcell x rfl)).mono fun e w' ⟨he, hw⟩ => ⟨_, he, ?_, ?_⟩
    · subst hw; exact owns_made w xs 21 (by omega)
    · subst hw; exact (Below.refl _ _).alloc (Nat.le_refl _) _


/-- b1CodePoints. -/
def cps (zs : List Int) : Bool := zs.all (fun z => decide (0 ≤ z) && decide (z ≤ 1114111))
theorem cps_iff (zs : List Int) : cps zs = true ↔ ∀ k, k < zs.length → 0 ≤ zs.getD k 0 ∧ zs.getD k 0 ≤ 1114111 := by
  simp only [cps, List.all_eq_true, Bool.and_eq_true, decide_eq_true_eq]
  constructor
  · intro h k hk
    have := h _ (List.getElem_mem hk)
    simpa [List.getD, List.getElem?_eq_getElem hk] using this
  · intro h z hz
    obtain ⟨k, hk, rfl⟩ := List.getElem_of_mem hz
    have := h k hk
    simpa [List.getD, List.getElem?_eq_getElem hk] using this

set_option maxHeartbeats 400000 in
theorem codePoints (a : Option Addr) (n cap b off : Nat) (zs : List Int) (w : World) (hn : n = zs.length) (hm : n ≤ 9223372036854775807) (ha : 0 < n → a = some ⟨b, off, none⟩)
    (hc : ∀ j, j < n → w.cell? ⟨b, off + j, none⟩ = some (.int .i32 (zs.getD j 0))) :
    Calls Try.prog 10 #[.slice a n cap] w fun e w' => e = .returned (.bool (cps zs)) ∧ w = w' := by
  have HN := hide hn
  have HA := hide ha
  clear hn ha
  go_enter Try.func10, Try.ntmps10
  go_wp2
  go_loop [3] (fun i => ∃ k : Nat, k ≤ n ∧ i = .int .i64 k ∧ ∀ j, j < k → 0 ≤ zs.getD j 0 ∧ zs.getD j 0 ≤ 1114111) (fun i => n - (intOf i).toNat)
  case atStart => exact ⟨0, Nat.zero_le _, rfl, fun j hj => by omega⟩
  case round =>
    obtain ⟨k, hk, rfl, hall⟩ := hrel
    have HALL := hide hall
    clear hall
    by_cases hlt : k < n
    · obtain rfl := HA.out (by omega)
      have g := hc k hlt
      have i1 : (k : Int) < (n : Int) := by omega
      by_cases hok : 0 ≤ zs.getD k 0 ∧ zs.getD k 0 ≤ 1114111
      · obtain ⟨ok1, ok2⟩ := hok
        have HK : Hid (0 ≤ zs.getD k 0 ∧ zs.getD k 0 ≤ 1114111) := ⟨ok1, ok2⟩
        simp only [List.getD_eq_getElem?_getD] at ok1 ok2
        go_wp2
        go_round
        case rel => exact ⟨k + 1, by omega, by go_num, fun j hj => by
          by_cases e : j = k
          · subst e; exact HK.out
          · exact HALL.out j (by omega)⟩
        case measure => simp [intOf]; omega
      · have HF : Hid (cps zs = false) := by
          show cps zs = false
          cases hc : cps zs
          · rfl
          · exact absurd ((cps_iff zs).1 hc k (by rw [← HN.out]; exact hlt)) hok
        by_cases h0 : zs.getD k 0 < 0
        · simp only [List.getD_eq_getElem?_getD] at h0
          clear hok
          go_wp2
          go_ret
          exact ⟨ret_bool HF.out.symm, rfl⟩
        · have h1 : 1114111 < zs.getD k 0 := by omega
          simp only [List.getD_eq_getElem?_getD] at h0 h1
          clear hok
          go_wp2
          go_ret
          exact ⟨ret_bool HF.out.symm, rfl⟩
    · have HT : Hid (cps zs = true) := (cps_iff zs).2 fun j hj => HALL.out j (by rw [HN.out] at hlt; omega)
      go_wp2
      go_ret
      exact ⟨ret_bool HT.out.symm, rfl⟩

end Go.Proofs.Qxb6602111a
