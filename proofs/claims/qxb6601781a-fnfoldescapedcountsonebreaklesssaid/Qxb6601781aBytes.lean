/-
  WALKS: the byte helpers (zzBytes, cloneBytes, eqBytes, fold).
-/
import Derived.Test.Qxb6601781aRows
import Derived.Test.Qxb6601781aKit
namespace Go.Proofs.Qxb6601781a
open Go.RowKit Kit

theorem Try.info5 : (Try.prog.info? 5).map (fun i => (i.zero, i.size, i.bytes)) = some (some (.int .u8 0), 1, 1) := by kernel_rfl
theorem Try.size5 : (Try.prog.info? 5).map (·.size) = some 1 := by kernel_rfl

/-- cloneBytesPB1 at nil. -/
theorem cloneB_nil (n c : Nat) (w : World) : Calls Try.prog 8 #[.slice none n c] w fun e w' => e = .returned (.slice none 0 0) ∧ w' = w := by
  have hq := fun W => Lib.run_eql_slice_nil (P := Try.prog) W 22 5 none n c 0 0 Try.underlying22
  go_enter Try.func8, Try.ntmps8
  go_wp2
  go_ret
  exact ⟨rfl, rfl⟩

theorem cloneB_some (x : Addr) (xs : List Value) (cap : Nat) (w : World) (hlen : xs.length ≤ 140737488351232) (h1 : ∀ u ∈ xs, u.oneCell' = true)
    (hc : ∀ i u, xs[i]? = some u → w.cell? (x.add i) = some u) :
    Calls Try.prog 8 #[.slice (some x) xs.length cap] w fun e w' => e = .returned (.slice (some ⟨w.heap.size, 0, none⟩) xs.length xs.length) ∧ w' = w.alloc (.cells xs.toArray 5) := by
  have hq := fun W => Lib.run_eql_slice_nil (P := Try.prog) W 22 5 (some x) xs.length cap 0 0 Try.underlying22
  obtain ⟨i0, hi, hz0, hz1, hz2⟩ := info_parts Try.info5
  have hmk := run_make_row' (P := Try.prog) 22 5 (.int .u8 0) 1 Try.underlying22 Try.info5 rfl .i64 .i64 xs.length (by omega) (by omega)
  obtain ⟨n, hn⟩ : ∃ n, n = xs.length := ⟨_, rfl⟩
  rw [← hn] at hmk hq ⊢
  have HN : Hid (n = xs.length) := hn
  have HC : Hid (∀ i u, xs[i]? = some u → w.cell? (x.add i) = some u) := hc
  have H1 : Hid (∀ u ∈ xs, u.oneCell' = true) := h1
  clear hn hc h1
  go_enter Try.func8, Try.ntmps8
  go_wp2_with (refine wpList_copy_clone rfl _ _ 22 22 rfl 5 Try.underlying22 Try.size5 n x cap xs _ rfl rfl HN.out (size_madeCells _ _) HC.out H1.out ?_)
  go_ret
  exact ⟨rfl, rfl⟩

set_option maxHeartbeats 400000 in
theorem eqB_empty (a1 a2 : Option Addr) (c1 c2 : Nat) (w : World) : Calls Try.prog 10 #[.slice a1 0 c1, .slice a2 0 c2] w fun e w' => e = .returned (.bool true) ∧ w' = w := by
  go_enter Try.func10, Try.ntmps10
  go_wp2
  refine wp_loop_rounds 1 ?_
  rw [rounds_succ]
  go_wp2
  go_ret
  exact ⟨rfl, rfl⟩

set_option maxHeartbeats 400000 in
theorem eqB_full (b1 o1 c1 b2 o2 c2 n : Nat) (zs : List Int) (w : World) (hm : n ≤ 9223372036854775807)
    (h1 : ∀ j, j < n → w.cell? ⟨b1, o1 + j, none⟩ = some (.int .u8 (zs.getD j 0))) (h2 : ∀ j, j < n → w.cell? ⟨b2, o2 + j, none⟩ = some (.int .u8 (zs.getD j 0))) :
    Calls Try.prog 10 #[.slice (some ⟨b1, o1, none⟩) n c1, .slice (some ⟨b2, o2, none⟩) n c2] w fun e w' => e = .returned (.bool true) ∧ ∃ m, w' = w.drewN m := by
  go_enter Try.func10, Try.ntmps10
  go_wp2
  go_loopw [5] (fun i wr => ∃ k : Nat, k ≤ n ∧ i = .int .i64 k ∧ ∃ m, wr = w.drewN m) (fun i _ => n - (intOf i).toNat)
  case atStart => exact ⟨0, Nat.zero_le _, rfl, 0, rfl⟩
  case round =>
    obtain ⟨k, hk, rfl, m, rfl⟩ := hrel
    by_cases hlt : k < n
    · have g1 := h1 k hlt
      have g2 := h2 k hlt
      have b1' : (k : Int) < (n : Int) := by omega
      have b2' : (0 : Int) ≤ (k : Int) := by omega
      go_wp2
      go_quiet (fail)
      go_wp2
      go_roundw
      case rel => exact ⟨k + 1, by omega, by go_num, _, rfl⟩
      case measure => simp [intOf]; omega
    · go_wp2
      go_ret
      exact ⟨rfl, _, rfl⟩

theorem eqB_same (v1 v2 : Value) (zs : List Int) (w : World) (h1 : Sl w v1 (zs.map (Value.int .u8))) (h2 : Sl w v2 (zs.map (Value.int .u8))) :
    Calls Try.prog 10 #[v1, v2] w fun e w' => e = .returned (.bool true) ∧ ∃ m, w' = w.drewN m := by
  rcases h1.ints with ⟨rfl, a1, c1, rfl⟩ | ⟨b1, o1, c1, rfl, hc1, hm1, g1⟩
  · rcases h2.ints with ⟨_, a2, c2, rfl⟩ | ⟨b2, o2, c2, rfl, _, _, _⟩
    · exact (eqB_empty a1 a2 c1 c2 w).mono fun e w' ⟨he, hw⟩ => ⟨he, 0, hw⟩
    · exact (eqB_empty a1 _ c1 c2 w).mono fun e w' ⟨he, hw⟩ => ⟨he, 0, hw⟩
  · rcases h2.ints with ⟨rfl, a2, c2, rfl⟩ | ⟨b2, o2, c2, rfl, _, _, g2⟩
    · exact (eqB_empty _ a2 c1 c2 w).mono fun e w' ⟨he, hw⟩ => ⟨he, 0, hw⟩
    · exact eqB_full b1 o1 c1 b2 o2 c2 zs.length zs w (by unfold maxLen at hm1; omega) g1 g2

/-- cloneBytesPB1, whatever the slice. -/
theorem cloneB_any (v : Value) (xs : List Value) (w : World) (h : Sl w v xs) (hlen : xs.length ≤ 1048576) (h1 : ∀ u ∈ xs, u.oneCell' = true) :
    Calls Try.prog 8 #[v] w fun e w' => ∃ v', e = .returned v' ∧ w'.ownsRow w.heap.size 5 1 v' xs.length xs ∧ Below w.heap.size w w' := by
  obtain ⟨a, cap, rfl, hc, hm, hn, hcell⟩ := h
  cases a with
  | none =>
    obtain ⟨rfl, rfl⟩ := hn rfl
    refine (cloneB_nil _ _ w).mono fun e w' ⟨he, hw⟩ => ⟨_, he, ?_, ?_⟩
    · exact World.ownsRow_nil _ _ _ _
    · subst hw; exact Below.refl _ _
  | some x =>
    refine (cloneB_some x xs cap w (by omega) h1 (hcell x rfl)).mono fun e w' ⟨he, hw⟩ => ⟨_, he, ?_, ?_⟩
    · subst hw; exact owns_made w xs 5 (by omega)
    · subst hw; exact (Below.refl _ _).alloc (Nat.le_refl _) _

/-- zzBytes: it only computes. -/
theorem zz_any (a0 a1 : Option Addr) (n0 n1 c0 c1 : Nat) (k : Int) (w : World) (h0 : n0 ≤ 9223372036854775807) (h1 : n1 ≤ 9223372036854775807) :
    Calls Try.prog 7 #[.slice a0 n0 c0, .slice a1 n1 c1, .int .i64 k] w fun e w' => e = .returned (.bool (decide (n0 + n1 ≤ 1048576))) ∧ w' = w := by
  by_cases g0 : n0 ≤ 1048576
  · by_cases g1 : n1 ≤ 1048576
    · by_cases g2 : n0 + n1 ≤ 1048576
      · go_enter Try.func7, Try.ntmps7
        go_wp2
        go_ret
        exact ⟨ret_bool (by simp; omega), rfl⟩
      · go_enter Try.func7, Try.ntmps7
        go_wp2
        go_ret
        exact ⟨ret_bool (by simp; omega), rfl⟩
    · go_enter Try.func7, Try.ntmps7
      go_wp2
      go_ret
      exact ⟨ret_bool (by simp; omega), rfl⟩
  · go_enter Try.func7, Try.ntmps7
    go_wp2
    go_ret
    exact ⟨ret_bool (by simp; omega), rfl⟩

/-- One '\\n' more. -/
theorem rel_app {B n k : Nat} {xs : List Value} {w wr w1 : World} {u v' : Value} {o : Obj} (hB : B ≤ wr.heap.size) (hown : wr.ownsRow B 5 1 u (n + k) (xs ++ List.replicate k (.int .u8 10))) (hb : Below B w wr)
    (hown' : w1.ownsRow B 5 1 v' (n + k + 1) (xs ++ (List.replicate k (.int .u8 10) ++ [.int .u8 10]))) (hgrow : (wr.alloc o).grownBy w1 u.ownBlock) :
    w1.ownsRow B 5 1 v' (n + (k + 1)) (xs ++ List.replicate (k + 1) (.int .u8 10)) ∧ Below B w w1 := by
  refine ⟨?_, (hb.alloc hB o).grown hgrow (by simp; omega) (fun j hj => (hown.lt j hj).1)⟩
  rw [List.replicate_succ']
  exact hown'

set_option maxHeartbeats 400000 in
/-- fold's loop: 'escaped'. -/
theorem fold_esc (B : Nat) (v ws : Value) (n : Nat) (xs : List Value) (br : Int) (w : World) (hB : B ≤ w.heap.size) (hn : n ≤ 1048576) (hbr : br ≤ 65536) (hown : w.ownsRow B 5 1 v n xs) :
    Calls Try.prog 21 #[v, ws, .int .i64 br, .bool true] w fun e w' => ∃ v', e = .returned v' ∧ w'.ownsRow B 5 1 v' (n + br.toNat) (xs ++ List.replicate br.toNat (.int .u8 10)) ∧ Below B w w' := by
  obtain ⟨i0, hi, hz0, hz1, hz2⟩ := info_parts Try.info5
  go_enter Try.func21, Try.ntmps21
  go_wp2
  go_loopw [0, 2] (fun t b wr => ∃ k : Nat, k ≤ br.toNat ∧ b = .int .i64 (br - k) ∧ wr.ownsRow B 5 1 t (n + k) (xs ++ List.replicate k (.int .u8 10)) ∧ Below B w wr) (fun _ b _ => (intOf b).toNat)
  case atStart => exact ⟨0, Nat.zero_le _, by simp, by simpa using hown, Below.refl _ _⟩
  case round =>
    obtain ⟨k, hk, rfl, hownr, hbel⟩ := hrel
    have hsz := hbel.size
    by_cases hlt : (0 : Int) < br - k
    · go_wp2_with (at_builtin; refine wpList_append_own _ rfl _ _ 22 rfl B 5 i0 (.int .u8 0) 1 1 Try.underlying22 hi hz0 hz1 hz2 rfl (by decide) _ _ _ rfl (hownr.alloc _) ⟨wr.heap.size, 0, none⟩ 1 1 [.int .u8 10] rfl rfl ?c1 ?c2 ?c3 ?c4 ?c5 ?_)
      case c1 => exact cell_one_new _ _ _
      case c2 => intro u hu; simp at hu; subst hu; rfl
      case c3 => unfold maxLen; omega
      case c4 => omega
      case c5 => simp; omega
      · intro v' w1 hown' hgrow _
        have R := rel_app (by omega) hownr hbel hown' hgrow
        clear hown' hgrow hownr hbel
        go_wp2
        go_roundw
        case rel => exact ⟨k + 1, by omega, by go_num, R.1, R.2⟩
        case measure => simp [intOf]; omega
    · have ek : k = br.toNat := by omega
      have HF : Hid (wr.ownsRow B 5 1 u0 (n + br.toNat) (xs ++ List.replicate br.toNat (.int .u8 10))) := by rw [← ek]; exact hownr
      clear ek
      go_wp2
      go_ret
      exact ⟨_, rfl, HF.out, hbel⟩

set_option maxHeartbeats 400000 in
/-- fold, not escaped, two breaks or more. -/
theorem fold_plain (B : Nat) (v ws : Value) (n : Nat) (xs : List Value) (br : Int) (w : World) (hB : B ≤ w.heap.size) (hn : n ≤ 1048576) (hbr : br ≤ 65537) (h2 : 2 ≤ br) (hown : w.ownsRow B 5 1 v n xs) :
    Calls Try.prog 21 #[v, ws, .int .i64 br, .bool false] w fun e w' => ∃ v', e = .returned v' ∧ w'.ownsRow B 5 1 v' (n + (br.toNat - 1)) (xs ++ List.replicate (br.toNat - 1) (.int .u8 10)) ∧ Below B w w' := by
  obtain ⟨i0, hi, hz0, hz1, hz2⟩ := info_parts Try.info5
  have hc0 : (br == 0) = false := beq_eq_false_iff_ne.2 (by omega)
  have hc1 : (br == 1) = false := beq_eq_false_iff_ne.2 (by omega)
  go_enter Try.func21, Try.ntmps21
  go_wp2
  go_loopw [0, 2] (fun t b wr => ∃ k : Nat, k ≤ (br.toNat - 1) ∧ b = .int .i64 (br - 1 - k) ∧ wr.ownsRow B 5 1 t (n + k) (xs ++ List.replicate k (.int .u8 10)) ∧ Below B w wr) (fun _ b _ => (intOf b).toNat)
  case atStart => exact ⟨0, Nat.zero_le _, by simp, by simpa using hown, Below.refl _ _⟩
  case round =>
    obtain ⟨k, hk, rfl, hownr, hbel⟩ := hrel
    have hsz := hbel.size
    by_cases hlt : (0 : Int) < br - 1 - k
    · go_wp2_with (at_builtin; refine wpList_append_own _ rfl _ _ 22 rfl B 5 i0 (.int .u8 0) 1 1 Try.underlying22 hi hz0 hz1 hz2 rfl (by decide) _ _ _ rfl (hownr.alloc _) ⟨wr.heap.size, 0, none⟩ 1 1 [.int .u8 10] rfl rfl ?c1 ?c2 ?c3 ?c4 ?c5 ?_)
      case c1 => exact cell_one_new _ _ _
      case c2 => intro u hu; simp at hu; subst hu; rfl
      case c3 => unfold maxLen; omega
      case c4 => omega
      case c5 => simp; omega
      · intro v' w1 hown' hgrow _
        have R := rel_app (by omega) hownr hbel hown' hgrow
        clear hown' hgrow hownr hbel
        go_wp2
        go_roundw
        case rel => exact ⟨k + 1, by omega, by go_num, R.1, R.2⟩
        case measure => simp [intOf]; omega
    · have ek : k = (br.toNat - 1) := by omega
      have HF : Hid (wr.ownsRow B 5 1 u0 (n + (br.toNat - 1)) (xs ++ List.replicate (br.toNat - 1) (.int .u8 10))) := by rw [← ek]; exact hownr
      clear ek
      go_wp2
      go_ret
      exact ⟨_, rfl, HF.out, hbel⟩

theorem zzfold_esc (B : Nat) (v ws : Value) (n : Nat) (xs : List Value) (br : Int) (w : World) (hB : B ≤ w.heap.size) (hn : n ≤ 1048576) (hbr : br ≤ 65536) (hown : w.ownsRow B 5 1 v n xs) :
    Calls Try.prog 9 #[v, ws, .int .i64 br, .bool true] w fun e w' => ∃ v', e = .returned v' ∧ w'.ownsRow B 5 1 v' (n + br.toNat) (xs ++ List.replicate br.toNat (.int .u8 10)) ∧ Below B w w' := by
  go_enter Try.func9, Try.ntmps9
  go_wp2_with (go_at_call 21; refine (fold_esc B v ws n xs br _ hB hn hbr hown).mono ?_; rintro e w' ⟨v', rfl, h1, h2⟩)
  go_ret
  exact ⟨_, rfl, ‹_›, ‹_›⟩

theorem zzfold_plain (B : Nat) (v ws : Value) (n : Nat) (xs : List Value) (br : Int) (w : World) (hB : B ≤ w.heap.size) (hn : n ≤ 1048576) (hbr : br ≤ 65537) (h2 : 2 ≤ br) (hown : w.ownsRow B 5 1 v n xs) :
    Calls Try.prog 9 #[v, ws, .int .i64 br, .bool false] w fun e w' => ∃ v', e = .returned v' ∧ w'.ownsRow B 5 1 v' (n + (br.toNat - 1)) (xs ++ List.replicate (br.toNat - 1) (.int .u8 10)) ∧ Below B w w' := by
  go_enter Try.func9, Try.ntmps9
  go_wp2_with (go_at_call 21; refine (fold_plain B v ws n xs br _ hB hn hbr h2 hown).mono ?_; rintro e w' ⟨v', rfl, h1, h2⟩)
  go_ret
  exact ⟨_, rfl, ‹_›, ‹_›⟩

end Go.Proofs.Qxb6601781a
