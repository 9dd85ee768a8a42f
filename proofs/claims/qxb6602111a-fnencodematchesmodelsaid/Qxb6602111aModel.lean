/-
  WALK: b1EncodeModel.
-/
import Derived.Test.Qxb6602111aModelParts
namespace Go.Proofs.Qxb6602111a
open Go.RowKit Kit

set_option maxRecDepth 100000 in
set_option maxHeartbeats 8000000 in
theorem model_any (a : Option Addr) (n cap b off : Nat) (zs : List Int) (J : Nat) (w : World) (hm : n ≤ 65536) (ha : 0 < n → a = some ⟨b, off, none⟩)
    (hc : ∀ j, j < n → w.cell? ⟨b, off + j, none⟩ = some (.int .i32 (zs.getD j 0))) (hz : ∀ k, k < n → 0 ≤ zs.getD k 0 ∧ zs.getD k 0 ≤ 1114111)
    (hJ : Em.Stop (fun i => zs.getD i 0) n (Em.head (fun i => zs.getD i 0) n) J) :
    Calls Try.prog 14 #[.slice a n cap] w fun e w' => ∃ v', e = .returned (.tuple #[v', .bool (decide (J = (Em.ord (fun i => zs.getD i 0) n).length))]) ∧
      w'.ownsRow w.heap.size 5 1 v' (Em.out (fun i => zs.getD i 0) n (Em.head (fun i => zs.getD i 0) n) J).length ((Em.out (fun i => zs.getD i 0) n (Em.head (fun i => zs.getD i 0) n) J).map (Value.int .u8)) ∧ Below w.heap.size w w' := by
  obtain ⟨i5, hi5, hz50, hz51, hz52⟩ := info_parts Try.info5
  obtain ⟨i3, hi3, hz30, hz31, hz32⟩ := info_parts Try.info3
  obtain ⟨f, hf⟩ : ∃ f : Nat → Int, f = fun i => zs.getD i 0 := ⟨_, rfl⟩
  have hfz : ∀ k, f k = zs.getD k 0 := fun k => by rw [hf]
  rw [← hf] at hJ ⊢
  have HF := hide hfz
  have HZ := hide hz
  have HA := hide ha
  have HC := hide hc
  have HJ := hide hJ
  clear hf hfz hz ha hc hJ
  have HCF : Hid (∀ j, j < n → w.cell? ⟨b, off + j, none⟩ = some (.int .i32 (f j))) := fun j hj => by rw [HF.out]; exact HC.out j hj
  have HZF : Hid (∀ k, k < n → 0 ≤ f k ∧ f k ≤ 1114111) := fun k hk => by rw [HF.out]; exact HZ.out k hk
  clear HC HZ HF
  go_enter Try.func14, Try.ntmps14
  go_wp2
  go_loopw [4, 5, 6] (fun v bs k wr => ∃ x : Nat, x ≤ n ∧ k = .int .i64 x ∧ bs = .int .i64 (Em.cle f 127 x) ∧ wr.ownsRow w.heap.size 5 1 v (Em.cle f 127 x) ((Em.bas f x).map (Value.int .u8)) ∧ Below w.heap.size w wr) (fun _ _ k _ => n - (intOf k).toNat)
  case atStart => exact ⟨0, Nat.zero_le _, rfl, rfl, World.ownsRow_nil _ _ _ _, Below.refl _ _⟩
  case round =>
    obtain ⟨x, hx, rfl, rfl, hown, hbel⟩ := hrel
    have hcl : Em.cle f 127 x ≤ x := Em.num_le _ _
    have hsz := hbel.size
    by_cases hlt : x < n
    · obtain rfl := HA.out (by omega)
      have q := HCF.out x hlt
      have g := (hbel.cell (p := ⟨b, off + x, none⟩) (World.block_lt_of_cell? w _ q)).trans q
      clear q
      obtain ⟨z0, z1⟩ := HZF.out x hlt
      have i1 : (x : Int) < (n : Int) := by omega
      by_cases hb : f x < 128
      · have H1 := hide (Em.cle_succ_yes f 127 x (by omega))
        have H2 := hide (Em.bas_yes f x hb)
        go_wp2_with (at_builtin; refine wpList_append_own _ rfl _ _ 22 rfl w.heap.size 5 i5 (.int .u8 0) 1 1 Try.underlying22 hi5 hz50 hz51 hz52 rfl (by decide) _ _ _ rfl (hown.alloc _) ⟨wr.heap.size, 0, none⟩ 1 1 [.int .u8 (f x)] rfl rfl ?c1 ?c2 ?c3 ?c4 ?c5 ?_)
        try (case c1 => exact cell_one_new _ _ _)
        case c2 => first | rfl | (intro u hu; simp at hu; subst hu; rfl)
        case c3 => unfold maxLen; omega
        case c4 => omega
        case c5 => first | omega | (simp; omega)
        · intro v' w1 hown' hgrow _
          have R := below_app (by omega) hown hbel hgrow
          clear hgrow hown hbel g
          go_wp2
          go_roundw
          case rel => exact ⟨x + 1, by omega, by go_num, by rw [H1.out]; go_num, by rw [H1.out, H2.out]; simpa using hown', R⟩
          case measure => simp [intOf]; omega
      · have H1 := hide (Em.cle_succ_no f 127 x (by omega))
        have H2 := hide (Em.bas_no f x hb)
        go_wp2
        go_roundw
        case rel => exact ⟨x + 1, by omega, by go_num, by rw [H1.out], by rw [H1.out, H2.out]; exact hown, hbel⟩
        case measure => simp [intOf]; omega
    · obtain rfl : x = n := by omega
      go_upto_if 44 with fail
      go_cut [4] (fun v wx => wx.ownsRow w.heap.size 5 1 v (Em.head f x).length ((Em.head f x).map (Value.int .u8)) ∧ Below w.heap.size w wx)
      case first =>
        by_cases hpos : 0 < Em.cle f 127 x
        · have H1 : Hid (Em.head f x = Em.bas f x ++ [45]) := by show _ = _; unfold Em.head; rw [if_pos hpos]
          have H2 := hide (Em.bas_len f x)
          go_wp2_with (at_builtin; refine wpList_append_own _ rfl _ _ 22 rfl w.heap.size 5 i5 (.int .u8 0) 1 1 Try.underlying22 hi5 hz50 hz51 hz52 rfl (by decide) _ _ _ rfl (hown.alloc _) ⟨wr.heap.size, 0, none⟩ 1 1 [.int .u8 45] rfl rfl (cell_one_new _ _ _) ?e2 ?e3 ?e4 ?e5 ?_)
          case e2 => intro u hu; simp at hu; subst hu; rfl
          case e3 => unfold maxLen; omega
          case e4 => omega
          case e5 => simp; omega
          · intro v' w1 hown' hgrow _
            have R := below_app (by omega) hown hbel hgrow
            go_wp2_with fail
            go_meet
            refine ⟨?_, R⟩
            rw [H1.out, List.length_append, H2.out]
            simpa using hown'
        · have H1 : Hid (Em.head f x = Em.bas f x) := by show _ = _; unfold Em.head; rw [if_neg hpos, List.append_nil]
          have H2 := hide (Em.bas_len f x)
          go_wp2_with fail
          go_meet
          refine ⟨?_, hbel⟩
          rw [H1.out, H2.out]
          exact hown
      case rest =>
        obtain ⟨hownH, hbelH⟩ := hcut
        clear hown hbel hsz
        have hszH := hbelH.size
        have hclx : Em.cle f 127 x ≤ x := Em.num_le _ _
        go_upto_region 11 with fail
        go_cut [7] (fun v wx => ∃ g, v = .slice (some ⟨g, 0, none⟩) 0 (x - Em.cle f 127 x) ∧ wx.ownsRow w.heap.size 3 1 v 0 [] ∧ wx.ownsRow w.heap.size 5 1 u4 (Em.head f x).length ((Em.head f x).map (Value.int .u8)) ∧ Below w.heap.size w wx)
        case first =>
          go_wp2_with (at_make; refine wpList_make_own _ rfl _ _ 48 rfl w.heap.size 3 i3 (.int .i64 0) 1 Try.underlying48 hi3 hz30 hz31 .i64 .i64 _ (x - Em.cle f 127 x) rfl rfl (by omega) (by rw [hz32]; omega) (by unfold maxLen; omega) (by omega) ?_; intro w1 hownO hgrowO)
          go_meet
          exact ⟨_, rfl, hownO, hownH.kept hgrowO (by cases hq : Value.ownBlock _ with | none => exact .inl rfl | some k => exact .inr (by simp)), hbelH.grown hgrowO (by omega) (fun k hk => by cases hk)⟩
        case rest =>
          obtain ⟨g, rfl, hownO, hownW, hbelO⟩ := hcut
          clear hownH hbelH hszH
          go_wp2
          go_loopw [7, 8] (fun v k wr' => ∃ y : Nat, y ≤ x ∧ k = .int .i64 y ∧ v = .slice (some ⟨g, 0, none⟩) (Em.nb f y).length (x - Em.cle f 127 x) ∧ wr'.ownsRow w.heap.size 3 1 (.slice (some ⟨g, 0, none⟩) (Em.nb f y).length (x - Em.cle f 127 x)) (Em.nb f y).length (pcell (Em.nb f y)) ∧ wr'.ownsRow w.heap.size 5 1 u4 (Em.head f x).length ((Em.head f x).map (Value.int .u8)) ∧ Below w.heap.size w wr') (fun _ k _ => x - (intOf k).toNat)
          case atStart => exact ⟨0, Nat.zero_le _, rfl, rfl, hownO, hownW, hbelO⟩
          case round =>
            clear hownO hownW hbelO
            obtain ⟨y, hy, rfl, rfl, hown, hownW, hbel⟩ := hrel
            have hsz := hbel.size
            by_cases hlt2 : y < x
            · obtain rfl := HA.out (by omega)
              have q := HCF.out y hlt2
              have gc := (hbel.cell (p := ⟨b, off + y, none⟩) (World.block_lt_of_cell? w _ q)).trans q
              clear q
              have i1 : (y : Int) < (x : Int) := by omega
              by_cases hb : 128 ≤ f y
              · have hnb := nb_yes f y hb
                have hle := nb_mono f (x := y + 1) (y := x) (by omega)
                have hnl := nb_len f x
                rw [hnb, List.length_append] at hle
                have HNB := hide hnb
                clear hnb
                simp only [List.length_singleton] at hle
                go_wp2_with (at_builtin; refine wpList_append_fits _ rfl _ _ 48 rfl w.heap.size 3 i3 1 Try.underlying48 hi3 hz31 g (Em.nb f y).length (x - Em.cle f 127 x) (pcell (Em.nb f y)) rfl (hown.alloc _) ⟨wr.heap.size, 0, none⟩ 1 1 [.int .i64 (y : Int)] rfl rfl (cell_one_new _ _ _) ?k2 ?k3 ?_)
                case k2 => first | rfl | (intro u hu; simp at hu; subst hu; rfl)
                case k3 => omega
                · intro w1 hown' hgrow
                  have R1 := below_app (by omega) hown hbel (by exact hgrow)
                  have R2 := own_app hown hownW (by decide) (by exact hgrow)
                  rw [pcell_append] at hown'
                  clear hgrow hown hownW hbel gc
                  go_wp2
                  go_roundw
                  case rel => exact ⟨y + 1, by omega, by go_num, by rw [HNB.out, List.length_append]; rfl, by rw [HNB.out, List.length_append]; exact hown', R2, R1⟩
                  case measure => simp [intOf]; omega
              · have HNB := hide (nb_no f y hb)
                go_wp2
                go_roundw
                case rel => exact ⟨y + 1, by omega, by go_num, by rw [HNB.out], by rw [HNB.out]; exact hown, hownW, hbel⟩
                case measure => simp [intOf]; omega
            · obtain rfl : y = x := by omega
              have hnl := nb_len f y
              go_wp2
              go_loopw [9] (fun aa wr' => ∃ A : Nat, 1 ≤ A ∧ (A ≤ (Em.nb f y).length ∨ A = 1) ∧ aa = .int .i64 A ∧ wr'.ownsRow w.heap.size 3 1 (.slice (some ⟨g, 0, none⟩) (Em.nb f y).length (y - Em.cle f 127 y)) (Em.nb f y).length (pcell (sorted f (Em.nb f y) A ++ (Em.nb f y).drop A)) ∧ wr'.ownsRow w.heap.size 5 1 u4 (Em.head f y).length ((Em.head f y).map (Value.int .u8)) ∧ Below w.heap.size w wr') (fun aa _ => y + 1 - (intOf aa).toNat)
              case atStart => exact ⟨1, by omega, by omega, rfl, by rw [sort_start]; exact hown, hownW, hbel⟩
              case round =>
                clear hown hownW hbel hsz
                obtain ⟨A, hA1, hA2, rfl, hown, hownW, hbel⟩ := hrel
                have hsz := hbel.size
                by_cases hlt3 : A < (Em.nb f y).length
                · have HS := hide (sort_holed f (Em.nb f y) A hlt3)
                  have HSL := hide (sorted_len f (Em.nb f y) A (by omega))
                  have ga := pcell_cell hown A (by have := HSL.out; simp; omega)
                  rw [sort_at f _ A hlt3] at ga
                  have hXn := nb_at f y A hlt3
                  obtain ⟨X, hX⟩ : ∃ X, X = (Em.nb f y).getD A 0 := ⟨_, rfl⟩
                  rw [← hX] at ga hXn
                  have HX := hide hX
                  clear hX
                  have i1 : (A : Int) < ((Em.nb f y).length : Int) := by omega
                  obtain rfl := HA.out (by omega)
                  go_wp2
                  go_loopw [11] (fun bv wr' => ∃ bb s : Nat, bb ≤ A ∧ bv = .int .i64 bb ∧ wr'.ownsRow w.heap.size 3 1 (.slice (some ⟨g, 0, none⟩) (Em.nb f y).length (y - Em.cle f 127 y)) (Em.nb f y).length (pcell (holed (sorted f (Em.nb f y) A) bb s ((Em.nb f y).drop (A + 1)))) ∧ (∀ i, bb ≤ i → i < A → f X < f ((sorted f (Em.nb f y) A).getD i 0)) ∧ wr'.ownsRow w.heap.size 5 1 u4 (Em.head f y).length ((Em.head f y).map (Value.int .u8)) ∧ Below w.heap.size w wr') (fun bv _ => (intOf bv).toNat)
                  case atStart => exact ⟨A, X, by omega, rfl, by rw [HX.out, ← HS.out]; exact hown, fun i h1 h2 => by omega, hownW, hbel⟩
                  case round =>
                    clear hown hownW hbel hsz ga
                    obtain ⟨bb, s, hbA, rfl, hown, hall, hownW, hbel⟩ := hrel
                    have hsz := hbel.size
                    have HALL := hide hall
                    clear hall
                    have q := HCF.out X hXn
                    have gx := (hbel.cell (p := ⟨b, off + X, none⟩) (World.block_lt_of_cell? w _ q)).trans q
                    clear q
                    have i2 : (X : Int) < (y : Int) := by omega
                    have hhl := holed_len (sorted f (Em.nb f y) A) ((Em.nb f y).drop (A + 1)) bb s
                    rw [HSL.out, List.length_drop] at hhl
                    have HHL := hide hhl
                    clear hhl
                    have fz := hown.frozenAt bb
                    have cb := pcell_cell hown bb (by rw [HHL.out]; omega)
                    have RW := own_set (j := bb) (v := .int .i64 (X : Int)) hown hownW (by decide)
                    have RB := hbel.setCell (p := ⟨g, bb, none⟩) (hown.lt g rfl).1 (.int .i64 (X : Int))
                    have RS := (hown.stored bb (.int .i64 (X : Int))).1
                    rw [pcell_set] at RS
                    have HNEXT : Hid (bb = 0 ∨ f ((sorted f (Em.nb f y) A).getD (bb - 1) 0) ≤ f X → (holed (sorted f (Em.nb f y) A) bb s ((Em.nb f y).drop (A + 1))).set bb X = sorted f (Em.nb f y) (A + 1) ++ (Em.nb f y).drop (A + 1)) := fun h => by
                      rw [HX.out]; exact sort_next f y A bb s hlt3 hbA (by rw [← HX.out]; exact h) (by rw [← HX.out]; exact HALL.out)
                    by_cases hb0 : bb = 0
                    · subst hb0
                      rw [HNEXT.out (.inl rfl)] at RS
                      have hd0 : decide ((0 : Int) < ((0 : Nat) : Int)) = false := by decide
                      go_wp2
                      go_quiet (fail)
                      go_wp2
                      go_roundw
                      case rel => exact ⟨A + 1, by omega, by omega, by go_num, RS, RW, below_drewN RB _⟩
                      case measure => simp [intOf]; omega
                    · obtain ⟨c, rfl⟩ : ∃ c, bb = c + 1 := ⟨bb - 1, by omega⟩
                      have gp := pcell_cell hown c (by rw [HHL.out]; omega)
                      rw [holed_get _ _ _ _ _ (by rw [HSL.out]; omega) (by omega)] at gp
                      have hPn := sorted_at f y A c (by rw [HSL.out]; omega)
                      have HSH := hide (holed_shift (sorted f (Em.nb f y) A) ((Em.nb f y).drop (A + 1)) c s (by rw [HSL.out]; omega))
                      rw [Nat.add_sub_cancel] at HNEXT
                      obtain ⟨Pp, hPp⟩ : ∃ Pp, Pp = (sorted f (Em.nb f y) A).getD c 0 := ⟨_, rfl⟩
                      rw [← hPp] at gp hPn HNEXT HSH
                      have HPP := hide hPp
                      clear hPp
                      have q := HCF.out Pp hPn
                      have gq := (hbel.cell (p := ⟨b, off + Pp, none⟩) (World.block_lt_of_cell? w _ q)).trans q
                      clear q
                      have i3' : (Pp : Int) < (y : Int) := by omega
                      have i4 : (0 : Int) < ((c + 1 : Nat) : Int) := by omega
                      have i5' : (0 : Int) ≤ (c : Int) := by omega
                      have i6 : (c : Int) < ((Em.nb f y).length : Int) := by omega
                      have i7 : ((c : Int) + 1) < ((Em.nb f y).length : Int) := by omega
                      by_cases hgt : f X < f Pp
                      · have RSc := (hown.stored (c + 1) (.int .i64 (Pp : Int))).1
                        rw [pcell_set, HSH.out] at RSc
                        have RWc := own_set (j := c + 1) (v := .int .i64 (Pp : Int)) hown hownW (by decide)
                        have RBc := hbel.setCell (p := ⟨g, c + 1, none⟩) (hown.lt g rfl).1 (.int .i64 (Pp : Int))
                        clear RS RW RB HNEXT
                        have HALL2 : Hid (∀ i, c ≤ i → i < A → f X < f ((sorted f (Em.nb f y) A).getD i 0)) := fun i h1 h2 => by
                          by_cases e : i = c
                          · subst e; rw [← HPP.out]; exact hgt
                          · exact HALL.out i (by omega) h2
                        go_wp2
                        go_quiet (fail)
                        go_wp2
                        go_roundw
                        case rel => exact ⟨c, Pp, by omega, by go_num, by rw [HPP.out] at *; exact RSc, HALL2.out, RWc, below_drewN RBc _⟩
                        case measure => first | (simp [intOf]; done) | (simp [intOf]; omega)
                      · rw [HNEXT.out (.inr (by omega))] at RS
                        go_wp2
                        go_quiet (fail)
                        go_wp2
                        go_roundw
                        case rel => exact ⟨A + 1, by omega, by omega, by go_num, RS, RW, below_drewN RB _⟩
                        case measure => simp [intOf]; omega
                · rw [sort_done f y A (by omega)] at hown
                  have HML := hide ((Em.ord_perm f y).length_eq)
                  go_wp2
                  go_loopw [4, 12, 13, 14, 15] (fun v pcv ppv bv jv wr' => ∃ j : Nat, j ≤ J ∧ jv = .int .i64 j ∧ pcv = .int .i64 (Em.pc f y (Em.head f y) j) ∧ ppv = .int .i64 (Em.pp f y (Em.head f y) j) ∧ bv = .int .i64 (Em.bi f y (Em.head f y) j) ∧ wr'.ownsRow w.heap.size 5 1 v (Em.out f y (Em.head f y) j).length ((Em.out f y (Em.head f y) j).map (Value.int .u8)) ∧ wr'.ownsRow w.heap.size 3 1 (.slice (some ⟨g, 0, none⟩) (Em.nb f y).length (y - Em.cle f 127 y)) (Em.nb f y).length (pcell (Em.ord f y)) ∧ Below w.heap.size w wr') (fun _ _ _ _ jv _ => y + 1 - (intOf jv).toNat)
                  case atStart => exact ⟨0, Nat.zero_le _, rfl, rfl, rfl, rfl, hownW, hown, hbel⟩
                  case round =>
                    clear hown hownW hbel hsz
                    obtain ⟨j, hjJ, rfl, rfl, rfl, rfl, hownW, hown, hbel⟩ := hrel
                    have hsz := hbel.size
                    have hJm := HJ.out.le
                    rw [HML.out] at hJm
                    by_cases hlt4 : j < (Em.nb f y).length
                    · have hjm : j < (Em.ord f y).length := by rw [HML.out]; exact hlt4
                      obtain ⟨px, C, PC, PP, BI, R⟩ := mr_ex f y j hjm HZF.out
                      have hol := Em.out_len f y (Em.head f y) hm (fun k hk => (HZF.out k hk).2) (j := j) (by omega)
                      have hhl := Em.head_len f y
                      have gp := pcell_cell hown j hjm
                      change wr.cell? ⟨g, j, none⟩ = some (.int .i64 ((Em.px f y j : Nat) : Int)) at gp
                      rw [← R.hpx] at gp
                      have q := HCF.out px R.p1
                      rw [← R.hC] at q
                      have gl := (hbel.cell (p := ⟨b, off + px, none⟩) (World.block_lt_of_cell? w _ q)).trans q
                      clear q
                      rw [← R.hPC, ← R.hPP, ← R.hBI]
                      have p1 := R.p1
                      have z0 := R.z0
                      have z1 := R.z1
                      have c1 := R.c1
                      have c2 := R.c2
                      have q1 := R.q1
                      have q2 := R.q2
                      have b0 := R.b0
                      have b1 := R.b1
                      have s2 := R.s2
                      have r1 := R.r1
                      have r2 := R.r2
                      have e1 := R.e1
                      have d0 := R.d0
                      have d1 := R.d1
                      have HR := hide R
                      clear R
                      have ib : (j : Int) < ((Em.nb f y).length : Int) := by omega
                      have ic : (px : Int) < (y : Int) := by omega
                      obtain rfl := HA.out (by omega)
                      go_wp2
                      go_loop [19, 20] (fun cn k => ∃ q : Nat, q ≤ px ∧ k = .int .i64 q ∧ cn = .int .i64 (Em.cle f C q)) (fun _ k => px - (intOf k).toNat)
                      case atStart => exact ⟨0, Nat.zero_le _, rfl, rfl⟩
                      case round =>
                        obtain ⟨q, hq, rfl, rfl⟩ := hrel
                        have hcq : Em.cle f C q ≤ q := Em.num_le _ _
                        by_cases hlt5 : q < px
                        · have q' := HCF.out q (by omega)
                          have gk := (hbel.cell (p := ⟨b, off + q, none⟩) (World.block_lt_of_cell? w _ q')).trans q'
                          clear q'
                          obtain ⟨zq0, zq1⟩ := HZF.out q (by omega)
                          have id : (q : Int) < (y : Int) := by omega
                          by_cases hle : f q ≤ C
                          · have H1 := hide (Em.cle_succ_yes f C q hle)
                            go_wp2
                            go_round
                            case rel => exact ⟨q + 1, by omega, by go_num, by rw [H1.out]; go_num⟩
                            case measure => simp [intOf]; omega
                          · have H1 := hide (Em.cle_succ_no f C q hle)
                            go_wp2
                            go_round
                            case rel => exact ⟨q + 1, by omega, by go_num, by rw [H1.out]⟩
                            case measure => simp [intOf]; omega
                        · obtain rfl : q = px := by omega
                          by_cases hj0 : j = 0
                          · have HJ0 := hide hj0
                            have hjb : ((j : Int) == 0) = true := by rw [hj0]; rfl
                            have HB : Hid ((j == 0) = true) := by rw [hj0]; rfl
                            clear hj0
                            by_cases ho : 2147483647 < (C - PC) * ((Em.cle f 127 y : Int) + (j : Int) + 1) - PP - 1
                            · have hJj : J = j := HJ.out.eq hjJ (HR.out.hov.2 ⟨.inl HJ0.out, ho⟩)
                              have hdf : decide (J = (Em.ord f y).length) = false := by rw [hJj, HML.out]; exact decide_eq_false (by omega)
                              have HJj := hide hJj
                              clear hJj
                              go_wp2
                              go_ret2
                              exact ⟨_, by first | rfl | (rw [hdf]; rfl), by rw [HJj.out]; exact hownW, hbel⟩
                            · have hjl : j < J := HJ.out.lt hjJ hjm (fun h => ho (HR.out.hov.1 h).2)
                              go_wp2_with (first | (go_at_call 29; refine (appDig w.heap.size _ _ _ _ _ wr (by omega) (by omega) d0 (by omega) b0 b1 hownW).mono ?_; rintro e w5 ⟨v5, rfl, hown5, hb5, hr5⟩) | (go_at_call 19; refine (zzadapt_any _ _ _ _ d0 (by omega) (by omega) (by omega)).mono ?_; rintro e w6 ⟨rfl, rfl⟩))
                              have RB5 := hbel.trans hb5
                              have RO5 := owns_keep hown hownW hr5
                              go_roundw
                              case rel => exact ⟨j + 1, by omega, by go_num, by rw [Em.pc_succ, ← HR.out.hpx, ← HR.out.hC], by rw [Em.pp_succ, ← HR.out.hpx, ← HR.out.hC], by rw [Em.bi_succ, HR.out.hdl, HB.out]; rfl, by rw [Em.out_succ, HR.out.hdl, ← HR.out.hBI, List.length_append, List.map_append]; exact hown5, RO5, RB5⟩
                              case measure => simp [intOf]; omega
                          · have hjb : ((j : Int) == 0) = false := beq_eq_false_iff_ne.2 (by omega)
                            have HB : Hid ((j == 0) = false) := beq_eq_false_iff_ne.2 hj0
                            have gq := pcell_cell hown (j - 1) (by omega)
                            change wr.cell? ⟨g, j - 1, none⟩ = some (.int .i64 ((Em.px f y (j - 1) : Nat) : Int)) at gq
                            obtain ⟨pm1, _⟩ := Em.px_mem f y (j := j - 1) (by omega)
                            have q' := HCF.out _ pm1
                            have gm := (hbel.cell (p := ⟨b, off + Em.px f y (j - 1), none⟩) (World.block_lt_of_cell? w _ q')).trans q'
                            clear q'
                            obtain ⟨zm0, zm1⟩ := HZF.out _ pm1
                            have ie : ((Em.px f y (j - 1) : Nat) : Int) < (y : Int) := by omega
                            have ig : (0 : Int) ≤ (j : Int) - 1 := by omega
                            have ih : (j : Int) - 1 < ((Em.nb f y).length : Int) := by omega
                            by_cases hsame : f (Em.px f y (j - 1)) = C
                            · rw [hsame] at gm
                              have hjl : j < J := HJ.out.lt hjJ hjm (fun h => by
                                rcases (HR.out.hov.1 h).1 with h0 | h0
                                · exact hj0 h0
                                · exact h0 hsame)
                              clear hsame
                              go_wp2_with (first | (go_at_call 29; refine (appDig w.heap.size _ _ _ _ _ wr (by omega) (by omega) d0 (by omega) b0 b1 hownW).mono ?_; rintro e w5 ⟨v5, rfl, hown5, hb5, hr5⟩) | (go_at_call 19; refine (zzadapt_any _ _ _ _ d0 (by omega) (by omega) (by omega)).mono ?_; rintro e w6 ⟨rfl, rfl⟩))
                              have RB5 := hbel.trans hb5
                              have RO5 := owns_keep hown hownW hr5
                              go_roundw
                              case rel => exact ⟨j + 1, by omega, by go_num, by rw [Em.pc_succ, ← HR.out.hpx, ← HR.out.hC], by rw [Em.pp_succ, ← HR.out.hpx, ← HR.out.hC], by rw [Em.bi_succ, HR.out.hdl, HB.out]; rfl, by rw [Em.out_succ, HR.out.hdl, ← HR.out.hBI, List.length_append, List.map_append]; exact hown5, RO5, RB5⟩
                              case measure => simp [intOf]; omega
                            · have hnb : (f (Em.px f y (j - 1)) != C) = true := by rw [bne_iff_ne]; exact hsame
                              by_cases ho : 2147483647 < (C - PC) * ((Em.cle f 127 y : Int) + (j : Int) + 1) - PP - 1
                              · have hJj : J = j := HJ.out.eq hjJ (HR.out.hov.2 ⟨.inr hsame, ho⟩)
                                have hdf : decide (J = (Em.ord f y).length) = false := by rw [hJj, HML.out]; exact decide_eq_false (by omega)
                                have HJj := hide hJj
                                clear hJj
                                go_wp2
                                go_ret2
                                exact ⟨_, by first | rfl | (rw [hdf]; rfl), by rw [HJj.out]; exact hownW, hbel⟩
                              · have hjl : j < J := HJ.out.lt hjJ hjm (fun h => ho (HR.out.hov.1 h).2)
                                go_wp2_with (first | (go_at_call 29; refine (appDig w.heap.size _ _ _ _ _ wr (by omega) (by omega) d0 (by omega) b0 b1 hownW).mono ?_; rintro e w5 ⟨v5, rfl, hown5, hb5, hr5⟩) | (go_at_call 19; refine (zzadapt_any _ _ _ _ d0 (by omega) (by omega) (by omega)).mono ?_; rintro e w6 ⟨rfl, rfl⟩))
                                have RB5 := hbel.trans hb5
                                have RO5 := owns_keep hown hownW hr5
                                go_roundw
                                case rel => exact ⟨j + 1, by omega, by go_num, by rw [Em.pc_succ, ← HR.out.hpx, ← HR.out.hC], by rw [Em.pp_succ, ← HR.out.hpx, ← HR.out.hC], by rw [Em.bi_succ, HR.out.hdl, HB.out]; rfl, by rw [Em.out_succ, HR.out.hdl, ← HR.out.hBI, List.length_append, List.map_append]; exact hown5, RO5, RB5⟩
                                case measure => simp [intOf]; omega
                    · have ej : j = J := by omega
                      have HE : Hid (J = (Em.ord f y).length) := by rw [HML.out]; show J = _; omega
                      clear HML
                      subst ej
                      have hdt : decide (j = (Em.ord f y).length) = true := by simpa using HE.out
                      go_wp2
                      go_ret2
                      exact ⟨_, by first | rfl | (rw [hdt]; rfl), hownW, hbel⟩

end Go.Proofs.Qxb6602111a
