/-
  WALK: encode.
-/
import Derived.Test.Qxb6602111aPut
import Derived.Test.Qxb6602111aEncRel
import Derived.Deep.DeepCutAuto
namespace Go.Proofs.Qxb6602111a
open Go.RowKit Kit

/-- What encode leaves: W the text that it would write, 'all' whether the label can be written whole. -/
def EncPost (G N : Nat) (D W : List Int) (all : Prop) (w : World) (e : Ending) (w' : World) : Prop :=
  ∃ r ok, e = .returned (.tuple #[r, .bool ok]) ∧ (ok = true → W.length ≤ N ∧ all ∧ r = .slice (some ⟨G, 0, none⟩) W.length N) ∧ (ok = false → ¬ (W.length ≤ N ∧ all) ∧ r = .slice none 0 0) ∧
    w'.heap[G]? = some (.cells ((W.take N ++ D.drop W.length).map (Value.int .u8)).toArray 5 (0, 0)) ∧ Below G w w'

/-- A put that finds no room. -/
theorem enc_full {G N Bo : Nat} {D W o : List Int} {c : Int} {all : Prop} {w w' : World} (hp : Put w' Bo G N D o) (hfull : o.length = N) (hW : o ++ [c] <+: W) (hb : Below G w w') :
    EncPost G N D W all w (.returned (.tuple #[.slice none 0 0, .bool false])) w' := by
  obtain ⟨t, rfl⟩ := hW
  refine ⟨_, _, rfl, (fun h => by cases h), fun _ => ⟨fun h => by have := h.1; simp at this; omega, rfl⟩, ?_, hb⟩
  rw [hp.row]
  have e1 : D.drop o.length = [] := List.drop_eq_nil_of_le (by rw [hp.len]; omega)
  have e2 : D.drop (o ++ [c] ++ t).length = [] := List.drop_eq_nil_of_le (by rw [hp.len]; simp; omega)
  rw [e1, e2, ← hfull]
  simp

/-- The whole text is written, and the label is not. -/
theorem enc_stop {G N Bo : Nat} {D W : List Int} {all : Prop} {w w' : World} (hp : Put w' Bo G N D W) (hall : ¬ all) (hb : Below G w w') :
    EncPost G N D W all w (.returned (.tuple #[.slice none 0 0, .bool false])) w' := by
  refine ⟨_, _, rfl, (fun h => by cases h), fun _ => ⟨fun h => hall h.2, rfl⟩, ?_, hb⟩
  rw [hp.row, List.take_of_length_le hp.le]

/-- The whole text is written. -/
theorem enc_done {G N Bo : Nat} {D W : List Int} {all : Prop} {w w' : World} (hp : Put w' Bo G N D W) (hall : all) (hb : Below G w w') :
    EncPost G N D W all w (.returned (.tuple #[.slice (some ⟨G, 0, none⟩) W.length N, .bool true])) w' := by
  refine ⟨_, _, rfl, fun _ => ⟨hp.le, hall, rfl⟩, (fun h => by cases h), ?_, hb⟩
  rw [hp.row, List.take_of_length_le hp.le]

theorem put_start {w : World} {G N : Nat} {D : List Int} (hr : w.heap[G]? = some (.cells (D.map (Value.int .u8)).toArray 5 (0, 0))) (hD : D.length = N) : Put (w.alloc (.cells #[.slice (some ⟨G, 0, none⟩) 0 N] 22)) w.heap.size G N D [] :=
  ⟨heap_alloc_new w _, (Below.heap_alloc w _ G (lt_of_block hr)).trans (by simpa using hr), by simp, hD⟩

set_option maxRecDepth 100000 in
set_option maxHeartbeats 8000000 in
theorem encode_any (G N : Nat) (D : List Int) (a : Option Addr) (n cap b off : Nat) (zs : List Int) (J : Nat) (w : World) (hm : n ≤ 65536)
    (hr : w.heap[G]? = some (.cells (D.map (Value.int .u8)).toArray 5 (0, 0))) (hD : D.length = N) (ha : 0 < n → a = some ⟨b, off, none⟩) (hbG : 0 < n → b < G)
    (hc : ∀ j, j < n → w.cell? ⟨b, off + j, none⟩ = some (.int .i32 (zs.getD j 0))) (hz : ∀ k, k < n → 0 ≤ zs.getD k 0 ∧ zs.getD k 0 ≤ 1114111)
    (hJ : Em.Stop (fun i => zs.getD i 0) n (Em.head (fun i => zs.getD i 0) n) J) :
    Calls Try.prog 28 #[.slice (some ⟨G, 0, none⟩) N N, .slice a n cap] w
      (EncPost G N D (Em.out (fun i => zs.getD i 0) n (Em.head (fun i => zs.getD i 0) n) J) (J = (Em.ord (fun i => zs.getD i 0) n).length) w) := by
  obtain ⟨f, hf⟩ : ∃ f : Nat → Int, f = fun i => zs.getD i 0 := ⟨_, rfl⟩
  have hfz : ∀ k, f k = zs.getD k 0 := fun k => by rw [hf]
  rw [← hf] at hJ ⊢
  have HF := hide hfz
  have HZ := hide hz
  have HA := hide ha
  have HC := hide hc
  have HJ := hide hJ
  have HBG := hide hbG
  clear hf hfz hz ha hc hJ hbG
  have HCF : Hid (∀ j, j < n → w.cell? ⟨b, off + j, none⟩ = some (.int .i32 (f j))) := fun j hj => by rw [HF.out]; exact HC.out j hj
  have HZF : Hid (∀ k, k < n → 0 ≤ f k ∧ f k ≤ 1114111) := fun k hk => by rw [HF.out]; exact HZ.out k hk
  clear HC HZ HF
  obtain ⟨W, hW⟩ : ∃ W, W = Em.out f n (Em.head f n) J := ⟨_, rfl⟩
  have HWP : Hid (∀ j, j ≤ J → Em.out f n (Em.head f n) j <+: W) := fun j hj => by rw [hW]; exact Em.out_pref f n _ hj
  have HWJ : Hid (Em.out f n (Em.head f n) J = W) := hW.symm
  rw [← hW]
  clear hW
  have HWH : Hid (Em.head f n <+: W) := HWP.out 0 (Nat.zero_le _)
  have hGlt := lt_of_block hr
  have hp0 := put_start hr hD
  have hb0 : Below G w (w.alloc (.cells #[.slice (some ⟨G, 0, none⟩) 0 N] 22)) := (Below.refl G w).alloc (by omega) _
  have hBo : G ≤ w.heap.size := by omega
  clear hr hD
  go_enter Try.func28, Try.ntmps28
  go_wp2
  go_loopw [28] (fun i wr => ∃ x : Nat, x ≤ n ∧ i = .int .i64 x ∧ Put wr w.heap.size G N D (Em.bas f x) ∧ Below G w wr) (fun i _ => n - (intOf i).toNat)
  case atStart => exact ⟨0, Nat.zero_le _, rfl, hp0, hb0⟩
  case round =>
    clear hp0 hb0
    obtain ⟨x, hx, rfl, hp, hbel⟩ := hrel
    have hsz := hbel.size
    by_cases hlt : x < n
    · obtain rfl := HA.out (by omega)
      have q := HCF.out x hlt
      have gl := (hbel.cell (p := ⟨b, off + x, none⟩) (HBG.out (by omega))).trans q
      clear q
      obtain ⟨z0, z1⟩ := HZF.out x hlt
      have i1 : (x : Int) < (n : Int) := by omega
      by_cases hb : f x < 128
      · have H2 := hide (Em.bas_yes f x hb)
        have HPR : Hid (Em.bas f x ++ [f x] <+: W) := by
          have := (Em.head_pref f n (x := x + 1) (by omega)).trans HWH.out
          rw [H2.out] at this; exact this
        by_cases hfull : (Em.bas f x).length = N
        · have HFU := hide hfull
          clear hfull
          go_wp2_with (go_at_call 37; refine (put_no _ G N D _ _ wr hp HFU.out).mono ?_; rintro e w1 ⟨rfl, rfl⟩)
          go_ret2
          exact enc_full hp HFU.out HPR.out hbel
        · have hroom : (Em.bas f x).length < N := by have := hp.le; omega
          go_wp2_with (go_at_call 37; refine (put_yes _ G N D _ _ wr hp hroom G hBo (Nat.le_refl _)).mono ?_; rintro e w1 ⟨rfl, hp1, hb1⟩)
          have R := hbel.trans hb1
          go_roundw
          case rel => exact ⟨x + 1, by omega, by go_num, by rw [H2.out]; exact hp1, R⟩
          case measure => simp [intOf]; omega
      · have H2 := hide (Em.bas_no f x hb)
        go_wp2
        go_roundw
        case rel => exact ⟨x + 1, by omega, by go_num, by rw [H2.out]; exact hp, hbel⟩
        case measure => simp [intOf]; omega
    · obtain rfl : x = n := by omega
      have cv := cell_of_one hp.var
      rw [Em.bas_len] at cv
      go_upto_region 10 with fail
      go_cut [50] (fun c wx => ((c = .bool false ∧ Put wx w.heap.size G N D (Em.head f x)) ∨ (c = .bool true ∧ Put wx w.heap.size G N D (Em.bas f x) ∧ (Em.bas f x).length = N ∧ Em.bas f x ++ [45] <+: W)) ∧ Below G w wx)
      case first =>
        by_cases hpos : 0 < Em.cle f 127 x
        · have H1 : Hid (Em.head f x = Em.bas f x ++ [45]) := by show _ = _; unfold Em.head; rw [if_pos hpos]
          by_cases hfull : (Em.bas f x).length = N
          · have HFU := hide hfull
            clear hfull
            go_wp2_with (go_at_call 37; refine (put_no _ G N D _ _ wr hp HFU.out).mono ?_; rintro e w1 ⟨rfl, rfl⟩)
            go_meet
            exact ⟨.inr ⟨rfl, hp, HFU.out, by rw [← H1.out]; exact HWH.out⟩, hbel⟩
          · have hroom : (Em.bas f x).length < N := by have := hp.le; omega
            go_wp2_with (go_at_call 37; refine (put_yes _ G N D _ _ wr hp hroom G hBo (Nat.le_refl _)).mono ?_; rintro e w1 ⟨rfl, hp1, hb1⟩)
            go_meet
            exact ⟨.inl ⟨rfl, by rw [H1.out]; exact hp1⟩, hbel.trans hb1⟩
        · have H1 : Hid (Em.head f x = Em.bas f x) := by show _ = _; unfold Em.head; rw [if_neg hpos, List.append_nil]
          have hd0 : decide ((0 : Int) < (Em.cle f 127 x : Int)) = false := decide_eq_false (by omega)
          go_wp2_with fail
          go_meet
          exact ⟨.inl ⟨rfl, by rw [H1.out]; exact hp⟩, hbel⟩
      case rest =>
        clear hp hbel hsz cv
        obtain ⟨hcut, hbel⟩ := hcut
        have hsz := hbel.size
        rcases hcut with ⟨rfl, hp⟩ | ⟨rfl, hp, hfull, hpre⟩
        · go_wp2
          go_loopw [11, 12, 13, 14] (fun nv dv bv ov wr' => ∃ (nn : Int) (j : Nat) (dl : Int), nv = .int .i32 nn ∧ dv = .int .i64 dl ∧ bv = .int .i64 (Em.bi f x (Em.head f x) j) ∧ ov = .int .i64 ((Em.cle f 127 x : Int) + (j : Int)) ∧ Em.Out f x J nn j dl ∧ Put wr' w.heap.size G N D (Em.out f x (Em.head f x) j) ∧ Below G w wr') (fun nv _ _ _ _ => (1114113 - intOf nv).toNat)
          case atStart => exact ⟨128, 0, 0, rfl, rfl, rfl, by go_num, Em.Out.start, hp, hbel⟩
          case round =>
            clear hp hbel hsz
            obtain ⟨nn, j, dl, rfl, rfl, rfl, rfl, hO, hp, hbel⟩ := hrel
            have hsz := hbel.size
            have o1 := hO.lo
            have o2 := hO.hi
            have o3 := hO.d0
            have o4 := hO.d1
            have o5 := hO.hj
            have hJm := HJ.out.le
            have hol := Em.ord_len f x
            obtain ⟨bi0, bi1⟩ := Em.bi_bd f x (Em.head f x) (j := j) (by omega)
            by_cases hlt2 : Em.cle f 127 x + j < x
            · obtain rfl := HA.out (by omega)
              go_wp2
              go_loop [15, 58] (fun nx i => ∃ (y : Nat) (c : Int), y ≤ x ∧ i = .int .i64 y ∧ nx = .int .i32 c ∧ c ≤ 1114111 ∧ 128 ≤ c ∧ (∀ k, k < y → nn ≤ f k → c ≤ f k) ∧ (c = 1114111 ∨ ∃ k, k < y ∧ f k = c ∧ nn ≤ c)) (fun _ i => x - (intOf i).toNat)
              case atStart => exact ⟨0, 1114111, by omega, rfl, rfl, by omega, by omega, fun k hk => by omega, .inl rfl⟩
              case round =>
                obtain ⟨y, c, hy, rfl, rfl, c1, c2, hmin, hatt⟩ := hrel
                have HMIN := hide hmin
                have HATT := hide hatt
                clear hmin hatt
                by_cases hlt3 : y < x
                · have q := HCF.out y hlt3
                  have gl := (hbel.cell (p := ⟨b, off + y, none⟩) (HBG.out (by omega))).trans q
                  clear q
                  obtain ⟨z0, z1⟩ := HZF.out y hlt3
                  have i1 : (y : Int) < (x : Int) := by omega
                  by_cases hge : nn ≤ f y
                  · by_cases hcm : c ≤ f y
                    · have R1 : Hid (∀ k, k < y + 1 → nn ≤ f k → c ≤ f k) := fun k hk hnk => by
                        by_cases e : k = y
                        · subst e; exact hcm
                        · exact HMIN.out k (by omega) hnk
                      have R2 : Hid (c = 1114111 ∨ ∃ k, k < y + 1 ∧ f k = c ∧ nn ≤ c) := by
                        rcases HATT.out with e | ⟨k, h1, h2, h3⟩
                        · exact .inl e
                        · exact .inr ⟨k, by omega, h2, h3⟩
                      go_wp2
                      go_round
                      case rel => exact ⟨y + 1, c, by omega, by go_num, by go_num, by omega, by omega, R1.out, R2.out⟩
                      case measure => simp [intOf]; omega
                    · have R1 : Hid (∀ k, k < y + 1 → nn ≤ f k → f y ≤ f k) := fun k hk hnk => by
                        by_cases e : k = y
                        · subst e; exact Int.le_refl _
                        · have := HMIN.out k (by omega) hnk; omega
                      have R2 : Hid (f y = 1114111 ∨ ∃ k, k < y + 1 ∧ f k = f y ∧ nn ≤ f y) := .inr ⟨y, by omega, rfl, hge⟩
                      go_wp2
                      go_round
                      case rel => exact ⟨y + 1, f y, by omega, by go_num, by go_num, by omega, by omega, R1.out, R2.out⟩
                      case measure => simp [intOf]; omega
                  · have R1 : Hid (∀ k, k < y + 1 → nn ≤ f k → c ≤ f k) := fun k hk hnk => by
                      by_cases e : k = y
                      · subst e; omega
                      · exact HMIN.out k (by omega) hnk
                    have R2 : Hid (c = 1114111 ∨ ∃ k, k < y + 1 ∧ f k = c ∧ nn ≤ c) := by
                      rcases HATT.out with e | ⟨k, h1, h2, h3⟩
                      · exact .inl e
                      · exact .inr ⟨k, by omega, h2, h3⟩
                    go_wp2
                    go_round
                    case rel => exact ⟨y + 1, c, by omega, by go_num, by go_num, by omega, by omega, R1.out, R2.out⟩
                    case measure => simp [intOf]; omega
                · obtain rfl : y = x := by omega
                  obtain ⟨l1, l2⟩ := hO.left hlt2 HZF.out HMIN.out HATT.out
                  have HEX := hide l2
                  clear l2
                  have hcast : ((Em.cle f 127 y + j : Nat) : Int) = (Em.cle f 127 y : Int) + (j : Int) := by omega
                  have HCAST := hide hcast
                  clear hcast
                  by_cases ht : c - nn ≤ (2147483647 - dl) / ((Em.cle f 127 y : Int) + (j : Int) + 1)
                  · obtain ⟨hI, m0, m1⟩ := hO.next HJ.out l1 HMIN.out HEX.out (by rw [HCAST.out]; exact ht)
                    rw [HCAST.out] at hI m0 m1
                    clear hO HMIN HATT
                    go_wp2
                    go_loopw [12, 13, 14, 91] (fun dv bv ov iv wr' => ∃ (z j' : Nat) (dd : Int), z ≤ y ∧ iv = .int .i64 z ∧ dv = .int .i64 dd ∧ bv = .int .i64 (Em.bi f y (Em.head f y) j') ∧ ov = .int .i64 ((Em.cle f 127 y : Int) + (j' : Int)) ∧ Em.Inn f y J c z j' dd ∧ Put wr' w.heap.size G N D (Em.out f y (Em.head f y) j') ∧ Below G w wr') (fun _ _ _ iv _ => y - (intOf iv).toNat)
                    case atStart => exact ⟨0, j, _, by omega, rfl, rfl, rfl, rfl, hI, hp, hbel⟩
                    case round =>
                      clear hI hp hbel hsz m0 m1 o1 o3 o4 o5 bi0 bi1 ht hlt2
                      obtain ⟨z, j', dd, hz, rfl, rfl, rfl, rfl, hI, hp, hbel⟩ := hrel
                      have hsz := hbel.size
                      have o3 := hI.d0
                      have o4 := hI.d1
                      have o5 := hI.hj
                      obtain ⟨bi0, bi1⟩ := Em.bi_bd f y (Em.head f y) (j := j') (by omega)
                      by_cases hlt4 : z < y
                      · have q := HCF.out z hlt4
                        have gl := (hbel.cell (p := ⟨b, off + z, none⟩) (HBG.out (by omega))).trans q
                        clear q
                        obtain ⟨z0, z1⟩ := HZF.out z hlt4
                        have i1 : (z : Int) < (y : Int) := by omega
                        rcases Int.lt_trichotomy (f z) c with hcmp | hcmp | hcmp
                        · have R := hI.below hcmp
                          clear hI
                          go_wp2
                          go_roundw
                          case rel => exact ⟨z + 1, j', dd + 1, by omega, by go_num, by go_num, rfl, rfl, R, hp, hbel⟩
                          case measure => simp [intOf]; omega
                        · rw [hcmp] at gl
                          obtain ⟨hm', hjJ', hpx, hdl, hI'⟩ := hI.ins HJ.out hlt4 c2 hcmp
                          have hdle := Em.dl_le f y (Em.head f y) hm' (fun k hk => (HZF.out k hk).2)
                          rw [hdl] at hdle
                          have HDL := hide hdl
                          have HPX := hide hpx
                          have HIN := hide hI'
                          have HOS : Hid (Em.out f y (Em.head f y) (j' + 1) = Em.out f y (Em.head f y) j' ++ Em.digits dd (Em.bi f y (Em.head f y) j')) := by rw [Em.out_succ, hdl]; rfl
                          have HBS : Hid (Em.bi f y (Em.head f y) (j' + 1) = Am.adaptF dd ((Em.cle f 127 y : Int) + (j' : Int) + 1) (j' == 0)) := by rw [Em.bi_succ, hdl]; rfl
                          have HWP1 : Hid (Em.out f y (Em.head f y) (j' + 1) <+: W) := HWP.out (j' + 1) (by omega)
                          clear hdl hpx hI' hcmp hI
                          obtain ⟨BI, hBI⟩ : ∃ BI, BI = Em.bi f y (Em.head f y) j' := ⟨_, rfl⟩
                          obtain ⟨O, hO'⟩ : ∃ O, O = Em.out f y (Em.head f y) j' := ⟨_, rfl⟩
                          rw [← hBI] at bi0 bi1 HOS ⊢
                          rw [← hO'] at hp HOS
                          clear hBI hO'
                          obtain ⟨DD, hDD⟩ : ∃ DD, DD = Em.digits dd BI := ⟨_, rfl⟩
                          have H0 : Hid ([] ++ Em.digs (dd.toNat + 1) 36 dd BI = DD) := by rw [hDD]; rfl
                          rw [← hDD] at HOS
                          clear hDD
                          have HPW : Hid (∀ pre s, pre ++ s = DD → O ++ pre <+: W) := fun pre s e => by
                            refine List.IsPrefix.trans ?_ HWP1.out
                            rw [HOS.out, ← e, ← List.append_assoc]
                            exact List.prefix_append _ _
                          have hdn : dd.toNat ≤ 100000000000 := by omega
                          have hfb : ((Em.cle f 127 y : Int) + (j' : Int) == (Em.cle f 127 y : Int)) = (j' == 0) := by
                            rw [Bool.eq_iff_iff]; simp; omega
                          go_wp2
                          go_loopw [20, 21] (fun qq kk wr' => ∃ (fu : Nat) (K Q : Int) (pre : List Int), kk = .int .i64 K ∧ qq = .int .i64 Q ∧ 0 ≤ Q ∧ Q ≤ dd ∧ Q.toNat < fu ∧ fu ≤ dd.toNat + 1 ∧ 0 ≤ K ∧ K + 36 * fu ≤ 36 * (dd.toNat + 2) ∧ pre ++ Em.digs fu K Q BI = DD ∧ Put wr' w.heap.size G N D (O ++ pre) ∧ Below G w wr') (fun qq _ _ => (intOf qq).toNat)
                          case atStart => exact ⟨dd.toNat + 1, 36, dd, [], rfl, rfl, by omega, by omega, by omega, by omega, by omega, by omega, H0.out, by simpa using hp, hbel⟩
                          case round =>
                            clear hp hbel hsz gl
                            obtain ⟨fu, K, Q, pre, rfl, rfl, Q0, Q1, hfu, hfu2, K0, K1, hpre, hp, hbel⟩ := hrel
                            obtain ⟨fv, rfl⟩ : ∃ fv, fu = fv + 1 := ⟨fu - 1, by omega⟩
                            have hsz := hbel.size
                            obtain ⟨t1, t2⟩ := Em.thr_bd K BI
                            by_cases hlt5 : Q < Em.thr K BI
                            · have hpre2 : pre ++ [Em.dg Q] = DD := by rw [← hpre, Em.digs_last _ _ _ _ hlt5]
                              have HP := hide hpre2
                              clear hpre hpre2
                              have HPW1 : Hid ((O ++ pre) ++ [Em.dg Q] <+: W) := by
                                rw [List.append_assoc]; exact HPW.out (pre ++ [Em.dg Q]) [] (by rw [List.append_nil]; exact HP.out)
                              by_cases hfull : (O ++ pre).length = N
                              · have HFU := hide hfull
                                clear hfull
                                go_wp2_with (first | (go_at_call 38; refine (thr38 K BI _ K0 (by omega) bi0 bi1).mono ?_; rintro e w' ⟨rfl, rfl⟩) | (go_at_call 39; refine (digitByte Q _ Q0 (by omega)).mono ?_; rintro e w' ⟨rfl, rfl⟩) | (go_at_call 37; refine (put_no _ G N D _ _ wr hp HFU.out).mono ?_; rintro e w1 ⟨rfl, rfl⟩))
                                go_ret2
                                exact enc_full hp HFU.out HPW1.out hbel
                              · have hroom : (O ++ pre).length < N := by have := hp.le; omega
                                have HRO := hide hroom
                                clear hfull hroom
                                go_wp2_with (first | (go_at_call 38; refine (thr38 K BI _ K0 (by omega) bi0 bi1).mono ?_; rintro e w' ⟨rfl, rfl⟩) | (go_at_call 39; refine (digitByte Q _ Q0 (by omega)).mono ?_; rintro e w' ⟨rfl, rfl⟩) | (go_at_call 37; refine (put_yes _ G N D _ _ wr hp HRO.out G hBo (Nat.le_refl _)).mono ?_; rintro e w1 ⟨rfl, hp1, hb1⟩) | (go_at_call 32; refine (adapt_any _ _ _ _ o3 (by omega) (by omega) (by omega)).mono ?_; rintro e w6 ⟨rfl, rfl⟩))
                                have RB := hbel.trans hb1
                                have RP : Put w1 w.heap.size G N D (Em.out f y (Em.head f y) (j' + 1)) := by
                                  rw [HOS.out, ← HP.out, ← List.append_assoc]; exact hp1
                                go_roundw
                                case rel => exact ⟨z + 1, j' + 1, 0, by omega, by go_num, rfl, by rw [HBS.out], by go_num, HIN.out, RP, RB⟩
                                case measure => simp [intOf]; omega
                            · have hpre2 : (pre ++ [Em.dg (Em.thr K BI + (Q - Em.thr K BI) % (36 - Em.thr K BI))]) ++ Em.digs fv (K + 36) ((Q - Em.thr K BI) / (36 - Em.thr K BI)) BI = DD := by
                                rw [← hpre, Em.digs_more _ _ _ _ hlt5, List.append_assoc]; rfl
                              have HP := hide hpre2
                              clear hpre hpre2
                              obtain ⟨n0, n1, _, n3, n4⟩ := Em.next_bd (Em.thr K BI) Q t1 t2 (by omega)
                              obtain ⟨t, ht⟩ : ∃ t, t = Em.thr K BI := ⟨_, rfl⟩
                              have hthr := fun W' => thr38 K BI W' K0 (by omega) bi0 bi1
                              rw [← ht] at hthr HP n0 n1 n3 n4 hlt5 t1 t2
                              have HTH := hide hthr
                              clear ht hthr
                              have HPW1 : Hid ((O ++ pre) ++ [Em.dg (t + (Q - t) % (36 - t))] <+: W) := by
                                rw [List.append_assoc]; exact HPW.out (pre ++ [Em.dg (t + (Q - t) % (36 - t))]) _ HP.out
                              by_cases hfull : (O ++ pre).length = N
                              · have HFU := hide hfull
                                clear hfull
                                go_wp2_with (first | (go_at_call 38; refine (HTH.out _).mono ?_; rintro e w' ⟨rfl, rfl⟩) | (go_at_call 39; refine (digitByte (t + (Q - t) % (36 - t)) _ (by omega) n4).mono ?_; rintro e w' ⟨rfl, rfl⟩) | (go_at_call 37; refine (put_no _ G N D _ _ wr hp HFU.out).mono ?_; rintro e w1 ⟨rfl, rfl⟩))
                                go_ret2
                                exact enc_full hp HFU.out HPW1.out hbel
                              · have hroom : (O ++ pre).length < N := by have := hp.le; omega
                                have HRO := hide hroom
                                clear hfull hroom
                                go_wp2_with (first | (go_at_call 38; refine (HTH.out _).mono ?_; rintro e w' ⟨rfl, rfl⟩) | (go_at_call 39; refine (digitByte (t + (Q - t) % (36 - t)) _ (by omega) n4).mono ?_; rintro e w' ⟨rfl, rfl⟩) | (go_at_call 37; refine (put_yes _ G N D _ _ wr hp HRO.out G hBo (Nat.le_refl _)).mono ?_; rintro e w1 ⟨rfl, hp1, hb1⟩))
                                have RB := hbel.trans hb1
                                have RP : Put w1 w.heap.size G N D (O ++ (pre ++ [Em.dg (t + (Q - t) % (36 - t))])) := by
                                  rw [← List.append_assoc]; exact hp1
                                go_roundw
                                case rel => exact ⟨fv, K + 36, (Q - t) / (36 - t), pre ++ [Em.dg (t + (Q - t) % (36 - t))], by go_num, rfl, n0, by omega, by omega, by omega, by omega, by omega, HP.out, RP, RB⟩
                                case measure => simp [intOf]; omega
                        · have R := hI.above hcmp
                          clear hI
                          go_wp2
                          go_roundw
                          case rel => exact ⟨z + 1, j', dd, by omega, by go_num, by go_num, rfl, rfl, R, hp, hbel⟩
                          case measure => simp [intOf]; omega
                      · obtain rfl : z = y := by omega
                        have R := hI.fin c2 c1 HEX.out
                        clear hI
                        go_wp2
                        go_roundw
                        case rel => exact ⟨c + 1, j', dd + 1, by go_num, by go_num, rfl, rfl, R, hp, hbel⟩
                        case measure => simp [intOf]; omega
                  · obtain ⟨e1, e2⟩ := hO.ovf HJ.out l1 HMIN.out HEX.out (by rw [HCAST.out]; exact ht)
                    have HE1 := hide e1
                    have hp' := hp
                    rw [← HE1.out, HWJ.out] at hp'
                    have HNE : Hid (¬ J = (Em.ord f y).length) := by rw [HE1.out]; exact (by omega : ¬ j = (Em.ord f y).length)
                    clear e1
                    go_wp2
                    go_ret2
                    exact enc_stop hp' HNE.out hbel
            · obtain ⟨e1, e2⟩ := hO.fin HJ.out (by omega)
              have hp' := hp
              rw [e1, HWJ.out] at hp'
              have HE2 := hide e2
              have cv := cell_of_one hp'.var
              clear e1 e2
              go_wp2
              go_ret2
              exact enc_done hp' HE2.out hbel
        · have HFU := hide hfull
          clear hfull
          go_wp2
          go_ret2
          exact enc_full hp HFU.out hpre hbel

theorem zzencode_any (G N : Nat) (D : List Int) (a : Option Addr) (n cap b off : Nat) (zs : List Int) (J : Nat) (w : World) (hm : n ≤ 65536)
    (hr : w.heap[G]? = some (.cells (D.map (Value.int .u8)).toArray 5 (0, 0))) (hD : D.length = N) (ha : 0 < n → a = some ⟨b, off, none⟩) (hbG : 0 < n → b < G)
    (hc : ∀ j, j < n → w.cell? ⟨b, off + j, none⟩ = some (.int .i32 (zs.getD j 0))) (hz : ∀ k, k < n → 0 ≤ zs.getD k 0 ∧ zs.getD k 0 ≤ 1114111)
    (hJ : Em.Stop (fun i => zs.getD i 0) n (Em.head (fun i => zs.getD i 0) n) J) :
    Calls Try.prog 13 #[.slice (some ⟨G, 0, none⟩) N N, .slice a n cap] w
      (EncPost G N D (Em.out (fun i => zs.getD i 0) n (Em.head (fun i => zs.getD i 0) n) J) (J = (Em.ord (fun i => zs.getD i 0) n).length) w) := by
  have hE := encode_any G N D a n cap b off zs J w hm hr hD ha hbG hc hz hJ
  have HE := hide hE
  clear hE hr hc hz hJ ha hbG
  go_enter Try.func13, Try.ntmps13
  go_wp2_with fail
  refine HE.out.mono ?_
  rintro e w1 ⟨r, ok, rfl, h1, h2, h3, h4⟩
  go_wp2
  go_ret2
  exact ⟨r, ok, rfl, h1, h2, h3, h4⟩

end Go.Proofs.Qxb6602111a
