import Derived.Test.Qxb6601341aMath
import Derived.Deep.RegionWith
import Derived.Deep.RegionHeld3
import Derived.Deep.RegionLaw
import Derived.Deep.DeepCutAuto
import Derived.Deep.DrawnRows
import Derived.Deep.CutBlock
namespace Go.Proofs.Qxb6601341a
open Go.Proofs Go.RowKit Go.Proofs.Qxb6601341a.Kit

theorem info3 : (Try.prog.info? 3).map (fun i => (i.zero, i.size, i.bytes)) = some (some (.int .i64 0), 1, 8) := by kernel_rfl

theorem Kit.Sl.form {w : World} {v : Value} {k : IntKind} {zs : List Int} (h : Sl w v (zs.map (Value.int k))) :
    ∃ a cap b off, v = .slice a zs.length cap ∧ (0 < zs.length → a = some ⟨b, off, none⟩) ∧ zs.length ≤ cap ∧ cap ≤ maxLen ∧ ∀ j, j < zs.length → w.cell? ⟨b, off + j, none⟩ = some (.int k (zs.getD j 0)) := by
  have h0 := h
  obtain ⟨a, cap, hv, h1, h2, _⟩ := h
  simp only [List.length_map] at hv h1
  rcases h0.ints with ⟨rfl, _⟩ | ⟨b, off, cap', hv', h1', h2', hc⟩
  · exact ⟨a, cap, 0, 0, hv, by simp, h1, h2, by simp⟩
  · exact ⟨_, cap', b, off, hv', fun _ => rfl, h1', h2', hc⟩

theorem cell_in {w : World} {g i : Nat} {cs : Array Value} {t : TypeId} {v : Value} (hg : w.heap[g]? = some (.cells cs t (0, 0))) (hi : cs[i]? = some v) : w.cell? ⟨g, i, none⟩ = some v := by
  simp [World.cell?, hg, hi]
theorem frozen_in {w : World} {g i : Nat} {cs : Array Value} {t : TypeId} (hg : w.heap[g]? = some (.cells cs t (0, 0))) : w.frozen? ⟨g, i, none⟩ = false := by
  simp [World.frozen?, hg]

/-- The copy, i of its cells written. -/
def Cop (g len : Nat) (z : Nat → Int) (i : Nat) (w : World) : Prop :=
  ∃ cs : Array Value, w.heap[g]? = some (.cells cs 3 (0, 0)) ∧ cs.size = len ∧ ∀ j, j < i → cs[j]? = some (.int .i64 (z j))
theorem Cop.next {g len : Nat} {z : Nat → Int} {i : Nat} {w : World} (h : Cop g len z i w) (hi : i < len) : Cop g len z (i + 1) (w.setCell ⟨g, i, none⟩ (.int .i64 (z i))) := by
  obtain ⟨cs, hg, hs, hc⟩ := h
  refine ⟨cs.setIfInBounds i (.int .i64 (z i)), ?_, by simpa using hs, fun j hj => ?_⟩
  · rw [setCell_eq_setRow w g i _ _ _ _ hg]; exact setRow_heap w g _ _ _ _ hg
  · rw [Array.getElem?_setIfInBounds]
    by_cases h : i = j
    · subst h; rw [if_pos rfl, if_pos (by omega)]
    · rw [if_neg h]; exact hc j (by omega)
theorem Cop.at {g len : Nat} {z : Nat → Int} {i : Nat} {w : World} (h : Cop g len z i w) (hi : i < len) : (∃ v, w.cell? ⟨g, i, none⟩ = some v) ∧ w.frozen? ⟨g, i, none⟩ = false := by
  obtain ⟨cs, hg, hs, hc⟩ := h
  exact ⟨⟨cs[i], cell_in hg (Array.getElem?_eq_getElem (by omega))⟩, frozen_in hg⟩
theorem Cop.read {g len : Nat} {z : Nat → Int} {i : Nat} {w : World} (h : Cop g len z i w) {j : Nat} (hj : j < i) : w.cell? ⟨g, j, none⟩ = some (.int .i64 (z j)) := by
  obtain ⟨cs, hg, hs, hc⟩ := h
  exact cell_in hg (hc j hj)

theorem Cop.below {g len : Nat} {z : Nat → Int} {i : Nat} {w w' : World} (h : Cop g len z i w) {B : Nat} (hb : Below B w w') (hg : g < B) : Cop g len z i w' := by
  obtain ⟨cs, h1, h2, h3⟩ := h
  exact ⟨cs, (hb.block g hg).trans h1, h2, h3⟩

theorem keep5 {W w2 : World} {G F i p2 p3 p4 : Nat} (hg : W.heap[G]? = some (.cells (brd F i p2 p3 p4) 27 (0, 0))) (hb : Below W.heap.size W w2) :
    w2.heap[G]? = some (.cells (brd F i p2 p3 p4) 27 (0, 0)) ∧ (w2.cell? ⟨G, 0, none⟩ = some (.int .u32 (F : Int)) ∧ w2.cell? ⟨G, 1, none⟩ = some (.int .i64 (i : Int)) ∧ w2.cell? ⟨G, 2, none⟩ = some (.int .u32 (p2 : Int)) ∧ w2.cell? ⟨G, 3, none⟩ = some (.int .u32 (p3 : Int)) ∧ w2.cell? ⟨G, 4, none⟩ = some (.int .u32 (p4 : Int))) ∧
      (w2.frozen? ⟨G, 0, none⟩ = false ∧ w2.frozen? ⟨G, 1, none⟩ = false ∧ w2.frozen? ⟨G, 2, none⟩ = false ∧ w2.frozen? ⟨G, 3, none⟩ = false ∧ w2.frozen? ⟨G, 4, none⟩ = false) := by
  have h : w2.heap[G]? = some (.cells (brd F i p2 p3 p4) 27 (0, 0)) := (hb.block G (Array.getElem?_eq_some_iff.1 hg).1).trans hg
  exact ⟨h, ⟨cell_in h rfl, cell_in h rfl, cell_in h rfl, cell_in h rfl, cell_in h rfl⟩, ⟨frozen_in h, frozen_in h, frozen_in h, frozen_in h, frozen_in h⟩⟩

theorem set5 {w2 : World} {G F i p2 p3 p4 : Nat} (a0 a1 a2 a3 a4 : Value) (hg : w2.heap[G]? = some (.cells (brd F i p2 p3 p4) 27 (0, 0))) :
    (((((w2.setCell ⟨G, 0, none⟩ a0).setCell ⟨G, 1, none⟩ a1).setCell ⟨G, 2, none⟩ a2).setCell ⟨G, 3, none⟩ a3).setCell ⟨G, 4, none⟩ a4).heap[G]? = some (.cells #[a0, a1, a2, a3, a4] 27 (0, 0)) := by
  have step : ∀ (w : World) (cs : Array Value) (j : Nat) (a : Value), w.heap[G]? = some (.cells cs 27 (0, 0)) → (w.setCell ⟨G, j, none⟩ a).heap[G]? = some (.cells (cs.setIfInBounds j a) 27 (0, 0)) := by
    intro w cs j a h
    rw [setCell_eq_setRow w G j _ _ _ _ h]; exact setRow_heap w G _ _ _ _ h
  have := step _ _ 4 a4 (step _ _ 3 a3 (step _ _ 2 a2 (step _ _ 1 a1 (step _ _ 0 a0 hg))))
  rw [this]
  rfl

theorem or_pow {p e : Nat} (hp : p < 2 ^ 32) (he : e < 32) : bits .or .u32 (p : Int) ((2 : Int) ^ e % 4294967296) = ((p ||| 2 ^ e : Nat) : Int) := by
  have h1 : 2 ^ e < 2 ^ 32 := Nat.pow_lt_pow_right (by decide) he
  have h : (2 : Int) ^ e % 4294967296 = ((2 ^ e : Nat) : Int) := by
    have e2 : (2 : Int) ^ e = ((2 ^ e : Nat) : Int) := by simp
    rw [e2]; exact Int.emod_eq_of_lt (Int.natCast_nonneg _) (Int.ofNat_lt.2 h1)
  rw [h]
  exact u32_or_nat p (2 ^ e) hp h1

theorem full_is (n : Nat) (hn : n ≤ 32) : ∃ F : Nat, F = 2 ^ n - 1 ∧ F < 4294967296 ∧ ((2 : Int) ^ n % 4294967296 - 1) % 4294967296 = (F : Int) ∧ ((2 : Int) ^ n - 1) % 4294967296 = (F : Int) := by
  refine ⟨2 ^ n - 1, rfl, ?_, ?_, ?_⟩
  · have : 2 ^ n ≤ 2 ^ 32 := Nat.pow_le_pow_right (by decide) hn
    have h0 : 0 < 2 ^ n := Nat.two_pow_pos n
    omega
  all_goals
    have h : 2 ^ n ≤ 2 ^ 32 := Nat.pow_le_pow_right (by decide) hn
    have h0 : 0 < 2 ^ n := Nat.two_pow_pos n
    have e : (2 : Int) ^ n = ((2 ^ n : Nat) : Int) := by simp
    rw [e]
    omega

set_option maxHeartbeats 4000000 in
set_option maxRecDepth 100000 in
theorem law (n : Nat) (v : Value) (zs : List Int) (w : World) (hn : n ≤ 32) (hl : zs.length ≤ 65536) (hs : Sl w v (zs.map (Value.int .i64))) :
    Calls Try.prog 3 #[.int .i64 (n : Int), v] w fun e w' => e = .returned (.bool true) ∧ Below w.heap.size w w' := by
  obtain ⟨a, cap, b, off, rfl, ha, hcap, hmax, hc⟩ := hs.form
  clear hs
  obtain ⟨len, hlen⟩ : ∃ len, len = zs.length := ⟨_, rfl⟩
  obtain ⟨z, hz⟩ : ∃ z : Nat → Int, z = fun j => zs.getD j 0 := ⟨_, rfl⟩
  replace hc : ∀ j, j < len → w.cell? ⟨b, off + j, none⟩ = some (.int .i64 (z j)) := by rw [hlen, hz]; exact hc
  rw [← hlen] at ha hcap hl ⊢
  clear hlen hz
  unfold maxLen at hmax
  have HA := hide ha
  have HC := hide hc
  have HZ4 := hide (fun W => zz4 (n : Int) a len cap W (by omega))
  have hlb : ∀ j, j < len → b < w.heap.size := fun j hj => World.block_lt_of_cell? w _ (hc j hj)
  have HLB := hide hlb
  have hdl : decide (len ≤ 1048576) = true := by simp; omega
  rw [hdl] at HZ4
  have hmk := run_make_row' (P := Try.prog) 22 3 (.int .i64 0) 8 Try.underlying22 info3 rfl .i64 .i64 len (by omega) (by omega)
  clear ha hc hlb hdl
  have hn32 : (n : Int) ≤ 32 := by omega
  go_enter Try.func3, Try.ntmps3
  go_wp2_with (go_at_call 4; refine (HZ4.out _).mono ?_; rintro e w' ⟨rfl, rfl⟩)
  go_loop [5] (fun iv => ∃ i : Nat, i ≤ len ∧ iv = .int .i64 (i : Int) ∧ ∀ j, j < i → 0 ≤ z j ∧ z j ≤ 31) (fun iv => len - (intOf iv).toNat)
  case atStart => exact ⟨0, by omega, rfl, fun j hj => by omega⟩
  case round =>
    obtain ⟨i, hi, rfl, hok⟩ := hrel
    have HOK := hide hok
    clear hok
    by_cases hlt : i < len
    · obtain rfl := HA.out (by omega)
      have c1 := HC.out i hlt
      have hil : (i : Int) < (len : Int) := by omega
      obtain ⟨y, hy⟩ : ∃ y, y = z i := ⟨_, rfl⟩
      rw [← hy] at c1
      have HY := hide hy
      clear hy
      by_cases h0 : y < 0
      · go_wp2_with fail
        go_ret
        exact ⟨rfl, Below.refl _ _⟩
      · by_cases h31 : 31 < y
        · go_wp2_with fail
          go_ret
          exact ⟨rfl, Below.refl _ _⟩
        · go_wp2_with fail
          go_round
          case rel =>
            refine ⟨i + 1, by omega, by go_num, fun j hj => ?_⟩
            by_cases hji : j = i
            · subst hji; have := HY.out; omega
            · exact HOK.out j (by omega)
          case measure => simp [intOf]; omega
    · have e : len = i := by omega
      subst e
      clear hlt hi
      go_wp2_with fail
      go_loopw [7] (fun iv wr => ∃ i : Nat, i ≤ len ∧ iv = .int .i64 (i : Int) ∧ Cop w.heap.size len z i wr ∧ Below w.heap.size w wr) (fun iv _ => len - (intOf iv).toNat)
      case atStart => exact ⟨0, by omega, rfl, ⟨_, heap_new _ _, size_madeCells _ _, fun j hj => by omega⟩, (Below.refl _ _).alloc (Nat.le_refl _) _⟩
      case round =>
        obtain ⟨i, hi, rfl, hcop, hbel⟩ := hrel
        have HCP := hide hcop
        have HBL := hide hbel
        by_cases hlt : i < len
        · obtain rfl := HA.out (by omega)
          have c1 := (hbel.cell (p := ⟨b, off + i, none⟩) (HLB.out i hlt)).trans (HC.out i hlt)
          obtain ⟨⟨old, c2⟩, f2⟩ := hcop.at hlt
          have hil : (i : Int) < (len : Int) := by omega
          have HN := hide (hcop.next hlt)
          clear hcop hbel
          go_wp2_with fail
          go_roundw
          case rel => exact ⟨i + 1, by omega, by go_num, HN.out, HBL.out.setCell (Nat.le_refl _) _⟩
          case measure => simp [intOf]; omega
        · have e : len = i := by omega
          subst e
          clear hlt hi hcop hbel
          obtain ⟨F, hF, hFl, hF1, hF2⟩ := full_is n hn
          have HF := hide hF
          clear hF
          have hgl : w.heap.size < wr.heap.size := by
            obtain ⟨cs, hg, _⟩ := HCP.out
            exact (Array.getElem?_eq_some_iff.1 hg).1
          obtain ⟨f, hf⟩ : ∃ f : Nat → Nat, f = fun i => (z i).toNat := ⟨_, rfl⟩
          have HFZ : Hid (∀ j, j < len → z j = (f j : Int) ∧ f j < 32) := by
            intro j hj
            have := HOK.out j hj
            rw [hf]; show z j = (((z j).toNat : Nat) : Int) ∧ (z j).toNat < 32
            omega
          clear hf
          go_wp2_with (first | (go_at_call 5; refine (make_calls F _).mono ?_; rintro e w1 ⟨rfl, hb1⟩) | (refine wpList_store_row rfl 27 _ _ rfl _ (brd F 0 0 0 0) rfl rfl 27 _ (heap_new _ _) (brd_size _ _ _ _ _) rfl (brd_one _ _ _ _ _) ?_; rw [setRow_alloc]))
          have hgl1 : w.heap.size < w1.heap.size := Nat.lt_of_lt_of_le hgl hb1.size
          have hcp1 : Cop w.heap.size len z len (w1.alloc (.cells (brd F 0 0 0 0) 27)) := (HCP.out.below hb1 hgl).below ((Below.refl w1.heap.size w1).alloc (Nat.le_refl _) _) hgl1
          have hbel1 : Below w.heap.size w (w1.alloc (.cells (brd F 0 0 0 0) 27)) := (HBL.out.trans (hb1.mono (Nat.le_of_lt hgl))).alloc (Nat.le_of_lt hgl1) _
          have hbd : (w1.alloc (.cells (brd F 0 0 0 0) 27)).heap[w1.heap.size]? = some (.cells (brd F 0 (Qm.C f 0) (Qm.L f F 0) (Qm.R f 0)) 27 (0, 0)) := heap_new _ _
          clear HBL HCP hb1
          go_loopw [10] (fun iv wq => ∃ i : Nat, i ≤ len ∧ iv = .int .i64 (i : Int) ∧ wq.heap[w1.heap.size]? = some (.cells (brd F i (Qm.C f i) (Qm.L f F i) (Qm.R f i)) 27 (0, 0)) ∧ Cop w.heap.size len z len wq ∧ Below w.heap.size w wq) (fun iv _ => len - (intOf iv).toNat)
          case atStart => exact ⟨0, by omega, rfl, hbd, hcp1, hbel1⟩
          case round =>
            clear hcp1 hbel1 hbd
            obtain ⟨i, hi, rfl, hbd, hcop, hbel⟩ := hrel
            have HBD := hide hbd
            have HCP := hide hcop
            have HBL := hide hbel
            by_cases hlt : i < len
            · obtain ⟨hzi, hd32⟩ := HFZ.out i hlt
              have c1 := hcop.read hlt
              rw [hzi] at c1
              obtain ⟨d, hd⟩ : ∃ d, d = f i := ⟨_, rfl⟩
              rw [← hd] at c1 hd32
              obtain ⟨q, hq⟩ : ∃ q : Nat, q = 2 ^ d := ⟨_, rfl⟩
              have hq1 : (2 : Int) ^ d % 4294967296 = (q : Int) := by
                have h1 : 2 ^ d < 2 ^ 32 := Nat.pow_lt_pow_right (by decide) hd32
                have e : (2 : Int) ^ d = ((2 ^ d : Nat) : Int) := by simp
                rw [e, hq]; omega
              have hq2 : IntKind.u32.wrap (2 ^ min (IntKind.u64.wrap (d : Int)).toNat 32) = (q : Int) := by
                have e1 : IntKind.u64.wrap (d : Int) = (d : Int) := by simp [IntKind.wrap, IntKind.bits, IntKind.signed]; omega
                rw [e1, Int.toNat_natCast, Nat.min_eq_left (by omega), IntKind.wrap_u32', hq1]
              have hql : q < 4294967296 := by rw [hq]; exact Nat.pow_lt_pow_right (by decide) hd32
              have hCl := Qm.C_lt f i (fun j hj => (HFZ.out j (by omega)).2)
              have hLl := Qm.L_lt f F i
              have hRl := Qm.R_lt f i (fun j hj => (HFZ.out j (by omega)).2)
              have hnx : brd F (i + 1) (Qm.C f i ||| q) ((Qm.L f F i ||| q) * 2 % 4294967296 &&& F) ((Qm.R f i ||| q) / 2) = brd F (i + 1) (Qm.C f (i + 1)) (Qm.L f F (i + 1)) (Qm.R f (i + 1)) := by
                rw [Qm.C, Qm.L, Qm.R, hq, hd]
              have HPL := hide (fun W => zzPlace_calls F i (Qm.C f i) (Qm.L f F i) (Qm.R f i) q W hFl (by omega) hCl hLl hRl hql)
              rw [hnx] at HPL
              obtain ⟨p2, hp2⟩ : ∃ p, p = Qm.C f i := ⟨_, rfl⟩
              obtain ⟨p3, hp3⟩ : ∃ p, p = Qm.L f F i := ⟨_, rfl⟩
              obtain ⟨p4, hp4⟩ : ∃ p, p = Qm.R f i := ⟨_, rfl⟩
              obtain ⟨r2, hr2⟩ : ∃ p, p = Qm.C f (i + 1) := ⟨_, rfl⟩
              obtain ⟨r3, hr3⟩ : ∃ p, p = Qm.L f F (i + 1) := ⟨_, rfl⟩
              obtain ⟨r4, hr4⟩ : ∃ p, p = Qm.R f (i + 1) := ⟨_, rfl⟩
              rw [← hp2, ← hp3, ← hp4] at HBD hbd
              rw [← hp2, ← hp3, ← hp4, ← hr2, ← hr3, ← hr4] at HPL
              have HR2 := hide hr2
              have HR3 := hide hr3
              have HR4 := hide hr4
              have k0 := cell_in (i := 0) hbd (v := .int .u32 (F : Int)) rfl
              have k1 := cell_in (i := 1) hbd (v := .int .i64 (i : Int)) rfl
              have k2 := cell_in (i := 2) hbd (v := .int .u32 (p2 : Int)) rfl
              have k3 := cell_in (i := 3) hbd (v := .int .u32 (p3 : Int)) rfl
              have k4 := cell_in (i := 4) hbd (v := .int .u32 (p4 : Int)) rfl
              clear hCl hLl hRl hnx hp2 hp3 hp4 hr2 hr3 hr4 hq hd hcop hbel hbd hzi
              have hil : (i : Int) < (len : Int) := by omega
              unfold brd at HPL
              go_upto_block 5 with fail
              go_cut [] (fun wx => wx.heap[w1.heap.size]? = some (.cells (brd F (i + 1) r2 r3 r4) 27 (0, 0)) ∧ Cop w.heap.size len z len wx ∧ Below w.heap.size w wx)
              case first =>
                go_wp2_with fail
                go_region_with (go_at_call 6; refine (HPL.out _).mono ?_; rintro e w2 ⟨rfl, hb2⟩; obtain ⟨m5, ⟨m0, m1, m2, m3, m4⟩, n0, n1, n2, n3, n4⟩ := keep5 (W := wr.drew) HBD.out hb2; have HM5 := hide m5; have HB2 := hide hb2; clear m5 hb2)
                all_goals (
                  go_wp2_with fail
                  go_meet
                  have hGl : w1.heap.size ≤ wr.heap.size := Nat.le_of_lt (Array.getElem?_eq_some_iff.1 HBD.out).1
                  have hbx : Below w1.heap.size wr.drew w2 := HB2.out.mono hGl
                  have hby := ((((hbx.setCell (p := ⟨w1.heap.size, 0, none⟩) (Nat.le_refl _) (.int .u32 (F : Int))).setCell (p := ⟨w1.heap.size, 1, none⟩) (Nat.le_refl _) (.int .i64 ((i : Int) + 1))).setCell (p := ⟨w1.heap.size, 2, none⟩) (Nat.le_refl _) (.int .u32 (r2 : Int))).setCell (p := ⟨w1.heap.size, 3, none⟩) (Nat.le_refl _) (.int .u32 (r3 : Int))).setCell (p := ⟨w1.heap.size, 4, none⟩) (Nat.le_refl _) (.int .u32 (r4 : Int))
                  exact ⟨set5 _ _ _ _ _ HM5.out, (show Cop w.heap.size len z len wr.drew from HCP.out).below hby hgl1, HBL.out.drew.trans (hby.mono (Nat.le_of_lt hgl1))⟩)
              case rest =>
                obtain ⟨g1, g2, g3⟩ := hcut
                rw [HR2.out, HR3.out, HR4.out] at g1
                go_wp2_with fail
                go_roundw
                case rel => exact ⟨i + 1, by omega, by go_num, g1, g2, g3⟩
                case measure => simp [intOf]; omega
            · have e : len = i := by omega
              subst e
              clear hlt hi hcop hbel hbd
              go_wp2_with fail
              go_loop [12, 13, 14, 15] (fun cv lv rv iv => ∃ m p2 p3 p4 : Nat, m ≤ len ∧ iv = .int .i64 (m : Int) ∧ p2 = Qm.C f m ∧ p3 = Qm.wL f n len m ∧ p4 = Qm.wR f len m ∧ cv = .int .u32 (p2 : Int) ∧ lv = .int .u32 (p3 : Int) ∧ rv = .int .u32 (p4 : Int)) (fun _ _ _ iv => len - (intOf iv).toNat)
              case atStart => exact ⟨0, 0, 0, 0, by omega, rfl, rfl, rfl, rfl, rfl, rfl, rfl⟩
              case round =>
                obtain ⟨m, p2, p3, p4, hm, rfl, h2, h3, h4, rfl, rfl, rfl⟩ := hrel
                by_cases hlt : m < len
                · obtain ⟨hzi, hd32⟩ := HFZ.out m hlt
                  have c1 := HCP.out.read hlt
                  rw [hzi] at c1
                  have hml : (m : Int) < (len : Int) := by omega
                  obtain ⟨d, hd⟩ : ∃ d, d = f m := ⟨_, rfl⟩
                  rw [← hd] at c1 hd32
                  have hp2 : p2 < 2 ^ 32 := by rw [h2]; exact Qm.C_lt f m (fun j hj => (HFZ.out j (by omega)).2)
                  have hp3 : p3 < 2 ^ 32 := by rw [h3]; exact Qm.wL_lt f n len hn m
                  have hp4 : p4 < 2 ^ 32 := by rw [h4]; exact Qm.wR_lt f len m (fun j hj => (HFZ.out j (by omega)).2)
                  have o1 := or_pow hp2 hd32
                  have HH2 := hide h2
                  have HH3 := hide h3
                  have HH4 := hide h4
                  have HD := hide hd
                  clear h2 h3 h4 hzi hd hp2
                  by_cases hL : d + (len - m) < n
                  · have o2 := or_pow hp3 (show d + (len - m) < 32 by omega)
                    by_cases hR : len - m ≤ d
                    · have o3 := or_pow hp4 (show d - (len - m) < 32 by omega)
                      go_wp2_with fail
                      exact ⟨⟨m + 1, _, _, _, by omega, by go_num, by rw [Qm.C, ← HH2.out, ← HD.out], by rw [Qm.wL, ← HH3.out, ← HD.out, if_pos hL], by rw [Qm.wR, ← HH4.out, ← HD.out, if_pos hR], rfl, rfl, rfl⟩, by simp [intOf]; omega⟩
                    · skip
                      go_wp2_with fail
                      exact ⟨⟨m + 1, _, _, _, by omega, by go_num, by rw [Qm.C, ← HH2.out, ← HD.out], by rw [Qm.wL, ← HH3.out, ← HD.out, if_pos hL], by rw [Qm.wR, ← HH4.out, ← HD.out, if_neg hR], rfl, rfl, rfl⟩, by simp [intOf]; omega⟩
                  · by_cases hR : len - m ≤ d
                    · have o3 := or_pow hp4 (show d - (len - m) < 32 by omega)
                      go_wp2_with fail
                      exact ⟨⟨m + 1, _, _, _, by omega, by go_num, by rw [Qm.C, ← HH2.out, ← HD.out], by rw [Qm.wL, ← HH3.out, ← HD.out, if_neg hL], by rw [Qm.wR, ← HH4.out, ← HD.out, if_pos hR], rfl, rfl, rfl⟩, by simp [intOf]; omega⟩
                    · skip
                      go_wp2_with fail
                      exact ⟨⟨m + 1, _, _, _, by omega, by go_num, by rw [Qm.C, ← HH2.out, ← HD.out], by rw [Qm.wL, ← HH3.out, ← HD.out, if_neg hL], by rw [Qm.wR, ← HH4.out, ← HD.out, if_neg hR], rfl, rfl, rfl⟩, by simp [intOf]; omega⟩
                · have e : len = m := by omega
                  subst e
                  clear hlt hm
                  have hbd := HBD.out
                  rw [HF.out, Qm.left_same f n len hn, Qm.right_same f len, ← HF.out, ← h2, ← h3, ← h4] at hbd
                  have HBE := hide hbd
                  clear hbd h2 h3 h4
                  go_wp2_with (first | (refine wpList_load_row rfl 27 _ rfl _ rfl 27 _ (0, 0) _ HBE.out Try.underlying27 rfl (brd_size _ _ _ _ _) ?_) | (go_at_call 7; refine (fields_calls _ _ _ _ _ _).mono ?_; rintro e w3 ⟨rfl, hb3⟩))
                  go_ret
                  exact ⟨rfl, HBL.out.trans (hb3.mono HBL.out.size)⟩
end Go.Proofs.Qxb6601341a
