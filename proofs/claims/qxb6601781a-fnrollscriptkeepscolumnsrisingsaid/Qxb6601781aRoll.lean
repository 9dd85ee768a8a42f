/-
  WALKS: the scanner's roll.
-/
import Derived.Test.Qxb6601781aRows
import Derived.Test.Qxb6601781aKit
import Derived.Deep.RegionHeld3
import Derived.Deep.RegionLaw
import Derived.Deep.DeepCutAuto
import Derived.Deep.DrawnRows
namespace Go.Proofs.Qxb6601781a
open Go.RowKit Kit

theorem Try.info3 : (Try.prog.info? 3).map (fun i => (i.zero, i.size, i.bytes)) = some (some (.int .i64 0), 1, 8) := by kernel_rfl
theorem Try.size3 : (Try.prog.info? 3).map (·.size) = some 1 := by kernel_rfl
def tokZero : Value := .agg #[.int .u8 0, .int .u8 0, .int .i64 0, .string ⟨#[]⟩, .string ⟨#[]⟩, .int .i64 0]
theorem Try.info51 : (Try.prog.info? 51).map (fun i => (i.zero, i.size, i.bytes)) = some (some tokZero, 6, 56) := by kernel_rfl

/-- The scanner's sixteen cells. -/
def scanCells (vt vi : Value) (ind : Int) : Array Value :=
  #[.slice none 0 0, .int .i64 0, .int .i64 0, .int .i64 0, vt, .int .i64 0, .int .i64 0, .bool false, .int .i64 ind, vi, .int .i64 0, .bool false, .slice none 0 0, .int .i64 0, .slice none 0 0, .slice none 0 0]
/-- A token's six cells. -/
def tokCells (kind line : Int) : List Value := [.int .u8 kind, .int .u8 0, .int .i64 line, .string ⟨#[]⟩, .string ⟨#[]⟩, .int .i64 0]

/-- The scanner at block S, its two slices owned from block B on. -/
def Scan (w : World) (B S : Nat) (ind : Int) (is : List Int) (kind : Int) (ls : List Int) : Prop :=
  ∃ vt vi, w.heap[S]? = some (.cells (scanCells vt vi ind) 54 (0, 0)) ∧ w.ownsRow B 3 1 vi is.length (is.map (Value.int .i64)) ∧ w.ownsRow B 51 6 vt ls.length (ls.flatMap (tokCells kind))

/-- A store into a field. -/
theorem heap_set {w : World} {S k : Nat} {cs : Array Value} {t : TypeId} (h : w.heap[S]? = some (.cells cs t (0, 0))) (v : Value) : (w.setCell ⟨S, k, none⟩ v).heap[S]? = some (.cells (cs.setIfInBounds k v) t (0, 0)) := by
  simp only [World.setCell, Array.getElem?_modify]
  simp [h]
theorem scan4 (vt vi v : Value) (ind : Int) : (scanCells vt vi ind).setIfInBounds 4 v = scanCells v vi ind := rfl
theorem scan8 (vt vi : Value) (ind col : Int) : (scanCells vt vi ind).setIfInBounds 8 (.int .i64 col) = scanCells vt vi col := rfl
theorem scan9 (vt vi v : Value) (ind : Int) : (scanCells vt vi ind).setIfInBounds 9 v = scanCells vt v ind := rfl

/-- An owned row lies in no block of another tag. -/
theorem own_ne {w : World} {B : Nat} {e t : TypeId} {size n S : Nat} {v : Value} {xs : List Value} {cs : Array Value} {fr : Nat × Nat} (h : w.ownsRow B e size v n xs) (hS : w.heap[S]? = some (.cells cs t fr)) (ht : e ≠ t) : v.ownBlock ≠ some S := by
  intro hv
  rcases h.2 with ⟨rfl, _⟩ | ⟨g, cap, cur, rfl, _, hh, _⟩
  · cases hv
  · simp [Value.ownBlock] at hv; subst hv; rw [hS] at hh; simp at hh; exact ht hh.2.1.symm

/-- Two owned rows of different tags. -/
theorem own_ne2 {w : World} {B e e' size size' n n' : Nat} {v v' : Value} {xs xs' : List Value} (h : w.ownsRow B e size v n xs) (h' : w.ownsRow B e' size' v' n' xs') (hne : e ≠ e') : v.ownBlock = none ∨ v.ownBlock ≠ v'.ownBlock := by
  rcases h.2 with ⟨rfl, _⟩ | ⟨g, cap, cur, rfl, _, hh, _⟩
  · exact .inl rfl
  · right
    intro hv
    exact own_ne h' hh (fun e => hne e.symm) hv.symm

/-- What region 1 leaves. -/
theorem rel1 {w w1 : World} {B S n m gi capi : Nat} {ind : Int} {is ts : List Value} {vt vi : Value} {o : Obj} (hS : w.heap[S]? = some (.cells (scanCells vt vi ind) 54 (0, 0)))
    (hoi : w.ownsRow B 3 1 vi n is) (hot : w.ownsRow B 51 6 vt m ts) (hB : B ≤ S)
    (hown1 : w1.ownsRow B 3 1 (.slice (some ⟨gi, 0, none⟩) (n + 1) capi) (n + 1) (is ++ [.int .i64 ind])) (hgrow : (w.alloc o).drew.grownBy w1 vi.ownBlock) :
    (w1.setCell ⟨S, 9, none⟩ (.slice (some ⟨gi, 0, none⟩) (n + 1) capi)).heap[S]? = some (.cells (scanCells vt (.slice (some ⟨gi, 0, none⟩) (n + 1) capi) ind) 54 (0, 0)) ∧
    (w1.setCell ⟨S, 9, none⟩ (.slice (some ⟨gi, 0, none⟩) (n + 1) capi)).ownsRow B 3 1 (.slice (some ⟨gi, 0, none⟩) (n + 1) capi) (n + 1) (is ++ [.int .i64 ind]) ∧
    (w1.setCell ⟨S, 9, none⟩ (.slice (some ⟨gi, 0, none⟩) (n + 1) capi)).ownsRow B 51 6 vt m ts ∧ Below B w (w1.setCell ⟨S, 9, none⟩ (.slice (some ⟨gi, 0, none⟩) (n + 1) capi)) := by
  have hlt := lt_of_block hS
  have h1 : w1.heap[S]? = some (.cells (scanCells vt vi ind) 54 (0, 0)) := by
    rw [hgrow.block S (by simp; omega) (Ne.symm (own_ne hoi hS (by decide)))]
    exact (Below.heap_alloc w o S hlt).trans hS
  have hot1 : w1.ownsRow B 51 6 vt m ts := ((hot.alloc o).drew).kept hgrow (own_ne2 hot hoi (by decide))
  have hb1 : Below B w w1 := (((Below.refl B w).alloc (by omega) o).drew).grown hgrow (by simp; omega) (fun k hk => (hoi.lt k hk).1)
  refine ⟨by rw [heap_set h1, scan9], ownsRow_setCell_other hown1 (own_ne hown1 h1 (by decide)) _, ownsRow_setCell_other hot1 (own_ne hot1 h1 (by decide)) _, hb1.setCell hB _⟩

/-- What the store of the column and the making of the token leave. -/
theorem rel3 {w w1 : World} {B S n m : Nat} {ind col kind line : Int} {is ts : List Value} {vt vi : Value} (hS : w1.heap[S]? = some (.cells (scanCells vt vi ind) 54 (0, 0)))
    (hoi : w1.ownsRow B 3 1 vi n is) (hot : w1.ownsRow B 51 6 vt m ts) (hB : B ≤ S) (hb : Below B w w1) :
    ((w1.setCell ⟨S, 8, none⟩ (.int .i64 col)).alloc (.cells (tokCells kind line).toArray 51)).heap[w1.heap.size]? = some (.cells (tokCells kind line).toArray 51 (0, 0)) ∧
    ((w1.setCell ⟨S, 8, none⟩ (.int .i64 col)).alloc (.cells (tokCells kind line).toArray 51)).heap[S]? = some (.cells (scanCells vt vi col) 54 (0, 0)) ∧
    ((w1.setCell ⟨S, 8, none⟩ (.int .i64 col)).alloc (.cells (tokCells kind line).toArray 51)).ownsRow B 3 1 vi n is ∧
    ((w1.setCell ⟨S, 8, none⟩ (.int .i64 col)).alloc (.cells (tokCells kind line).toArray 51)).ownsRow B 51 6 vt m ts ∧
    Below B w ((w1.setCell ⟨S, 8, none⟩ (.int .i64 col)).alloc (.cells (tokCells kind line).toArray 51)) := by
  have hlt := lt_of_block hS
  have hsz : (w1.setCell ⟨S, 8, none⟩ (.int .i64 col)).heap.size = w1.heap.size := by simp [World.setCell]
  refine ⟨by rw [← hsz]; exact heap_alloc_new _ _, ?_, (ownsRow_setCell_other hoi (own_ne hoi hS (by decide)) _).alloc _, (ownsRow_setCell_other hot (own_ne hot hS (by decide)) _).alloc _, (hb.setCell hB _).alloc (by omega) _⟩
  rw [Below.heap_alloc _ _ _ (by omega), heap_set hS, scan8]

/-- What region 5 leaves. -/
theorem rel5 {w0 w w1 : World} {B S n m gi capi : Nat} {ind kind line : Int} {is ts : List Value} {vt vi : Value} {o : Obj} (hS : w.heap[S]? = some (.cells (scanCells vt vi ind) 54 (0, 0)))
    (hoi : w.ownsRow B 3 1 vi n is) (hot : w.ownsRow B 51 6 vt m ts) (hB : B ≤ S) (hb : Below B w0 w)
    (hown1 : w1.ownsRow B 51 6 (.slice (some ⟨gi, 0, none⟩) (m + 1) capi) (m + 1) (ts ++ tokCells kind line)) (hgrow : (w.alloc o).drew.grownBy w1 vt.ownBlock) :
    (w1.setCell ⟨S, 4, none⟩ (.slice (some ⟨gi, 0, none⟩) (m + 1) capi)).heap[S]? = some (.cells (scanCells (.slice (some ⟨gi, 0, none⟩) (m + 1) capi) vi ind) 54 (0, 0)) ∧
    (w1.setCell ⟨S, 4, none⟩ (.slice (some ⟨gi, 0, none⟩) (m + 1) capi)).ownsRow B 3 1 vi n is ∧
    (w1.setCell ⟨S, 4, none⟩ (.slice (some ⟨gi, 0, none⟩) (m + 1) capi)).ownsRow B 51 6 (.slice (some ⟨gi, 0, none⟩) (m + 1) capi) (m + 1) (ts ++ tokCells kind line) ∧
    Below B w0 (w1.setCell ⟨S, 4, none⟩ (.slice (some ⟨gi, 0, none⟩) (m + 1) capi)) := by
  have hlt := lt_of_block hS
  have h1 : w1.heap[S]? = some (.cells (scanCells vt vi ind) 54 (0, 0)) := by
    rw [hgrow.block S (by simp; omega) (Ne.symm (own_ne hot hS (by decide)))]
    exact (Below.heap_alloc w o S hlt).trans hS
  have hoi1 : w1.ownsRow B 3 1 vi n is := ((hoi.alloc o).drew).kept hgrow (own_ne2 hoi hot (by decide))
  have hb1 : Below B w0 w1 := ((hb.alloc (by omega) o).drew).grown hgrow (by simp; omega) (fun k hk => (hot.lt k hk).1)
  exact ⟨by rw [heap_set h1, scan4], ownsRow_setCell_other hoi1 (own_ne hoi1 h1 (by decide)) _, ownsRow_setCell_other hown1 (own_ne hown1 h1 (by decide)) _, hb1.setCell hB _⟩

attribute [local go_sem ↓] Go.wp_at_zero Go.wp_at_succ

set_option maxRecDepth 100000 in
set_option maxHeartbeats 1600000 in
theorem roll_push (B S : Nat) (ind col kind line : Int) (n m : Nat) (is ts : List Value) (vt vi : Value) (w : World) (hS : w.heap[S]? = some (.cells (scanCells vt vi ind) 54 (0, 0)))
    (hoi : w.ownsRow B 3 1 vi n is) (hot : w.ownsRow B 51 6 vt m ts) (hlt : ind < col) (hn : n ≤ 1048576) (hm : m ≤ 1048576) (hB : B ≤ S) :
    Calls Try.prog 23 #[.pointer (some ⟨S, 0, none⟩), .int .i64 col, .int .i64 (-1), .int .u8 kind, .int .i64 line] w fun e w' => e = .returned (.tuple #[]) ∧
      (∃ vt' vi', w'.heap[S]? = some (.cells (scanCells vt' vi' col) 54 (0, 0)) ∧ w'.ownsRow B 3 1 vi' (n + 1) (is ++ [.int .i64 ind]) ∧ w'.ownsRow B 51 6 vt' (m + 1) (ts ++ tokCells kind line)) ∧ Below B w w' := by
  obtain ⟨i3, hi3, hz30, hz31, hz32⟩ := info_parts Try.info3
  obtain ⟨i51, hi51, hz0, hz1, hz2⟩ := info_parts Try.info51
  have hSlt := lt_of_block hS
  have c4 : w.cell? ⟨S, 4, none⟩ = some vt := by simp [World.cell?, hS, scanCells]
  have c8 : w.cell? ⟨S, 8, none⟩ = some (.int .i64 ind) := by simp [World.cell?, hS, scanCells]
  have c9 : w.cell? ⟨S, 9, none⟩ = some vi := by simp [World.cell?, hS, scanCells]
  have c10 : w.cell? ⟨S, 10, none⟩ = some (.int .i64 0) := by simp [World.cell?, hS, scanCells]
  have f9 : w.frozen? ⟨S, 9, none⟩ = false := by simp [World.frozen?, hS]
  have fa9 : ∀ o, (w.alloc o).frozen? ⟨S, 9, none⟩ = false := fun o => (World.frozen?_alloc_past _ _ _ hSlt).trans f9
  have hne : vi.ownBlock ≠ some S := own_ne hoi hS (by decide)
  have HS := hide hS
  clear hS
  go_enter Try.func23, Try.ntmps23
  go_upto_region 1 with fail
  go_cut [] (fun wx => ∃ vi', wx.heap[S]? = some (.cells (scanCells vt vi' ind) 54 (0, 0)) ∧ wx.ownsRow B 3 1 vi' (n + 1) (is ++ [.int .i64 ind]) ∧ wx.ownsRow B 51 6 vt m ts ∧ Below B w wx)
  case first =>
    go_region_law ((refine step_append_lies _ (by rfl) _ _ _ (by rfl) B 3 i3 _ 1 8 Try.underlying29 hi3 hz30 hz31 hz32 rfl (by omega) vi n is (by rfl) ((hoi.alloc _).drew) ⟨w.heap.size, 0, none⟩ 1 1 [.int .i64 ind] (by rfl) (by rfl) (World.news_of_block (cs := #[.int .i64 ind]) (t := 3) (fr := (0, 0)) (heap_alloc_new w _)) (by simp [Value.oneCell']) (by omega) (by unfold maxLen; omega) (by omega) (by simp; omega) (w.heap.size + 1) (by simp) ?_; intro gi capi w1 hown1 hgrow hat hlt1; have c9' := (hgrow.cell_far ⟨S, 9, none⟩ (by simp; omega) (Ne.symm hne)); have f9' := (hgrow.frozen_far ⟨S, 9, none⟩ (by simp; omega) (Ne.symm hne)); simp only [fa9, World.cell?_drew, World.frozen?_drew, World.cell?_alloc_past _ _ _ hSlt, c9] at c9' f9'))
    all_goals (go_wp2_with fail; go_meet; exact ⟨_, rel1 HS.out hoi hot hB hown1 hgrow⟩)
  case rest =>
    obtain ⟨vi', hS1, hoi1, hot1, hb1⟩ := hcut
    have hS1lt := lt_of_block hS1
    have d8 : wc.cell? ⟨S, 8, none⟩ = some (.int .i64 ind) := by simp [World.cell?, hS1, scanCells]
    have g8 : wc.frozen? ⟨S, 8, none⟩ = false := by simp [World.frozen?, hS1]
    have HS1 := hide hS1
    clear hS1 hoi hot HS c4 c8 c9 c10 f9 fa9 hne hSlt
    go_upto_region 3 with fail
    go_cut [10] (fun p wx => ∃ T, p = .pointer (some ⟨T, 0, none⟩) ∧ wx.heap[T]? = some (.cells (tokCells kind line).toArray 51 (0, 0)) ∧ wx.heap[S]? = some (.cells (scanCells vt vi' col) 54 (0, 0)) ∧ wx.ownsRow B 3 1 vi' (n + 1) (is ++ [.int .i64 ind]) ∧ wx.ownsRow B 51 6 vt m ts ∧ Below B w wx)
    case first =>
      go_wp2_with fail
      go_meet
      exact ⟨_, rfl, rel3 HS1.out hoi1 hot1 hB hb1⟩
    case rest =>
      obtain ⟨T, rfl, hT, hS2, hoi2, hot2, hb2⟩ := hcut
      clear d8 g8 HS1 hb1 hot1 hoi1 hS1lt
      have hSlt := lt_of_block hS2
      have t0 : wc.cell? ⟨T, 0, none⟩ = some (.int .u8 kind) := by simp [World.cell?, hT, tokCells]
      have t1 : wc.cell? ⟨T, 1, none⟩ = some (.int .u8 0) := by simp [World.cell?, hT, tokCells]
      have t2 : wc.cell? ⟨T, 2, none⟩ = some (.int .i64 line) := by simp [World.cell?, hT, tokCells]
      have t3 : wc.cell? ⟨T, 3, none⟩ = some (.string ⟨#[]⟩) := by simp [World.cell?, hT, tokCells]
      have t4 : wc.cell? ⟨T, 4, none⟩ = some (.string ⟨#[]⟩) := by simp [World.cell?, hT, tokCells]
      have t5 : wc.cell? ⟨T, 5, none⟩ = some (.int .i64 0) := by simp [World.cell?, hT, tokCells]
      have d4 : wc.cell? ⟨S, 4, none⟩ = some vt := by simp [World.cell?, hS2, scanCells]
      have g4 : wc.frozen? ⟨S, 4, none⟩ = false := by simp [World.frozen?, hS2]
      have fa4 : ∀ o, (wc.alloc o).frozen? ⟨S, 4, none⟩ = false := fun o => (World.frozen?_alloc_past _ _ _ hSlt).trans g4
      have hne : vt.ownBlock ≠ some S := own_ne hot2 hS2 (by decide)
      have HS2 := hide hS2
      have hsz : w.heap.size ≤ wc.heap.size := hb2.size
      clear hS2 hT
      go_wp2_with fail
      go_region_law ((refine step_append_lies _ (by rfl) _ _ _ (by rfl) B 51 i51 _ 6 56 Try.underlying48 hi51 hz0 hz1 hz2 rfl (by omega) vt m ts (by rfl) ((hot2.alloc _).drew) ⟨wc.heap.size, 0, none⟩ 1 1 (tokCells kind line) (by rfl) (by rfl) (World.news_of_block (cs := (tokCells kind line).toArray) (t := 51) (fr := (0, 0)) (heap_alloc_new wc _)) (by simp [Value.oneCell', tokCells]) (by omega) (by unfold maxLen; omega) (by omega) (by simp; omega) (wc.heap.size + 1) (by simp) ?_; intro gi capi w3 hown1 hgrow hat hlt1; have c4' := (hgrow.cell_far ⟨S, 4, none⟩ (by simp; omega) (Ne.symm hne)); have f4' := (hgrow.frozen_far ⟨S, 4, none⟩ (by simp; omega) (Ne.symm hne)); simp only [fa4, World.cell?_drew, World.frozen?_drew, World.cell?_alloc_past _ _ _ hSlt, d4] at c4' f4'))
      all_goals (go_wp2_with fail; go_end0; exact ⟨rfl, ⟨_, _, (rel5 HS2.out hoi2 hot2 hB hb2 hown1 hgrow).1, (rel5 HS2.out hoi2 hot2 hB hb2 hown1 hgrow).2.1, (rel5 HS2.out hoi2 hot2 hB hb2 hown1 hgrow).2.2.1⟩, (rel5 HS2.out hoi2 hot2 hB hb2 hown1 hgrow).2.2.2⟩)

end Go.Proofs.Qxb6601781a
