import Derived.Test.Qxb6602177aKit
import Derived.Test.Qxb6602177aShelf
import Derived.Laws.BitsAllLaws
namespace Go.Proofs.Qxb6602177a
open Go.Proofs Go.RowKit Go.Proofs.Qxb6602177a.Kit

/-! ### The plain text of a seed -/
namespace Sd
def con (q : Nat) : UInt8 := [98, 100, 102, 103, 104, 106, 107, 108, 109, 110, 112, 114, 115, 116, 118, 122].getD q 0
def vow (q : Nat) : UInt8 := [97, 105, 111, 117].getD q 0
def letters (v : Nat) : List UInt8 := [con (v / 4096), vow (v / 1024 % 4), con (v / 64 % 16), vow (v / 16 % 4), con (v % 16)]
def word (xs : List Nat) (j : Nat) : Nat := 256 * xs.getD (2 * j) 0 + xs.getD (2 * j + 1) 0
def text (xs : List Nat) : Nat → List UInt8
  | 0 => []
  | j + 1 => text xs j ++ ((if j = 0 then [] else [45]) ++ letters (word xs j))
theorem text_len (xs : List Nat) : ∀ j, (text xs (j + 1)).length = 6 * j + 5
  | 0 => by simp [text, letters]
  | j + 1 => by rw [text, List.length_append, text_len xs j]; simp [letters]; omega
theorem text_small (xs : List Nat) (j : Nat) (h : j ≤ 8) : (text xs j).length ≤ 60 := by
  cases j with
  | zero => simp [text]
  | succ j => rw [text_len]; omega
end Sd

/-- The value of the seed xs. -/
def seedV (xs : List Nat) : Value := .agg (xs.map fun (x : Nat) => Value.int .u8 (x : Int)).toArray

theorem con_at (w : World) (q : Nat) (h : q < 16) : (Instr.index 9 (.string ⟨#[98, 100, 102, 103, 104, 106, 107, 108, 109, 110, 112, 114, 115, 116, 118, 122]⟩) (.int .u16 (q : Int))).run Try.prog w = .ok (.int .u8 (Sd.con q).toNat) w := by
  have h : q = 0 ∨ q = 1 ∨ q = 2 ∨ q = 3 ∨ q = 4 ∨ q = 5 ∨ q = 6 ∨ q = 7 ∨ q = 8 ∨ q = 9 ∨ q = 10 ∨ q = 11 ∨ q = 12 ∨ q = 13 ∨ q = 14 ∨ q = 15 := by omega
  rcases h with h | h | h | h | h | h | h | h | h | h | h | h | h | h | h | h <;> subst h <;> rfl
theorem vow_at (w : World) (q : Nat) (h : q < 4) : (Instr.index 9 (.string ⟨#[97, 105, 111, 117]⟩) (.int .u16 (q : Int))).run Try.prog w = .ok (.int .u8 (Sd.vow q).toNat) w := by
  have h : q = 0 ∨ q = 1 ∨ q = 2 ∨ q = 3 := by omega
  rcases h with h | h | h | h <;> subst h <;> rfl

theorem wraps_u16 (n : Int) (h₀ : 0 ≤ n) (h₁ : n < 2 ^ 16) : IntKind.u16.wrap n = n := by rw [IntKind.wrap_u16]; omega
theorem u16_and3 (x : Int) (h₀ : 0 ≤ x) (h₁ : x < 65536) : bits .and .u16 x 3 = x % 4 := bits_mask .u16 16 (by decide) wraps_u16 2 (by decide) x h₀ h₁
theorem u16_and15 (x : Int) (h₀ : 0 ≤ x) (h₁ : x < 65536) : bits .and .u16 x 15 = x % 16 := bits_mask .u16 16 (by decide) wraps_u16 4 (by decide) x h₀ h₁
theorem u16_or8 (a b : Int) (ha : 0 ≤ a ∧ a < 256) (hb : 0 ≤ b ∧ b < 256) : bits .or .u16 (a * 256) b = 256 * a + b := by
  rw [bits_join .u16 16 (by decide) wraps_u16 8 (a * 256) b (by omega) (by omega) (by omega) (by omega) (by omega) (by omega)]; omega

theorem str_round {B b : Nat} {bs : List Value} {c : Int} {w1 wk : World} (h : Lib.IsBuilder 35 5 B b bs wk) (hlen : bs.length ≤ 1000) (hBw : B ≤ wk.heap.size) (hb : Below B w1 wk) :
    Calls Try.prog 12 #[.pointer (some ⟨b, 0, none⟩), .int .u8 c] wk fun e w' => e = .returned .nilIface ∧ Lib.IsBuilder 35 5 B b (bs ++ [.int .u8 c]) w' ∧ Below B w1 w' ∧ B ≤ w'.heap.size := by
  refine (Try.Builder_WriteByte B b bs _ wk h (by omega) hBw).mono ?_
  rintro e w' ⟨rfl, h1, h2⟩
  exact ⟨rfl, .inr h1, hb.trans h2, Nat.le_trans hBw h2.size⟩

theorem heap_new (w : World) (o : Obj) : (w.alloc o).heap[w.heap.size]? = some o := by
  show (w.heap.push o)[w.heap.size]? = some o
  simp

/-- Where the seed lies, and what its cells hold. -/
theorem seed_cell {xs : List Nat} {w wk : World} {T : TypeId} (hl : xs.length = 16) (hb : Below (w.heap.size + 1) (w.alloc (.cells (xs.map fun (x : Nat) => Value.int .u8 (x : Int)).toArray T)) wk) (i : Nat) (hi : i < 16) :
    wk.cell? ⟨w.heap.size, i, none⟩ = some (.int .u8 ((xs.getD i 0 : Nat) : Int)) := by
  rw [hb.cell (p := ⟨w.heap.size, i, none⟩) (Nat.lt_succ_self _)]
  have e : (w.alloc (.cells (xs.map fun (x : Nat) => Value.int .u8 (x : Int)).toArray T)).heap[w.heap.size]? = some (.cells (xs.map fun (x : Nat) => Value.int .u8 (x : Int)).toArray T) := heap_new _ _
  simp only [World.cell?, e]
  simp [List.getElem?_eq_getElem (by omega : i < xs.length)]

set_option maxHeartbeats 2000000 in
set_option maxRecDepth 100000 in
theorem str_calls (xs : List Nat) (w : World) (hl : xs.length = 16) (hx : ∀ x ∈ xs, x < 256) :
    Calls Try.prog 6 #[seedV xs] w fun e w' => e = .returned (.string ⟨(Sd.text xs 8).toArray⟩) ∧ Below w.heap.size w w' := by
  unfold seedV
  have hxd : ∀ i, xs.getD i 0 < 256 := by
    intro i
    by_cases hi : i < xs.length
    · rw [List.getD_eq_getElem?_getD, List.getElem?_eq_getElem hi]; exact hx _ (List.getElem_mem hi)
    · rw [List.getD_eq_getElem?_getD, List.getElem?_eq_none (by omega)]; decide
  have HC := hide (fun wk => seed_cell (xs := xs) (w := w) (wk := wk) (T := 23) hl)
  have HX := hide hxd
  clear hxd hx
  obtain ⟨arr, harr⟩ : ∃ arr, arr = (xs.map fun (x : Nat) => Value.int .u8 (x : Int)).toArray := ⟨_, rfl⟩
  rw [← harr] at HC ⊢
  clear harr
  go_enter Try.func6, Try.ntmps6
  go_wp2_with fail
  refine (Try.Builder_Grow_fresh (w.heap.size + 1) (w.heap.size + 1) 47 _ (Nat.le_refl _) (by have := heap_new (w.alloc (Obj.cells arr 23)) (Obj.cells #[Value.pointer none, Value.slice none 0 0] 35); simpa using this) (by simp) (by decide)).mono ?_
  rintro e w1 ⟨rfl, hB, hbel⟩
  replace hB : Lib.IsBuilder 35 5 (w.heap.size + 1) (w.heap.size + 1) (Lib.byteCells (Sd.text xs 0)) w1 := .inr hB
  replace hbel : Below (w.heap.size + 1) (w.alloc (Obj.cells arr 23)) w1 := (Below.alloc (Below.refl _ _) (by simp) _).trans hbel
  have hsz : w.heap.size + 1 ≤ w1.heap.size := by have := hbel.size; simpa using this
  go_wp2_with fail
  go_loopw [4] (fun i wk => ∃ j : Nat, j ≤ 8 ∧ i = .int .i64 ((2 * j : Nat) : Int) ∧ Lib.IsBuilder 35 5 (w.heap.size + 1) (w.heap.size + 1) (Lib.byteCells (Sd.text xs j)) wk ∧ Below (w.heap.size + 1) (w.alloc (Obj.cells arr 23)) wk ∧ w.heap.size + 1 ≤ wk.heap.size) (fun i _ => 16 - (intOf i).toNat)
  case atStart => exact ⟨0, by omega, rfl, hB, hbel, hsz⟩
  case round =>
    clear hB hbel hsz
    obtain ⟨j, hj, rfl, hB, hbel, hsz⟩ := hrel
    by_cases hlt : j < 8
    · obtain ⟨m, hm⟩ : ∃ m, m = 2 * j := ⟨_, rfl⟩
      have c1 := HC.out wr hbel (2 * j) (by omega)
      have c2 := HC.out wr hbel (2 * j + 1) (by omega)
      obtain ⟨A, hA⟩ : ∃ A, A = xs.getD (2 * j) 0 := ⟨_, rfl⟩
      obtain ⟨C, hC⟩ : ∃ C, C = xs.getD (2 * j + 1) 0 := ⟨_, rfl⟩
      have x1 := HX.out (2 * j)
      have x2 := HX.out (2 * j + 1)
      rw [← hA] at c1 x1
      rw [← hC] at c2 x2
      obtain ⟨V, hV⟩ : ∃ V, V = 256 * A + C := ⟨_, rfl⟩
      have HW : Hid (Sd.word xs j = V) := by rw [hV, hA, hC]; rfl
      have hor : bits .or .u16 ((A : Int) * 256) (C : Int) = (V : Int) := by rw [u16_or8 (A : Int) (C : Int) ⟨by omega, by omega⟩ ⟨by omega, by omega⟩]; omega
      have hVl : V < 65536 := by omega
      clear hA hC
      rw [← hm] at c1 c2 ⊢
      have m14 : m ≤ 14 := by omega
      have HM := hide hm
      clear hm
      have i1 : ∀ W, (Instr.index 9 (.string ⟨#[98, 100, 102, 103, 104, 106, 107, 108, 109, 110, 112, 114, 115, 116, 118, 122]⟩) (.int .u16 ((V : Int) / 4096))).run Try.prog W = .ok (.int .u8 (Sd.con (V / 4096)).toNat) W := by
        intro W; have e : (V : Int) / 4096 = ((V / 4096 : Nat) : Int) := by omega
        rw [e]; exact con_at W _ (by omega)
      have i2 : ∀ W, (Instr.index 9 (.string ⟨#[97, 105, 111, 117]⟩) (.int .u16 ((V : Int) / 1024 % 4))).run Try.prog W = .ok (.int .u8 (Sd.vow (V / 1024 % 4)).toNat) W := by
        intro W; have e : (V : Int) / 1024 % 4 = ((V / 1024 % 4 : Nat) : Int) := by omega
        rw [e]; exact vow_at W _ (by omega)
      have i3 : ∀ W, (Instr.index 9 (.string ⟨#[98, 100, 102, 103, 104, 106, 107, 108, 109, 110, 112, 114, 115, 116, 118, 122]⟩) (.int .u16 ((V : Int) / 64 % 16))).run Try.prog W = .ok (.int .u8 (Sd.con (V / 64 % 16)).toNat) W := by
        intro W; have e : (V : Int) / 64 % 16 = ((V / 64 % 16 : Nat) : Int) := by omega
        rw [e]; exact con_at W _ (by omega)
      have i4 : ∀ W, (Instr.index 9 (.string ⟨#[97, 105, 111, 117]⟩) (.int .u16 ((V : Int) / 16 % 4))).run Try.prog W = .ok (.int .u8 (Sd.vow (V / 16 % 4)).toNat) W := by
        intro W; have e : (V : Int) / 16 % 4 = ((V / 16 % 4 : Nat) : Int) := by omega
        rw [e]; exact vow_at W _ (by omega)
      have i5 : ∀ W, (Instr.index 9 (.string ⟨#[98, 100, 102, 103, 104, 106, 107, 108, 109, 110, 112, 114, 115, 116, 118, 122]⟩) (.int .u16 ((V : Int) % 16))).run Try.prog W = .ok (.int .u8 (Sd.con (V % 16)).toNat) W := by
        intro W; have e : (V : Int) % 16 = ((V % 16 : Nat) : Int) := by omega
        rw [e]; exact con_at W _ (by omega)
      have b2 : bits .and .u16 ((V : Int) / 1024) 3 = (V : Int) / 1024 % 4 := u16_and3 _ (by omega) (by omega)
      have b3 : bits .and .u16 ((V : Int) / 64) 15 = (V : Int) / 64 % 16 := u16_and15 _ (by omega) (by omega)
      have b4 : bits .and .u16 ((V : Int) / 16) 3 = (V : Int) / 16 % 4 := u16_and3 _ (by omega) (by omega)
      have b5 : bits .and .u16 (V : Int) 15 = (V : Int) % 16 := u16_and15 _ (by omega) (by omega)
      have HS := hide hsz
      have HBL := hide hbel
      have hL : (Lib.byteCells (Sd.text xs j)).length ≤ 60 := by rw [Lib.byteCells_length]; exact Sd.text_small xs j hj
      obtain ⟨BS, hBS⟩ : ∃ BS, BS = Lib.byteCells (Sd.text xs j) := ⟨_, rfl⟩
      rw [← hBS] at hB hL
      have HBS := hide hBS
      clear hsz hbel hBS hV
      by_cases h0 : j = 0
      · have hm0 : m = 0 := by have := HM.out; omega
        subst hm0
        go_wp2_with fail
        go_quiet (fail)
        replace hB : Lib.IsBuilder 35 5 (w.heap.size + 1) (w.heap.size + 1) BS (wr.drewN nq) := hB
        replace HS : Hid (w.heap.size + 1 ≤ (wr.drewN nq).heap.size) := HS
        replace HBL : Hid (Below (w.heap.size + 1) (w.alloc (Obj.cells arr 23)) (wr.drewN nq)) := below_drewN HBL.out nq
        go_wp2_with fail
        refine (str_round hB (by omega) HS.out HBL.out).mono ?_
        clear hB HS HBL
        rintro e w2 ⟨rfl, hB, HBL, HS⟩
        replace HBL := hide HBL
        replace HS := hide HS
        go_wp2_with fail
        refine (str_round hB (by simp; omega) HS.out HBL.out).mono ?_
        clear hB HS HBL
        rintro e w3 ⟨rfl, hB, HBL, HS⟩
        replace HBL := hide HBL
        replace HS := hide HS
        go_wp2_with fail
        refine (str_round hB (by simp; omega) HS.out HBL.out).mono ?_
        clear hB HS HBL
        rintro e w4 ⟨rfl, hB, HBL, HS⟩
        replace HBL := hide HBL
        replace HS := hide HS
        go_wp2_with fail
        refine (str_round hB (by simp; omega) HS.out HBL.out).mono ?_
        clear hB HS HBL
        rintro e w5 ⟨rfl, hB, HBL, HS⟩
        replace HBL := hide HBL
        replace HS := hide HS
        go_wp2_with fail
        refine (str_round hB (by simp; omega) HS.out HBL.out).mono ?_
        clear hB HS HBL
        rintro e w6 ⟨rfl, hB, HBL, HS⟩
        replace HBL := hide HBL
        replace HS := hide HS
        go_wp2_with fail
        refine ⟨⟨j + 1, by omega, by congr 1; have := HM.out; omega, ?_, HBL.out, HS.out⟩, by simp [intOf]⟩
        have e : Lib.byteCells (Sd.text xs (j + 1)) = _ := (show _ = _ from by rw [Sd.text, HW.out, Lib.byteCells_append, ← HBS.out])
        rw [e]
        simpa [Lib.byteCells, Sd.letters, h0] using hB
      · have hm0 : 2 ≤ m := by have := HM.out; omega
        have HB0 := HBL
        go_wp2_with fail
        refine (str_round hB (by omega) HS.out HBL.out).mono ?_
        clear hB HS HBL
        rintro e w2 ⟨rfl, hB, HBL, HS⟩
        replace HBL := hide HBL
        replace HS := hide HS
        have d1 := (HBL.out.cell (p := ⟨w.heap.size, m, none⟩) (Nat.lt_succ_self _)).trans ((HB0.out.cell (p := ⟨w.heap.size, m, none⟩) (Nat.lt_succ_self _)).symm.trans c1)
        have d2 := (HBL.out.cell (p := ⟨w.heap.size, m + 1, none⟩) (Nat.lt_succ_self _)).trans ((HB0.out.cell (p := ⟨w.heap.size, m + 1, none⟩) (Nat.lt_succ_self _)).symm.trans c2)
        clear c1 c2
        go_wp2_with fail
        go_quiet (fail)
        replace hB : Lib.IsBuilder 35 5 (w.heap.size + 1) (w.heap.size + 1) (BS ++ [.int .u8 45]) (w2.drewN nq) := hB
        replace HS : Hid (w.heap.size + 1 ≤ (w2.drewN nq).heap.size) := HS
        replace HBL : Hid (Below (w.heap.size + 1) (w.alloc (Obj.cells arr 23)) (w2.drewN nq)) := below_drewN HBL.out nq
        go_wp2_with fail
        refine (str_round hB (by simp; omega) HS.out HBL.out).mono ?_
        clear hB HS HBL
        rintro e w3 ⟨rfl, hB, HBL, HS⟩
        replace HBL := hide HBL
        replace HS := hide HS
        go_wp2_with fail
        refine (str_round hB (by simp; omega) HS.out HBL.out).mono ?_
        clear hB HS HBL
        rintro e w4 ⟨rfl, hB, HBL, HS⟩
        replace HBL := hide HBL
        replace HS := hide HS
        go_wp2_with fail
        refine (str_round hB (by simp; omega) HS.out HBL.out).mono ?_
        clear hB HS HBL
        rintro e w5 ⟨rfl, hB, HBL, HS⟩
        replace HBL := hide HBL
        replace HS := hide HS
        go_wp2_with fail
        refine (str_round hB (by simp; omega) HS.out HBL.out).mono ?_
        clear hB HS HBL
        rintro e w6 ⟨rfl, hB, HBL, HS⟩
        replace HBL := hide HBL
        replace HS := hide HS
        go_wp2_with fail
        refine (str_round hB (by simp; omega) HS.out HBL.out).mono ?_
        clear hB HS HBL
        rintro e w7 ⟨rfl, hB, HBL, HS⟩
        replace HBL := hide HBL
        replace HS := hide HS
        go_wp2_with fail
        refine ⟨⟨j + 1, by omega, by congr 1; have := HM.out; omega, ?_, HBL.out, HS.out⟩, by simp [intOf]; omega⟩
        have e : Lib.byteCells (Sd.text xs (j + 1)) = _ := (show _ = _ from by rw [Sd.text, HW.out, Lib.byteCells_append, ← HBS.out])
        rw [e]
        simpa [Lib.byteCells, Sd.letters, h0] using hB
    · obtain rfl : j = 8 := by omega
      go_wp2_with fail
      refine (Try.Builder_String (w.heap.size + 1) (w.heap.size + 1) _ _ hB (by intro h; have := congrArg List.length h; rw [Sd.text_len] at this; simp at this)).mono ?_
      rintro e w' ⟨rfl, hb2⟩
      go_wp2
      go_ret
      have hb3 := (((Below.refl w.heap.size w).alloc (Nat.le_refl _) (Obj.cells arr 23)).trans (hbel.mono (Nat.le_succ _))).trans (hb2.mono (Nat.le_succ _))
      exact ⟨rfl, hb3⟩
end Go.Proofs.Qxb6602177a
