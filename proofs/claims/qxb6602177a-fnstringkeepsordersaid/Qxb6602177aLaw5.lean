import Derived.Test.Qxb6602177aCmp
namespace Go.Proofs.Qxb6602177a
open Go.Proofs Go.RowKit Go.Proofs.Qxb6602177a.Kit

set_option maxHeartbeats 2000000 in
set_option maxRecDepth 100000 in
theorem cmpText (S U : ByteArray) (f g : Nat → Nat) (w : World) (hS : S.size = 47) (hU : U.size = 47)
    (hf : ∀ k, k < 47 → ∃ c : UInt8, S.data[k]? = some c ∧ c.toNat = f k) (hg : ∀ k, k < 47 → ∃ c : UInt8, U.data[k]? = some c ∧ c.toNat = g k) :
    Calls Try.prog 10 #[.string S, .string U] w fun e w' => ∃ r, e = .returned (.int .i64 r) ∧ Sd.Cmp f g 47 r ∧ Below w.heap.size w w' := by
  have HF := hide hf
  have HG := hide hg
  clear hf hg
  go_enter Try.func10, Try.ntmps10
  go_wp2_with fail
  go_loopw [6] (fun iv wr => ∃ i : Nat, i ≤ 47 ∧ iv = .int .i64 (i : Int) ∧ (∀ k, k < i → f k = g k) ∧ Below w.heap.size w wr) (fun iv _ => 47 - (intOf iv).toNat)
  case atStart => exact ⟨0, by omega, rfl, fun k hk => by omega, Below.refl _ _⟩
  case round =>
    obtain ⟨i, hi, rfl, he, hbel⟩ := hrel
    have HE := hide he
    have HB := hide hbel
    clear he hbel
    by_cases hlt : i < 47
    · obtain ⟨c, hc, hcf⟩ := HF.out i hlt
      obtain ⟨d, hd, hdg⟩ := HG.out i hlt
      have s1 := fun W => str_at S i c hc W
      have s2 := fun W => str_at U i d hd W
      have hi47 : (i : Int) < 47 := by omega
      obtain ⟨x, hx⟩ : ∃ x, x = c.toNat := ⟨_, rfl⟩
      obtain ⟨y, hy⟩ : ∃ y, y = d.toNat := ⟨_, rfl⟩
      rw [← hx] at s1 hcf
      rw [← hy] at s2 hdg
      clear hc hd hx hy
      subst hcf hdg
      obtain ⟨x, hx⟩ : ∃ x, x = f i := ⟨_, rfl⟩
      obtain ⟨y, hy⟩ : ∃ y, y = g i := ⟨_, rfl⟩
      rw [← hx] at s1
      rw [← hy] at s2
      have HX := hide hx
      have HY := hide hy
      clear hx hy
      rcases Nat.lt_trichotomy x y with h | h | h
      · have hxy : (x : Int) < (y : Int) := by omega
        go_wp2_with fail
        go_quiet (fail)
        go_wp2_with fail
        go_ret
        exact ⟨_, rfl, .inl ⟨i, hlt, HE.out, by rw [← HX.out, ← HY.out]; exact h, rfl⟩, below_drewN HB.out _⟩
      · subst h
        go_wp2_with fail
        go_quiet (fail)
        go_wp2_with fail
        go_quiet (fail)
        go_wp2_with fail
        go_roundw
        case rel =>
          refine ⟨i + 1, by omega, by go_num, fun k hk => ?_, below_drewN HB.out _⟩
          by_cases hki : k = i
          · rw [hki, ← HX.out]; exact HY.out
          · exact HE.out k (by omega)
        case measure => simp [intOf]; omega
      · have hxy : (y : Int) < (x : Int) := by omega
        have hxy' : ¬ (x : Int) < (y : Int) := by omega
        go_wp2_with fail
        go_quiet (fail)
        go_wp2_with fail
        go_quiet (fail)
        go_wp2_with fail
        go_ret
        exact ⟨_, rfl, .inr (.inl ⟨i, hlt, HE.out, by rw [← HX.out, ← HY.out]; exact h, rfl⟩), below_drewN (below_drewN HB.out _) _⟩
    · obtain rfl : i = 47 := by omega
      go_wp2_with fail
      go_ret
      exact ⟨_, rfl, .inr (.inr ⟨HE.out, rfl⟩), HB.out⟩

theorem two_cells {xs ys : List Nat} {w wr : World} (hx : xs.length = 16) (hy : ys.length = 16)
    (hb : Below (w.heap.size + 2) ((w.alloc (.cells (xs.map fun (x : Nat) => Value.int .u8 (x : Int)).toArray 22)).alloc (.cells (ys.map fun (x : Nat) => Value.int .u8 (x : Int)).toArray 22)) wr) (i : Nat) (hi : i < 16) :
    wr.cell? ⟨w.heap.size, i, none⟩ = some (.int .u8 ((Sd.byt xs i : Nat) : Int)) ∧ wr.cell? ⟨w.heap.size + 1, i, none⟩ = some (.int .u8 ((Sd.byt ys i : Nat) : Int)) := by
  have b1 : wr.heap[w.heap.size]? = some (.cells (xs.map fun (x : Nat) => Value.int .u8 (x : Int)).toArray 22) := by
    rw [hb.block w.heap.size (by omega), Below.heap_alloc _ _ _ (by simp)]; exact heap_new _ _
  have b2 : wr.heap[w.heap.size + 1]? = some (.cells (ys.map fun (x : Nat) => Value.int .u8 (x : Int)).toArray 22) := by
    rw [hb.block (w.heap.size + 1) (by omega)]
    have := heap_new (w.alloc (.cells (xs.map fun (x : Nat) => Value.int .u8 (x : Int)).toArray 22)) (.cells (ys.map fun (x : Nat) => Value.int .u8 (x : Int)).toArray 22)
    simpa using this
  constructor
  · simp only [World.cell?, b1]
    simp [Sd.byt, List.getElem?_eq_getElem (by omega : i < xs.length)]
  · simp only [World.cell?, b2]
    simp [Sd.byt, List.getElem?_eq_getElem (by omega : i < ys.length)]

set_option maxHeartbeats 2000000 in
set_option maxRecDepth 100000 in
theorem cmpSeeds (xs ys : List Nat) (w : World) (hx : xs.length = 16) (hy : ys.length = 16) :
    Calls Try.prog 9 #[seedV xs, seedV ys] w fun e w' => ∃ r, e = .returned (.int .i64 r) ∧ Sd.Cmp (Sd.byt xs) (Sd.byt ys) 16 r ∧ Below w.heap.size w w' := by
  unfold seedV
  have HC := hide (fun wr => two_cells (w := w) (wr := wr) hx hy)
  clear hx hy
  obtain ⟨f, hf⟩ : ∃ f, f = Sd.byt xs := ⟨_, rfl⟩
  obtain ⟨g, hg⟩ : ∃ g, g = Sd.byt ys := ⟨_, rfl⟩
  rw [← hf, ← hg] at HC ⊢
  clear hf hg
  obtain ⟨arr, harr⟩ : ∃ arr, arr = (xs.map fun (x : Nat) => Value.int .u8 (x : Int)).toArray := ⟨_, rfl⟩
  obtain ⟨brr, hbrr⟩ : ∃ arr, arr = (ys.map fun (x : Nat) => Value.int .u8 (x : Int)).toArray := ⟨_, rfl⟩
  rw [← harr, ← hbrr] at HC ⊢
  clear harr hbrr
  have H0 : Hid (Below w.heap.size w ((w.alloc (.cells arr 22)).alloc (.cells brr 22))) := ((Below.refl _ _).alloc (Nat.le_refl _) _).alloc (by simp) _
  go_enter Try.func9, Try.ntmps9
  go_wp2_with fail
  go_loopw [5] (fun iv wr => ∃ i : Nat, i ≤ 16 ∧ iv = .int .i64 (i : Int) ∧ (∀ k, k < i → f k = g k) ∧ Below (w.heap.size + 2) ((w.alloc (.cells arr 22)).alloc (.cells brr 22)) wr) (fun iv _ => 16 - (intOf iv).toNat)
  case atStart => exact ⟨0, by omega, rfl, fun k hk => by omega, Below.refl _ _⟩
  case round =>
    obtain ⟨i, hi, rfl, he, hbel⟩ := hrel
    have HE := hide he
    have HB := hide hbel
    by_cases hlt : i < 16
    · obtain ⟨c1, c2⟩ := HC.out wr hbel i hlt
      clear he hbel
      have hi16 : (i : Int) < 16 := by omega
      obtain ⟨x, hx⟩ : ∃ x, x = f i := ⟨_, rfl⟩
      obtain ⟨y, hy⟩ : ∃ y, y = g i := ⟨_, rfl⟩
      rw [← hx] at c1
      rw [← hy] at c2
      have HX := hide hx
      have HY := hide hy
      clear hx hy
      rcases Nat.lt_trichotomy x y with h | h | h
      · have hxy : (x : Int) < (y : Int) := by omega
        go_wp2_with fail
        go_quiet (fail)
        go_wp2_with fail
        go_ret
        exact ⟨_, rfl, .inl ⟨i, hlt, HE.out, by rw [← HX.out, ← HY.out]; exact h, rfl⟩, H0.out.trans ((below_drewN HB.out _).mono (by omega))⟩
      · subst h
        go_wp2_with fail
        go_quiet (fail)
        go_wp2_with fail
        go_quiet (fail)
        go_wp2_with fail
        go_roundw
        case rel =>
          refine ⟨i + 1, by omega, by go_num, fun k hk => ?_, below_drewN HB.out _⟩
          by_cases hki : k = i
          · rw [hki, ← HX.out]; exact HY.out
          · exact HE.out k (by omega)
        case measure => simp [intOf]; omega
      · have hxy : (y : Int) < (x : Int) := by omega
        have hxy' : ¬ (x : Int) < (y : Int) := by omega
        go_wp2_with fail
        go_quiet (fail)
        go_wp2_with fail
        go_quiet (fail)
        go_wp2_with fail
        go_ret
        exact ⟨_, rfl, .inr (.inl ⟨i, hlt, HE.out, by rw [← HX.out, ← HY.out]; exact h, rfl⟩), H0.out.trans ((below_drewN (below_drewN HB.out _) _).mono (by omega))⟩
    · obtain rfl : i = 16 := by omega
      clear he hbel
      go_wp2_with fail
      go_ret
      exact ⟨_, rfl, .inr (.inr ⟨HE.out, rfl⟩), H0.out.trans (HB.out.mono (by omega))⟩

theorem two_rows {w wr : World} {o q : Obj} (hb : Below (w.heap.size + 2) ((w.alloc o).alloc q) wr) : wr.heap[w.heap.size]? = some o ∧ wr.heap[w.heap.size + 1]? = some q := by
  constructor
  · rw [hb.block w.heap.size (by omega), Below.heap_alloc _ _ _ (by simp)]; exact heap_new _ _
  · rw [hb.block (w.heap.size + 1) (by omega)]
    have := heap_new (w.alloc o) q
    simpa using this

theorem hold2 {w wr w' : World} {o q : Obj} (h : Below (w.heap.size + 2) ((w.alloc o).alloc q) wr) (h' : Below wr.heap.size wr w') : Below (w.heap.size + 2) ((w.alloc o).alloc q) w' := by
  refine h.trans (h'.mono ?_)
  have := h.size
  simpa using this

theorem text_chars (xs : List Nat) (k : Nat) (hk : k < 47) : ∃ c : UInt8, (ByteArray.mk (Sd.text xs 8).toArray).data[k]? = some c ∧ c.toNat = Sd.chr xs k := by
  have hl : k < (Sd.text xs 8).length := by rw [Sd.text_len8]; exact hk
  refine ⟨(Sd.text xs 8)[k], ?_, ?_⟩
  · show (Sd.text xs 8).toArray[k]? = _
    rw [List.getElem?_toArray, List.getElem?_eq_getElem hl]
  · simp [Sd.chr, List.getD_eq_getElem?_getD, List.getElem?_eq_getElem hl]

theorem below256 {xs : List Nat} (hx : ∀ x ∈ xs, x < 256) (i : Nat) : Sd.byt xs i < 256 := by
  unfold Sd.byt
  by_cases hi : i < xs.length
  · rw [List.getD_eq_getElem?_getD, List.getElem?_eq_getElem hi]; exact hx _ (List.getElem_mem hi)
  · rw [List.getD_eq_getElem?_getD, List.getElem?_eq_none (by omega)]; decide

set_option maxHeartbeats 2000000 in
set_option maxRecDepth 100000 in
theorem law5 (xs ys : List Nat) (w : World) (hx : xs.length = 16) (bx : ∀ x ∈ xs, x < 256) (hy : ys.length = 16) (by' : ∀ x ∈ ys, x < 256) :
    Calls Try.prog 5 #[seedV xs, seedV ys] w fun e w' => e = .returned (.bool true) ∧ Below w.heap.size w w' := by
  have HS1 := hide (fun W => str_calls xs W hx bx)
  have HS2 := hide (fun W => str_calls ys W hy by')
  have HCS := hide (fun W => cmpSeeds xs ys W hx hy)
  have HCT := hide (fun W => cmpText ⟨(Sd.text xs 8).toArray⟩ ⟨(Sd.text ys 8).toArray⟩ (Sd.chr xs) (Sd.chr ys) W (by show (Sd.text xs 8).toArray.size = 47; rw [List.size_toArray, Sd.text_len8]) (by show (Sd.text ys 8).toArray.size = 47; rw [List.size_toArray, Sd.text_len8]) (text_chars xs) (text_chars ys))
  have HO := hide (fun r s h h' => Sd.order (r := r) (s := s) (below256 bx) (below256 by') h h')
  obtain ⟨S, hS⟩ : ∃ S : ByteArray, S = ⟨(Sd.text xs 8).toArray⟩ := ⟨_, rfl⟩
  obtain ⟨U, hU⟩ : ∃ S : ByteArray, S = ⟨(Sd.text ys 8).toArray⟩ := ⟨_, rfl⟩
  rw [← hS] at HS1 HCT
  rw [← hU] at HS2 HCT
  clear hS hU bx by'
  unfold seedV at *
  obtain ⟨arr, harr⟩ : ∃ arr, arr = (xs.map fun (x : Nat) => Value.int .u8 (x : Int)).toArray := ⟨_, rfl⟩
  obtain ⟨brr, hbrr⟩ : ∃ arr, arr = (ys.map fun (x : Nat) => Value.int .u8 (x : Int)).toArray := ⟨_, rfl⟩
  have hasz : arr.size = 16 := by rw [harr]; simp [hx]
  have hbsz : brr.size = 16 := by rw [hbrr]; simp [hy]
  rw [← harr] at HS1 HCS ⊢
  rw [← hbrr] at HS2 HCS ⊢
  have HSZ : Hid ((Try.prog.info? 22).map (·.size) = some arr.size) := by rw [hasz]; show _ = _; kernel_rfl
  have HSY : Hid ((Try.prog.info? 22).map (·.size) = some brr.size) := by rw [hbsz]; show _ = _; kernel_rfl
  clear harr hasz hx hbrr hbsz hy
  have H0 : Hid (Below w.heap.size w ((w.alloc (.cells arr 22)).alloc (.cells brr 22))) := ((Below.refl _ _).alloc (Nat.le_refl _) _).alloc (by simp) _
  have HB1 : Hid (Below (w.heap.size + 2) ((w.alloc (.cells arr 22)).alloc (.cells brr 22)) ((w.alloc (.cells arr 22)).alloc (.cells brr 22))) := Below.refl _ _
  go_enter Try.func5, Try.ntmps5
  go_wp2_with (refine wpList_load_row rfl 22 _ rfl _ rfl 22 arr (0, 0) _ (two_rows HB1.out).1 Try.underlying22 rfl HSZ.out ?_)
  refine (HS1.out _).mono ?_
  rintro e w1 ⟨rfl, hb1⟩
  have HB2 := hide (hold2 HB1.out hb1)
  clear hb1
  go_wp2_with (refine wpList_load_row rfl 22 _ rfl _ rfl 22 brr (0, 0) _ (two_rows HB2.out).2 Try.underlying22 rfl HSY.out ?_)
  refine (HS2.out _).mono ?_
  rintro e w2 ⟨rfl, hb1⟩
  have HB3 := hide (hold2 HB2.out hb1)
  clear hb1
  go_wp2_with (first | (refine wpList_load_row rfl 22 _ rfl _ rfl 22 arr (0, 0) _ (two_rows HB3.out).1 Try.underlying22 rfl HSZ.out ?_) | (refine wpList_load_row rfl 22 _ rfl _ rfl 22 brr (0, 0) _ (two_rows HB3.out).2 Try.underlying22 rfl HSY.out ?_))
  refine (HCS.out _).mono ?_
  rintro e w3 ⟨r, rfl, hr, hb1⟩
  have HB4 := hide (hold2 HB3.out hb1)
  have HR := hide hr
  clear hb1 hr
  go_wp2_with fail
  refine (HCT.out _).mono ?_
  rintro e w4 ⟨s, rfl, hs, hb1⟩
  have HB5 := hide (hold2 HB4.out hb1)
  obtain rfl := HO.out r s HR.out hs
  clear hb1 hs
  go_wp2_with fail
  go_ret
  exact ⟨by simp, H0.out.trans (HB5.out.mono (by omega))⟩
end Go.Proofs.Qxb6602177a
