/-
  WALK: b1AppendDigits.
-/
import Derived.Test.Qxb6602111aPut
namespace Go.Proofs.Qxb6602111a
open Go.RowKit Kit

theorem alpha (w : World) (q : Int) (h0 : 0 ≤ q) (h1 : q < 36) : (Instr.index 9 (.string ⟨#[97, 98, 99, 100, 101, 102, 103, 104, 105, 106, 107, 108, 109, 110, 111, 112, 113, 114, 115, 116, 117, 118, 119, 120, 121, 122, 48, 49, 50, 51, 52, 53, 54, 55, 56, 57]⟩) (.int .i64 q)).run Try.prog w = .ok (.int .u8 (Em.dg q)) w := by
  have h : q = 0 ∨ q = 1 ∨ q = 2 ∨ q = 3 ∨ q = 4 ∨ q = 5 ∨ q = 6 ∨ q = 7 ∨ q = 8 ∨ q = 9 ∨ q = 10 ∨ q = 11 ∨ q = 12 ∨ q = 13 ∨ q = 14 ∨ q = 15 ∨ q = 16 ∨ q = 17 ∨ q = 18 ∨ q = 19 ∨ q = 20 ∨ q = 21 ∨ q = 22 ∨ q = 23 ∨ q = 24 ∨ q = 25 ∨ q = 26 ∨ q = 27 ∨ q = 28 ∨ q = 29 ∨ q = 30 ∨ q = 31 ∨ q = 32 ∨ q = 33 ∨ q = 34 ∨ q = 35 := by omega
  rcases h with h | h | h | h | h | h | h | h | h | h | h | h | h | h | h | h | h | h | h | h | h | h | h | h | h | h | h | h | h | h | h | h | h | h | h | h <;> subst h <;> rfl

/-- A text that grows from v at w: what else was there stays. -/
def Rest (w wr : World) (v t : Value) : Prop :=
  (∀ i, i < w.heap.size → v.ownBlock ≠ some i → wr.heap[i]? = w.heap[i]?) ∧ (t.ownBlock = v.ownBlock ∨ ∃ k, t.ownBlock = some k ∧ w.heap.size ≤ k)

theorem Rest.refl (w : World) (v : Value) : Rest w w v v := ⟨fun _ _ _ => rfl, .inl rfl⟩

theorem Rest.step {w wr w1 : World} {v u v' : Value} {o : Obj} (h : Rest w wr v u) (hsz : w.heap.size ≤ wr.heap.size) (hgrow : (wr.alloc o).grownBy w1 u.ownBlock) (hat : v'.ownBlock = u.ownBlock ∨ v'.ownBlock = some (wr.heap.size + 1)) : Rest w w1 v v' := by
  constructor
  · intro i hi hne
    have hiu : some i ≠ u.ownBlock := by
      rcases h.2 with e | ⟨k, e, hk⟩
      · rw [e]; exact fun e' => hne e'.symm
      · rw [e]; intro e'; cases e'; omega
    rw [hgrow.block i (by simp; omega) hiu, Below.heap_alloc wr o i (by omega)]
    exact h.1 i hi hne
  · rcases hat with e | e
    · rw [e]; exact h.2
    · exact .inr ⟨_, e, by omega⟩

theorem rel_dig {B n : Nat} {xs pre : List Value} {w wr w1 : World} {u v' c : Value} {o : Obj} (hB : B ≤ wr.heap.size) (hown : wr.ownsRow B 5 1 u (n + pre.length) (xs ++ pre)) (hb : Below B w wr)
    (hown' : w1.ownsRow B 5 1 v' (n + pre.length + 1) (xs ++ (pre ++ [c]))) (hgrow : (wr.alloc o).grownBy w1 u.ownBlock) :
    w1.ownsRow B 5 1 v' (n + (pre ++ [c]).length) (xs ++ (pre ++ [c])) ∧ Below B w w1 := by
  refine ⟨?_, (hb.alloc hB o).grown hgrow (by simp; omega) (fun j hj => (hown.lt j hj).1)⟩
  rw [List.length_append]
  exact hown'

set_option maxHeartbeats 800000 in
theorem appDig (B : Nat) (v : Value) (n : Nat) (xs : List Value) (q bias : Int) (w : World) (hB : B ≤ w.heap.size) (hn : n ≤ 1048576) (hq0 : 0 ≤ q) (hq1 : q < 100000000000) (hb0 : 0 ≤ bias) (hb1 : bias ≤ 2340) (hown : w.ownsRow B 5 1 v n xs) :
    Calls Try.prog 29 #[v, .int .i64 q, .int .i64 bias] w fun e w' => ∃ v', e = .returned v' ∧ w'.ownsRow B 5 1 v' (n + (Em.digits q bias).length) (xs ++ (Em.digits q bias).map (Value.int .u8)) ∧ Below B w w' ∧ Rest w w' v v' := by
  obtain ⟨i5, hi, hz0, hz1, hz2⟩ := info_parts Try.info5
  have hlen : (Em.digits q bias).length ≤ 12 := Em.digs_len 11 _ _ _ _ hq0 (by omega)
  obtain ⟨DD, hDD⟩ : ∃ DD, DD = Em.digits q bias := ⟨_, rfl⟩
  have H0 : Hid ([] ++ Em.digs (q.toNat + 1) 36 q bias = DD) := by rw [hDD]; rfl
  rw [← hDD] at hlen ⊢
  clear hDD
  go_enter Try.func29, Try.ntmps29
  go_wp2
  go_loopw [0, 1, 7] (fun t qq kk wr => ∃ (fu : Nat) (K Q : Int) (pre : List Int), kk = .int .i64 K ∧ qq = .int .i64 Q ∧ 0 ≤ Q ∧ Q ≤ q ∧ Q.toNat < fu ∧ fu ≤ q.toNat + 1 ∧ 0 ≤ K ∧ K + 36 * fu ≤ 36 * (q.toNat + 2) ∧ pre ++ Em.digs fu K Q bias = DD ∧ wr.ownsRow B 5 1 t (n + (pre.map (Value.int .u8)).length) (xs ++ pre.map (Value.int .u8)) ∧ Below B w wr ∧ Rest w wr v t) (fun _ qq _ _ => (intOf qq).toNat)
  case atStart => exact ⟨q.toNat + 1, 36, q, [], rfl, rfl, hq0, by omega, by omega, by omega, by omega, by omega, H0.out, by simpa using hown, Below.refl _ _, Rest.refl _ _⟩
  case round =>
    obtain ⟨fu, K, Q, pre, rfl, rfl, Q0, Q1, hfu, hfu2, K0, K1, hpre, hownr, hbel, hrest⟩ := hrel
    obtain ⟨fv, rfl⟩ : ∃ fv, fu = fv + 1 := ⟨fu - 1, by omega⟩
    have hsz := hbel.size
    obtain ⟨t1, t2⟩ := Em.thr_bd K bias
    have hpl : pre.length ≤ 12 := by have := congrArg List.length hpre; simp at this; omega
    by_cases hlt : Q < Em.thr K bias
    · have hpre2 : pre ++ [Em.dg Q] = DD := by rw [← hpre, Em.digs_last _ _ _ _ hlt]
      have HP := hide hpre2
      clear hpre hpre2
      have hal := fun W => alpha W Q Q0 (by omega)
      go_wp2_with (first | (go_at_call 31; refine (thr31 K bias _ K0 (by omega) hb0 hb1).mono ?_; rintro e w' ⟨rfl, rfl⟩) | (at_builtin; refine wpList_append_own_at _ rfl _ _ 22 rfl B 5 i5 (.int .u8 0) 1 1 Try.underlying22 hi hz0 hz1 hz2 rfl (by decide) _ _ _ rfl (hownr.alloc _) ⟨wr.heap.size, 0, none⟩ 1 1 [.int .u8 (Em.dg Q)] rfl rfl ?c1 ?c2 ?c3 ?c4 ?c5 ?_))
      case c1 => exact cell_one_new _ _ _
      case c2 => intro u hu; simp at hu; subst hu; rfl
      case c3 => unfold maxLen; simp; omega
      case c4 => simp; omega
      case c5 => simp; omega
      · intro v' w1 hown' hgrow _ hat
        have R := rel_dig (by omega) hownr hbel (by simpa using hown') hgrow
        have R3 := hrest.step (v' := v') (by omega) hgrow (by simpa using hat)
        clear hat hrest
        have HF : Hid (pre.map (Value.int .u8) ++ [Value.int .u8 (Em.dg Q)] = DD.map (Value.int .u8)) := by rw [← HP.out]; show _ = _; simp
        have HL : Hid (DD.length = (pre.map (Value.int .u8) ++ [Value.int .u8 (Em.dg Q)]).length) := by rw [← HP.out]; show _ = _; simp
        clear hown' hgrow hownr hbel
        go_wp2
        go_ret
        exact ⟨_, rfl, by rw [HL.out, ← HF.out]; exact R.1, R.2, R3⟩
    · have hpre2 : (pre ++ [Em.dg (Em.thr K bias + (Q - Em.thr K bias) % (36 - Em.thr K bias))]) ++ Em.digs fv (K + 36) ((Q - Em.thr K bias) / (36 - Em.thr K bias)) bias = DD := by
        rw [← hpre, Em.digs_more _ _ _ _ hlt, List.append_assoc]; rfl
      have HP := hide hpre2
      clear hpre hpre2
      obtain ⟨n0, n1, _, n3, n4⟩ := Em.next_bd (Em.thr K bias) Q t1 t2 (by omega)
      obtain ⟨t, ht⟩ : ∃ t, t = Em.thr K bias := ⟨_, rfl⟩
      have hthr := fun W => thr31 K bias W K0 (by omega) hb0 hb1
      rw [← ht] at hthr HP n0 n1 n3 n4 hlt t1 t2
      have HTH := hide hthr
      clear ht hthr
      have hal := fun W => alpha W (t + (Q - t) % (36 - t)) (by omega) n4
      go_wp2_with (first | (go_at_call 31; refine (HTH.out _).mono ?_; rintro e w' ⟨rfl, rfl⟩) | (at_builtin; refine wpList_append_own_at _ rfl _ _ 22 rfl B 5 i5 (.int .u8 0) 1 1 Try.underlying22 hi hz0 hz1 hz2 rfl (by decide) _ _ _ rfl (hownr.alloc _) ⟨wr.heap.size, 0, none⟩ 1 1 [.int .u8 (Em.dg (t + (Q - t) % (36 - t)))] rfl rfl ?d1 ?d2 ?d3 ?d4 ?d5 ?_))
      case d1 => exact cell_one_new _ _ _
      case d2 => intro u hu; simp at hu; subst hu; rfl
      case d3 => unfold maxLen; simp; omega
      case d4 => simp; omega
      case d5 => simp; omega
      · intro v' w1 hown' hgrow _ hat
        have R := rel_dig (by omega) hownr hbel (by simpa using hown') hgrow
        have R3 := hrest.step (v' := v') (by omega) hgrow (by simpa using hat)
        clear hat hrest
        clear hown' hgrow hownr hbel
        go_wp2
        go_roundw
        case rel => exact ⟨fv, K + 36, (Q - t) / (36 - t), pre ++ [Em.dg (t + (Q - t) % (36 - t))], by go_num, rfl, n0, by omega, by omega, by omega, by omega, by omega, HP.out, by simpa using R.1, R.2, R3⟩
        case measure => simp [intOf]; omega

end Go.Proofs.Qxb6602111a
