import Derived.Test.Qxb6602177aPlain
import Derived.Laws.Rows
import Derived.Laws.Tables
namespace Go.Proofs.Qxb6602177a
open Go.Proofs Go.RowKit Go.Proofs.Qxb6602177a.Kit

set_option maxHeartbeats 2000000 in
set_option maxRecDepth 100000 in
theorem indexIn_calls (S : ByteArray) (n q : Nat) (c : UInt8) (w : World) (hn : S.size = n) (hn2 : n < 1000) (hq : S.data[q]? = some c)
    (hb : ∀ k, k < q → ∃ d : UInt8, S.data[k]? = some d ∧ d.toNat ≠ c.toNat) :
    Calls Try.prog 14 #[.string S, .int .u8 (c.toNat : Int)] w fun e w' => e = .returned (.int .i64 (q : Int)) ∧ w = w' := by
  have hqn : q < n := by rw [← hn]; exact (Array.getElem?_eq_some_iff.1 hq).1
  have HB := hide hb
  have HQ := hide (fun W => str_at S q c hq W)
  clear hb hq
  obtain ⟨C, hC⟩ : ∃ C, C = c.toNat := ⟨_, rfl⟩
  rw [← hC] at HB HQ ⊢
  clear hC
  go_enter Try.func14, Try.ntmps14
  go_wp2_with fail
  go_loop [5] (fun iv => ∃ i : Nat, i ≤ q ∧ iv = .int .i64 (i : Int)) (fun iv => q - (intOf iv).toNat)
  case atStart => exact ⟨0, by omega, rfl⟩
  case round =>
    obtain ⟨i, hi, rfl⟩ := hrel
    have hin : (i : Int) < (n : Int) := by omega
    by_cases hlt : i < q
    · obtain ⟨d, hd, hne⟩ := HB.out i hlt
      have s1 := fun W => str_at S i d hd W
      obtain ⟨D, hD⟩ : ∃ D, D = d.toNat := ⟨_, rfl⟩
      rw [← hD] at s1 hne
      clear hd hD
      have hne' : ¬ (D : Int) = (C : Int) := by omega
      have hb' : ((D : Int) == (C : Int)) = false := by simp; omega
      go_wp2_with fail
      go_round
      case rel => exact ⟨i + 1, by omega, by go_num⟩
      case measure => simp [intOf]; omega
    · obtain rfl : i = q := by omega
      have s1 := HQ.out
      go_wp2_with fail
      go_ret
      exact ⟨rfl, rfl⟩

namespace Sd
theorem con_ne {a b : Nat} (hb : b < 16) (h : a < b) : (con a).toNat ≠ (con b).toNat := by
  have key : ∀ b : Fin 16, ∀ a : Fin 16, a.val < b.val → (con a.val).toNat ≠ (con b.val).toNat := by decide
  exact key ⟨b, hb⟩ ⟨a, by omega⟩ h
theorem vow_ne {a b : Nat} (hb : b < 4) (h : a < b) : (vow a).toNat ≠ (vow b).toNat := by
  have key : ∀ b : Fin 4, ∀ a : Fin 4, a.val < b.val → (vow a.val).toNat ≠ (vow b.val).toNat := by decide
  exact key ⟨b, hb⟩ ⟨a, by omega⟩ h
theorem con_get {k : Nat} (h : k < 16) : (#[98, 100, 102, 103, 104, 106, 107, 108, 109, 110, 112, 114, 115, 116, 118, 122] : Array UInt8)[k]? = some (con k) := by
  have key : ∀ k : Fin 16, (#[98, 100, 102, 103, 104, 106, 107, 108, 109, 110, 112, 114, 115, 116, 118, 122] : Array UInt8)[k.val]? = some (con k.val) := by decide
  exact key ⟨k, h⟩
theorem vow_get {k : Nat} (h : k < 4) : (#[97, 105, 111, 117] : Array UInt8)[k]? = some (vow k) := by
  have key : ∀ k : Fin 4, (#[97, 105, 111, 117] : Array UInt8)[k.val]? = some (vow k.val) := by decide
  exact key ⟨k, h⟩
end Sd

theorem index_con (q : Nat) (hq : q < 16) (w : World) :
    Calls Try.prog 14 #[.string ⟨#[98, 100, 102, 103, 104, 106, 107, 108, 109, 110, 112, 114, 115, 116, 118, 122]⟩, .int .u8 ((Sd.con q).toNat : Int)] w fun e w' => e = .returned (.int .i64 (q : Int)) ∧ w = w' :=
  indexIn_calls _ 16 q _ w rfl (by decide) (Sd.con_get hq) fun k hk => ⟨_, Sd.con_get (by omega), Sd.con_ne hq hk⟩
theorem index_vow (q : Nat) (hq : q < 4) (w : World) :
    Calls Try.prog 14 #[.string ⟨#[97, 105, 111, 117]⟩, .int .u8 ((Sd.vow q).toNat : Int)] w fun e w' => e = .returned (.int .i64 (q : Int)) ∧ w = w' :=
  indexIn_calls _ 4 q _ w rfl (by decide) (Sd.vow_get hq) fun k hk => ⟨_, Sd.vow_get (by omega), Sd.vow_ne hq hk⟩

end Go.Proofs.Qxb6602177a
