/-
  A SEED THAT CAME IN, OPENED: an array of sixteen bytes by value.
-/
import Derived.Test.Qxb6602177aStr
import Derived.WalkKit
import Derived.ProofKit
import Derived.OpenShut
namespace Go.Proofs.Qxb6602177a
open Go.ChangeShapes Go.WideShapes Go.ChangeAt Go.RowKit

theorem cells22 : Try.prog.cellsOf 22 = 16 := by kernel_rfl
theorem cells5 : Try.prog.cellsOf 5 = 1 := by kernel_rfl

def natOf : Value → Nat
  | .int _ n => n.toNat
  | _ => 0

theorem open_seed {H : Type} {enc : TypeId × Value → H} {W : World} {base base' : Nat} {sp : Nat → Bool} {held : Bool} {v : Value} {d : DataW H} {p : List MemPlace}
    (ok : Value.okWide Try.prog W .any base 22 v) (h : DataW.Trod enc Try.prog W base' sp held 22 v d p) :
    ∃ xs : List Nat, xs.length = 16 ∧ (∀ x ∈ xs, x < 256) ∧ v = seedV xs := by
  obtain ⟨cs, rfl, hsz, _⟩ : ∃ cs, v = .agg cs ∧ cs.size = Try.prog.cellsOf 22 ∧ Row.okWide Try.prog W .any base 22 cs := by
    simpa [Value.okWide, Try.underlying22] using ok
  rw [cells22] at hsz
  obtain ⟨l⟩ := cs
  have hl : l.length = 16 := by simpa using hsz
  obtain ⟨fuel, hf⟩ := h
  obtain ⟨ys, m, -, -, -, hyl, hy⟩ := DataW.trod_array Try.underlying22 hf
  rw [cells5] at hy
  have hc : ∀ i, i < 16 → ∃ n : Nat, n < 256 ∧ l[i]? = some (.int .u8 (n : Int)) := by
    intro i hi
    have h1 := hy i hi
    rw [List.getElem?_eq_getElem (by omega : i < ys.length)] at h1
    obtain ⟨n, hn, -, hwf⟩ := DataW.trod_int Try.underlying5 h1
    have b := bounds_u8 hwf
    refine ⟨n.toNat, by omega, ?_⟩
    rw [show ((n.toNat : Nat) : Int) = n by omega]
    have h0 := congrArg (fun z : List Value => z[0]?) hn
    simp [Value.cells] at h0
    simpa using h0
  refine ⟨l.map natOf, by simpa using hl, ?_, ?_⟩
  · intro x hx
    obtain ⟨v, hv, rfl⟩ := List.mem_map.1 hx
    obtain ⟨i, hi, rfl⟩ := List.mem_iff_getElem.1 hv
    obtain ⟨n, hn, he⟩ := hc i (by omega)
    rw [List.getElem?_eq_getElem hi] at he
    rw [Option.some.inj he]
    simpa [natOf] using hn
  · unfold seedV
    congr 2
    rw [List.map_map]
    apply List.ext_getElem?
    intro i
    by_cases hi : i < 16
    · obtain ⟨n, _, he⟩ := hc i hi
      rw [List.getElem?_map, he]
      simp [natOf]
    · rw [List.getElem?_eq_none (by omega), List.getElem?_eq_none (by simp; omega)]

end Go.Proofs.Qxb6602177a
