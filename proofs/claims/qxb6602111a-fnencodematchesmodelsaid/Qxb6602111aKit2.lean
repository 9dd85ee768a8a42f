/-
  GENERIC HELPERS, MORE: copies and cuts.
-/
import Derived.Test.Qxb6602111aKit
namespace Go.Proofs.Qxb6602111a.Kit
open Go Go.RowKit

/-- 'y := make([]T, len(x)); copy(y, x)', x whatever (nil too): the copy, as one step. -/
theorem wpList_copy_whole {P : Program} {W : World} {ops : Array Oper} {rest : List Oper} {o : Oper} {a : Act} {Q : Exit → Act → World → Prop} (hgd : o.guard = none) (d s : Operand) (dT sT : TypeId)
    (ho : o.op = .call { callee := .builtin .copy, args := #[d, s], argTypes := #[dT, sT] }) (elem : TypeId) (hu : P.underlying dT = some (.slice elem)) (hsz : (P.info? elem).map (·.size) = some 1)
    (w : World) (n : Nat) (z : Value) (hW : W = w.alloc (.cells (madeCells #[z] n) elem)) (sp : Option Addr) (cap : Nat) (xs : List Value) (hd : a.eval d = .slice (some ⟨w.heap.size, 0, none⟩) n n) (hs : a.eval s = .slice sp n cap)
    (hn : n = xs.length) (hc : 0 < n → ∃ x, sp = some x ∧ ∀ i u, xs[i]? = some u → w.cell? (x.add i) = some u) (h1 : ∀ u ∈ xs, u.oneCell' = true)
    (h : wpList P ops Q rest (a.put o.dst (.int .i64 n)) (w.alloc (.cells xs.toArray elem))) : wpList P ops Q (o :: rest) a W := by
  subst hW
  by_cases h0 : n = 0
  · subst h0
    obtain rfl : xs = [] := List.eq_nil_of_length_eq_zero hn.symm
    refine wpList_copy_nothing hgd d s dT sT ho elem hu hsz _ sp 0 0 0 cap hd hs (by simp) ?_
    have e : madeCells #[z] 0 = ([] : List Value).toArray := by simp [madeCells]
    rw [e]; exact h
  · obtain ⟨x, rfl, hcx⟩ := hc (by omega)
    exact wpList_copy_clone hgd d s dT sT ho elem hu hsz n x cap xs _ hd hs hn (size_madeCells _ _) hcx h1 h

/-- A cut of a row that is known whole. -/
theorem Sl.of_row {w : World} {G off len cap : Nat} {cs : List Value} {e : TypeId} {fr : Nat × Nat} (hr : w.heap[G]? = some (.cells cs.toArray e fr)) (xs : List Value) (hx : xs = (cs.drop off).take len) (hl : off + len ≤ cs.length) (hc : len ≤ cap) (hm : cap ≤ maxLen) :
    Sl w (.slice (some ⟨G, off, none⟩) len cap) xs := by
  have hxl : xs.length = len := by rw [hx]; simp; omega
  refine ⟨some ⟨G, off, none⟩, cap, by rw [hxl], by omega, hm, (fun h => by cases h), fun x hx' i u hu => ?_⟩
  cases hx'
  have hi : i < len := by have := (List.getElem?_eq_some_iff.1 hu).1; omega
  rw [Addr.add_lit]
  rw [hx, List.getElem?_take, if_pos hi, List.getElem?_drop] at hu
  simp [World.cell?, hr, hu]

/-- The head of a slice. -/
theorem Sl.take {w : World} {a : Option Addr} {n cap k cap' : Nat} {xs : List Value} (h : Sl w (.slice a n cap) xs) (hk : k ≤ n) (hc : k ≤ cap') (hc' : cap' ≤ cap) (hz : a = none → cap' = 0) : Sl w (.slice a k cap') (xs.take k) := by
  obtain ⟨a', c', hv, h1, h2, h3, h4⟩ := h
  simp only [Value.slice.injEq] at hv
  obtain ⟨rfl, rfl, rfl⟩ := hv
  have hl : (xs.take k).length = k := by simp; omega
  refine ⟨a, cap', by rw [hl], by omega, by omega, fun e => ⟨by rw [(h3 e).1]; simp, hz e⟩, fun x hx i u hu => h4 x hx i u ?_⟩
  have hi : i < k := by have := (List.getElem?_eq_some_iff.1 hu).1; omega
  rw [List.getElem?_take, if_pos hi] at hu
  exact hu

/-- The tail of a slice. -/
theorem Sl.drop {w : World} {b off n cap k cap' : Nat} {xs : List Value} (h : Sl w (.slice (some ⟨b, off, none⟩) n cap) xs) (hk : k ≤ n) (hc : n - k ≤ cap') (hc' : cap' ≤ maxLen) : Sl w (.slice (some ⟨b, off + k, none⟩) (n - k) cap') (xs.drop k) := by
  obtain ⟨a', c', hv, h1, h2, h3, h4⟩ := h
  simp only [Value.slice.injEq] at hv
  obtain ⟨rfl, rfl, rfl⟩ := hv
  have hl : (xs.drop k).length = xs.length - k := by simp
  refine ⟨some ⟨b, off + k, none⟩, cap', by rw [hl], by omega, hc', (fun e => by cases e), fun x hx i u hu => ?_⟩
  cases hx
  rw [List.getElem?_drop] at hu
  have := h4 _ rfl (k + i) u hu
  rw [Addr.add_lit] at this ⊢
  rw [Nat.add_assoc]; exact this

/-- An empty slice, wherever it lies. -/
theorem Sl.empty (w : World) (a : Option Addr) (cap : Nat) (hm : cap ≤ maxLen) (ha : a = none → cap = 0) : Sl w (.slice a 0 cap) [] :=
  ⟨a, cap, rfl, by simp, hm, fun e => ⟨rfl, ha e⟩, fun x _ i u hu => by simp at hu⟩

end Go.Proofs.Qxb6602111a.Kit
