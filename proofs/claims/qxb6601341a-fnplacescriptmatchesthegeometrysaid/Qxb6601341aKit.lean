/-
  GENERIC HELPERS: slices of one-cell elements as lists of values.
-/
import Derived.WalkKit
import Derived.WalkSpells
import Derived.WalkLawsBesides
import Derived.Laws.CopyOwn
import Derived.Deep.OwnRows
import Derived.Deep.AppendLies
import Derived.Deep.QuietTactic
import Derived.BigQuiet
namespace Go.Proofs.Qxb6601341a.Kit
open Go Go.RowKit

/-- The slice value v, of one-cell elements, reads as the list xs in w. -/
def Sl (w : World) (v : Value) (xs : List Value) : Prop :=
  ∃ a cap, v = .slice a xs.length cap ∧ xs.length ≤ cap ∧ cap ≤ maxLen ∧ (a = none → xs = [] ∧ cap = 0) ∧
    ∀ x, a = some x → ∀ i u, xs[i]? = some u → w.cell? (x.add i) = some u

theorem hide {p : Prop} (h : p) : Hid p := h
theorem ret_bool {a b : Bool} (h : a = b) : Ending.returned (.bool a) = .returned (.bool b) := by rw [h]
theorem ret_int {k : IntKind} {a b : Int} (h : a = b) : Ending.returned (.int k a) = .returned (.int k b) := by rw [h]

theorem Sl.drewN {w : World} {v : Value} {xs : List Value} (h : Sl w v xs) (n : Nat) : Sl (w.drewN n) v xs := h

theorem Sl.nil (w : World) : Sl w (.slice none 0 0) [] := ⟨none, 0, rfl, by simp, by simp [maxLen], fun _ => ⟨rfl, rfl⟩, fun x h => by cases h⟩

theorem Sl.below {w w' : World} {v : Value} {xs : List Value} (h : Sl w v xs) (hb : Below w.heap.size w w') : Sl w' v xs := by
  obtain ⟨a, cap, rfl, h1, h2, h3, h4⟩ := h
  refine ⟨a, cap, rfl, h1, h2, h3, fun x hx i u hu => ?_⟩
  have := h4 x hx i u hu
  have hlt := World.block_lt_of_cell? w _ this
  exact (hb.cell hlt).trans this

theorem Sl.of_owns {w : World} {base : Nat} {e : TypeId} {v : Value} {n : Nat} {xs : List Value} (h : w.ownsRow base e 1 v n xs) : Sl w v xs := by
  have h0 := h
  obtain ⟨hl, h⟩ := h
  simp only [Nat.mul_one] at hl
  subst hl
  rcases h with ⟨rfl, hn⟩ | ⟨g, cap, cur, rfl, hg, hh, hnc, hcm, hcs, ht⟩
  · obtain rfl := List.eq_nil_of_length_eq_zero hn
    exact Sl.nil w
  · refine ⟨some ⟨g, 0, none⟩, cap, rfl, hnc, hcm, (fun h => by cases h), fun x hx i u hu => ?_⟩
    cases hx
    exact h0.cells rfl i u hu

/-- What is owned stays owned in every world that keeps all blocks. -/
theorem owns_below {w w' : World} {base : Nat} {e : TypeId} {size : Nat} {v : Value} {n : Nat} {xs : List Value} (h : w.ownsRow base e size v n xs) (hb : Below w.heap.size w w') : w'.ownsRow base e size v n xs := by
  refine ⟨h.1, ?_⟩
  rcases h.2 with h2 | ⟨g, cap, cur, hv, hg, hh, r⟩
  · exact .inl h2
  · exact .inr ⟨g, cap, cur, hv, hg, (hb.block g (lt_of_block hh)).trans hh, r⟩

/-- .. below a bound. -/
theorem owns_belowB {w w' : World} {base B : Nat} {e : TypeId} {size : Nat} {v : Value} {n : Nat} {xs : List Value} (h : w.ownsRow base e size v n xs) (hb : Below B w w') (hB : ∀ k, v.ownBlock = some k → k < B) : w'.ownsRow base e size v n xs := by
  refine ⟨h.1, ?_⟩
  rcases h.2 with h2 | ⟨g, cap, cur, hv, hg, hh, r⟩
  · exact .inl h2
  · exact .inr ⟨g, cap, cur, hv, hg, (hb.block g (hB g (by rw [hv]; rfl))).trans hh, r⟩

theorem owns_base {w : World} {base base' : Nat} {e : TypeId} {size : Nat} {v : Value} {n : Nat} {xs : List Value} (h : w.ownsRow base e size v n xs) (hb : base' ≤ base) : w.ownsRow base' e size v n xs := by
  refine ⟨h.1, ?_⟩
  rcases h.2 with h2 | ⟨g, cap, cur, hv, hg, r⟩
  · exact .inl h2
  · exact .inr ⟨g, cap, cur, hv, by omega, r⟩

theorem setRow_alloc (w : World) (cur cs : Array Value) (e : TypeId) : (w.alloc (.cells cur e)).setRow w.heap.size cs = w.alloc (.cells cs e) := by
  show ({ (w.alloc (.cells cur e)) with heap := _ } : World) = _
  simp only [World.alloc]
  congr 1
  apply Array.ext_getElem?
  intro i
  simp only [Array.getElem?_modify, Array.getElem?_push]
  by_cases h : i = w.heap.size
  · subst h; simp
  · rw [if_neg (fun e => h e.symm), if_neg h, if_neg h]

theorem owns_made (w : World) (xs : List Value) (e : TypeId) (hm : xs.length ≤ maxLen) : (w.alloc (.cells xs.toArray e)).ownsRow w.heap.size e 1 (.slice (some ⟨w.heap.size, 0, none⟩) xs.length xs.length) xs.length xs :=
  ⟨by simp, .inr ⟨_, _, xs.toArray, rfl, Nat.le_refl _, heap_alloc_new w _, Nat.le_refl _, hm, by simp, by simp⟩⟩

theorem below_drewN {B : Nat} {a w : World} (h : Below B a w) (n : Nat) : Below B a (w.drewN n) := ⟨h.os, h.tape, h.output, h.size, h.block⟩

/-- A slice of numbers: empty, or at an address, its cells by index. -/
theorem Sl.ints {w : World} {v : Value} {k : IntKind} {zs : List Int} (h : Sl w v (zs.map (Value.int k))) :
    (zs = [] ∧ ∃ a cap, v = .slice a 0 cap) ∨
    ∃ b off cap, v = .slice (some ⟨b, off, none⟩) zs.length cap ∧ zs.length ≤ cap ∧ cap ≤ maxLen ∧ ∀ j, j < zs.length → w.cell? ⟨b, off + j, none⟩ = some (.int k (zs.getD j 0)) := by
  obtain ⟨a, cap, rfl, h1, h2, h3, h4⟩ := h
  simp only [List.length_map] at h1
  by_cases hz : zs = []
  · subst hz
    exact .inl ⟨rfl, a, cap, rfl⟩
  · right
    cases a with
    | none => exact absurd (h3 rfl).1 (by simpa using hz)
    | some x =>
      obtain ⟨b, off, spot⟩ := x
      have hpos : 0 < zs.length := List.length_pos_iff.2 hz
      have h0 := h4 _ rfl 0 _ (by rw [List.getElem?_eq_getElem (by simpa using hpos)])
      have hsp := World.cell?_spot h0
      simp only [Addr.add] at hsp
      subst hsp
      refine ⟨b, off, cap, by simp, h1, h2, fun j hj => ?_⟩
      have := h4 _ rfl j (.int k (zs.getD j 0)) (by simp [List.getD, hj])
      rwa [Addr.add_lit] at this

/-- 'y := make([]T, len(x)); copy(y, x)': the copy, as one step. -/
theorem wpList_copy_clone {P : Program} {w : World} {ops : Array Oper} {rest : List Oper} {o : Oper} {a : Act} {Q : Exit → Act → World → Prop} (hgd : o.guard = none) (d s : Operand) (dT sT : TypeId)
    (ho : o.op = .call { callee := .builtin .copy, args := #[d, s], argTypes := #[dT, sT] }) (elem : TypeId) (hu : P.underlying dT = some (.slice elem)) (hsz : (P.info? elem).map (·.size) = some 1)
    (n : Nat) (x : Addr) (cap : Nat) (xs : List Value) (cur : Array Value) (hd : a.eval d = .slice (some ⟨w.heap.size, 0, none⟩) n n) (hs : a.eval s = .slice (some x) n cap)
    (hn : n = xs.length) (hcur : cur.size = n) (hc : ∀ i u, xs[i]? = some u → w.cell? (x.add i) = some u) (h1 : ∀ u ∈ xs, u.oneCell' = true)
    (h : wpList P ops Q rest (a.put o.dst (.int .i64 n)) (w.alloc (.cells xs.toArray elem))) : wpList P ops Q (o :: rest) a (w.alloc (.cells cur elem)) := by
  refine wpList_copy_own hgd d s dT sT ho elem hu hsz w.heap.size 0 n n x n cap hd hs cur elem (heap_alloc_new w _) xs (by simp [hn]) ?_ (by omega) h1 ?_
  · intro i u hi
    have := hc i u hi
    exact (((Below.refl w.heap.size w).alloc (Nat.le_refl _) _).cell (World.block_lt_of_cell? w _ this)).trans this
  · have e : (List.take 0 cur.toList ++ (xs ++ List.drop (0 + xs.length) cur.toList)).toArray = xs.toArray := by
      have : List.drop (0 + xs.length) cur.toList = [] := List.drop_eq_nil_of_le (by simp; omega)
      rw [this]; simp
    rw [e, setRow_alloc, ← hn]
    exact h

end Go.Proofs.Qxb6601341a.Kit
