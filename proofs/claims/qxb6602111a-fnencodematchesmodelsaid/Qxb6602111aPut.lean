/-
  WALKS: encode's closure 'put', and b1AppendDigits.
-/
import Derived.Test.Qxb6602111aEncSmall
namespace Go.Proofs.Qxb6602111a
open Go.RowKit Kit

/-- 'append' where there is room, the row known whole. -/
theorem wpList_append_room {P : Program} {w : World} {ops : Array Oper} {rest : List Oper} {o : Oper} {a : Act} {Q : Exit → Act → World → Prop} (hgd : o.guard = none) (s x : Operand) (t : TypeId)
    (ho : o.op = .call { callee := .builtin .append, args := #[s, x], argTypes := #[t, t] }) (e : TypeId) (i : TypeInfo) (ht : P.underlying t = some (.slice e)) (hi : P.info? e = some i) (hsz : i.size = 1)
    (g k cap : Nat) (cur : Array Value) (hs : a.eval s = .slice (some ⟨g, 0, none⟩) k cap) (hg : w.heap[g]? = some (.cells cur e (0, 0))) (ad : Addr) (u : Value) (hx : a.eval x = .slice (some ad) 1 1)
    (hu : w.cell? ad = some u) (h1 : u.oneCell' = true) (hroom : k + 1 ≤ cap) (hfit : k + 1 ≤ cur.size)
    (h : ∀ w', Hid (w' = w.setRow g (cur.setIfInBounds k u)) → wpList P ops Q rest (a.put o.dst (.slice (some ⟨g, 0, none⟩) (k + 1) cap)) w') : wpList P ops Q (o :: rest) a w := by
  refine wpList_plain hgd fun K hK => ?_
  have hrun := run_append_room (P := P) w t o.type e i ht hi g k cap cur hg ad 1 1 [u] (by simp [hsz]) (fun j v hj => by
    cases j with
    | zero => simp at hj; subst hj; simpa [Addr.add] using hu
    | succ j => simp at hj) (by simpa using h1) hroom (by simp [hsz]; omega)
  have e1 : (cur.toList.take (k * i.size) ++ [u] ++ cur.toList.drop (k * i.size + [u].length)).toArray = cur.setIfInBounds k u := by
    apply Array.ext'
    simp only [hsz, Nat.mul_one, List.length_singleton, Array.toList_setIfInBounds]
    rw [List.set_eq_take_append_cons_drop, if_pos (by simp; omega)]
    simp
  rw [e1] at hrun
  unfold Oper.wp
  simp [execOp, ho, resolve, invoke, builtin, hs, hx, hrun, Result.andThen]
  exact hK _ _ (h _ rfl)

/-- What 'put' keeps: the variable 'out' at block Bo is the first |o| bytes of the row at block G; the row holds o and then what it held. -/
structure Put (w : World) (Bo G N : Nat) (D o : List Int) : Prop where
  var : w.heap[Bo]? = some (.cells #[.slice (some ⟨G, 0, none⟩) o.length N] 22 (0, 0))
  row : w.heap[G]? = some (.cells ((o ++ D.drop o.length).map (Value.int .u8)).toArray 5 (0, 0))
  le : o.length ≤ N
  len : D.length = N

theorem Put.alloc {w : World} {Bo G N : Nat} {D o : List Int} (h : Put w Bo G N D o) (x : Obj) : Put (w.alloc x) Bo G N D o :=
  ⟨(Below.heap_alloc w x Bo (lt_of_block h.var)).trans h.var, (Below.heap_alloc w x G (lt_of_block h.row)).trans h.row, h.le, h.len⟩

theorem Put.ne {w : World} {Bo G N : Nat} {D o : List Int} (h : Put w Bo G N D o) : Bo ≠ G := by
  intro e
  have := h.var
  rw [e, h.row] at this
  simp at this

theorem put_row (D o : List Int) (c : Int) (h : o.length < D.length) : ((o ++ D.drop o.length).map (Value.int .u8)).toArray.setIfInBounds o.length (.int .u8 c) = (((o ++ [c]) ++ D.drop (o ++ [c]).length).map (Value.int .u8)).toArray := by
  apply Array.ext'
  simp only [Array.toList_setIfInBounds]
  rw [List.set_eq_take_append_cons_drop, if_pos (by simp; omega)]
  rw [List.map_append, List.map_append, List.map_append, List.drop_append, List.take_append]
  rw [List.take_of_length_le (by simp)]
  simp [List.drop_eq_nil_of_le, List.drop_drop]

theorem Put.step {w : World} {Bo G N : Nat} {D o : List Int} (h : Put w Bo G N D o) (c : Int) (hlt : o.length < N) (B : Nat) (hB1 : B ≤ Bo) (hB2 : B ≤ G) {w0 : World} (hb : Below B w0 w) :
    Put ((w.setRow G (((o ++ D.drop o.length).map (Value.int .u8)).toArray.setIfInBounds o.length (.int .u8 c))).setCell ⟨Bo, 0, none⟩ (.slice (some ⟨G, 0, none⟩) (o.length + 1) N)) Bo G N D (o ++ [c]) ∧
    Below B w0 ((w.setRow G (((o ++ D.drop o.length).map (Value.int .u8)).toArray.setIfInBounds o.length (.int .u8 c))).setCell ⟨Bo, 0, none⟩ (.slice (some ⟨G, 0, none⟩) (o.length + 1) N)) := by
  have hne := h.ne
  have hv : (w.setRow G (((o ++ D.drop o.length).map (Value.int .u8)).toArray.setIfInBounds o.length (.int .u8 c))).heap[Bo]? = some (.cells #[.slice (some ⟨G, 0, none⟩) o.length N] 22 (0, 0)) := (setRow_other w G Bo _ hne).trans h.var
  refine ⟨⟨?_, ?_, by simp; omega, h.len⟩, (below_setRow hb hB2 _).setCell hB1 _⟩
  · rw [one_setCell hv]; simp
  · rw [Below.heap_setCell _ _ _ _ (by simpa using hne.symm), setRow_heap w G _ _ 5 _ h.row, put_row D o c (by rw [h.len]; exact hlt)]

theorem put_no (Bo G N : Nat) (D o : List Int) (c : Int) (w : World) (h : Put w Bo G N D o) (hfull : o.length = N) :
    Calls Try.prog 37 #[.int .u8 c, .pointer (some ⟨Bo, 0, none⟩)] w fun e w' => e = .returned (.bool false) ∧ w = w' := by
  have cv := cell_of_one h.var
  rw [hfull] at cv
  clear hfull h
  go_enter Try.func37, Try.ntmps37
  go_wp2
  go_ret
  exact ⟨rfl, rfl⟩

theorem put_yes (Bo G N : Nat) (D o : List Int) (c : Int) (w : World) (h : Put w Bo G N D o) (hlt : o.length < N) (B : Nat) (hB1 : B ≤ Bo) (hB2 : B ≤ G) :
    Calls Try.prog 37 #[.int .u8 c, .pointer (some ⟨Bo, 0, none⟩)] w fun e w' => e = .returned (.bool true) ∧ Put w' Bo G N D (o ++ [c]) ∧ Below B w w' := by
  have cv := cell_of_one h.var
  have fv := free_of_one h.var
  have hlb := lt_of_block h.var
  obtain ⟨i5, hi5, hz0, hz1, hz2⟩ := info_parts Try.info5
  have hP := h.alloc (.cells #[.int .u8 c] 5)
  have hBs : B ≤ w.heap.size := by omega
  have R := hP.step c hlt B hB1 hB2 ((Below.refl B w).alloc hBs _)
  have cv' := cell_of_one ((setRow_other (w.alloc (.cells #[.int .u8 c] 5)) G Bo (((o ++ D.drop o.length).map (Value.int .u8)).toArray.setIfInBounds o.length (.int .u8 c)) hP.ne).trans hP.var)
  have fv' := free_of_one ((setRow_other (w.alloc (.cells #[.int .u8 c] 5)) G Bo (((o ++ D.drop o.length).map (Value.int .u8)).toArray.setIfInBounds o.length (.int .u8 c)) hP.ne).trans hP.var)
  have hrow := hP.row
  have hlen := h.len
  have hcs : ((o ++ D.drop o.length).map (Value.int .u8)).toArray.size = N := by simp; omega
  generalize ((o ++ D.drop o.length).map (Value.int .u8)).toArray = cur at *
  obtain ⟨k, hk⟩ : ∃ k, k = o.length := ⟨_, rfl⟩
  rw [← hk] at R cv cv' fv' hlt
  have HR := hide R
  have HROW := hide hrow
  have HCS := hide hcs
  have HCV := hide cv'
  have HFV := hide fv'
  clear R hrow hk hP h hlen hcs cv' fv'
  go_enter Try.func37, Try.ntmps37
  go_wp2_with (at_builtin; refine wpList_append_room rfl _ _ 22 rfl 5 i5 Try.underlying22 hi5 hz1 G k N cur rfl HROW.out ⟨w.heap.size, 0, none⟩ (.int .u8 c) rfl (cell_of_one (heap_alloc_new w _)) rfl (by omega) (by rw [HCS.out]; omega) ?_; intro w3 hw3; have c3 := HCV.out; have f3 := HFV.out; rw [← hw3.out] at c3 f3)
  go_ret
  refine ⟨rfl, ?_⟩
  have := HR.out
  rw [← hw3.out] at this
  exact this

end Go.Proofs.Qxb6602111a
