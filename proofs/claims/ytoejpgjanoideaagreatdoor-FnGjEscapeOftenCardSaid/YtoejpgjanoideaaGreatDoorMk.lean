/- A row of bytes of the call's own that may bear a conversion's mark behind its capacity: made by a conversion of a string, or by append. -/
import Derived.Test.YtoejpgjanoideaaGreatDoorFK
namespace Go.Proofs.YtoejpgjanoideaaGreatDoor.F
open Go.RowKit Go.Proofs.YtoejpgjanoideaaGreatDoorW.PrintWords Go.Proofs.YtoejpgjanoideaaGreatDoorW.PrintLast Go.Proofs.YtoejpgjanoideaaGreatDoorW.PrintMore

/-- The row v of bytes xs, in a block from base on; the block's frozen part, if any, lies behind the capacity. -/
def OwnB (w : World) (base : Nat) (v : Value) (xs : List Int) : Prop :=
  ∃ (g cap : Nat) (cur : Array Value) (mk : Nat × Nat), v = .slice (some ⟨g, 0, none⟩) xs.length cap ∧ base ≤ g ∧ w.heap[g]? = some (.cells cur 5 mk) ∧ xs.length ≤ cap ∧ cap ≤ maxLen ∧ cur.size = cap ∧
    (∀ (j : Nat) (u : Value), (nums .u8 xs)[j]? = some u → cur[j]? = some u) ∧ (mk.2 ≤ mk.1 ∨ cap ≤ mk.1)

theorem OwnB.move {w w1 : World} {base : Nat} {v : Value} {xs : List Int} (h : OwnB w base v xs) (hm : ∀ k, base ≤ k → k < w.heap.size → w1.heap[k]? = w.heap[k]?) : OwnB w1 base v xs := by
  obtain ⟨g, cap, cur, mk, rfl, hb, hh, r⟩ := h
  exact ⟨g, cap, cur, mk, rfl, hb, (hm g hb (blk_lt hh)).trans hh, r⟩
theorem OwnB.below {w w1 : World} {base : Nat} {v : Value} {xs : List Int} (h : OwnB w base v xs) (hb : Below w.heap.size w w1) : OwnB w1 base v xs := h.move (fun k _ hk => hb.block k hk)
theorem OwnB.alloc {w : World} {base : Nat} {v : Value} {xs : List Int} (h : OwnB w base v xs) (o : Obj) : OwnB (w.alloc o) base v xs := h.below (below_alloc (Below.refl _ _) o)
theorem OwnB.far {w : World} {base : Nat} {v : Value} {xs : List Int} (h : OwnB w base v xs) {p : Addr} (hp : p.block < base) (u : Value) : OwnB (w.setCell p u) base v xs :=
  h.move (fun k hk _ => Below.heap_setCell w p u k (by omega))
theorem OwnB.slice {w : World} {base : Nat} {v : Value} {xs : List Int} (h : OwnB w base v xs) : ∃ g cap, v = .slice (some ⟨g, 0, none⟩) xs.length cap ∧ xs.length ≤ cap ∧ cap ≤ maxLen ∧ ∀ j, j < xs.length → w.cell? ⟨g, j, none⟩ = some (.int .u8 (xs.getD j 0)) := by
  obtain ⟨g, cap, cur, mk, rfl, hb, hh, hl, hm, hs, hc, hk⟩ := h
  refine ⟨g, cap, rfl, hl, hm, fun j hj => ?_⟩
  rw [cell_of_row w g j cur 5 mk hh]
  refine hc j _ ?_
  simp [nums, List.getElem?_map, List.getD, List.getElem?_eq_getElem hj]
theorem OwnB.ofOwn {w : World} {base : Nat} {v : Value} {xs : List Int} (hne : xs ≠ []) (h : w.ownsRow base 5 1 v xs.length (nums .u8 xs)) : OwnB w base v xs := by
  obtain ⟨h1, h2⟩ := h
  rcases h2 with ⟨_, h0⟩ | ⟨g, cap, cur, rfl, hb, hh, hn, hm, hs, ht⟩
  · exact absurd (List.length_eq_zero_iff.mp h0) hne
  · refine ⟨g, cap, cur, (0, 0), rfl, hb, hh, hn, hm, by simpa using hs, fun j u hj => ?_, .inl (Nat.le_refl _)⟩
    rw [← ht] at hj
    rw [List.getElem?_take] at hj
    split at hj
    · rwa [← Array.getElem?_toList]
    · exact absurd hj (by simp)

/-- A conversion of a string's row. -/
theorem OwnB.conv (w : World) (base : Nat) (hb : base ≤ w.heap.size) (s : ByteArray) (hs : s.size ≤ maxLen) : OwnB (Lib.bytesWorld w 5 s) base (.slice (some ⟨w.heap.size, 0, none⟩) s.size (grownCap w s.size 0 5)) (bytesOf s) := by
  have hge := grownCap_ge w s.size 0 5
  have hsz : (Lib.bytesCells w 5 s).size = grownCap w s.size 0 5 := by
    have h1 : s.data.size = s.size := rfl
    simp only [Lib.bytesCells, Array.size_append, Array.size_map, Array.size_replicate, h1]
    omega
  refine ⟨w.heap.size, grownCap w s.size 0 5, _, _, by rw [bytesOf_length], hb, Lib.bytesWorld_at_new w 5 s, by rw [bytesOf_length]; exact hge, grownCap_le_maxLen w s.size 0 5 hs, hsz, fun j u hj => ?_, .inr (by rw [hsz]; exact Nat.le_refl _)⟩
  have hlt : j < s.size := by
    have := (List.getElem?_eq_some_iff.mp hj).1
    rwa [nums_length, bytesOf_length] at this
  have hlt' : j < s.data.size := hlt
  unfold Lib.bytesCells
  rw [Array.getElem?_append_left (by simpa using hlt')]
  rw [← hj]
  simp [nums, bytesOf, List.getElem?_map, Function.comp_def]

theorem OwnB.str {w : World} {base : Nat} {v : Value} {xs : List Int} (h : OwnB w base v xs) : (convert 84 9 v).run Tryz.prog w = .ok (.string (strOfNums xs)) w := by
  obtain ⟨g, cap, rfl, _, _, hc⟩ := h.slice
  exact run_convert_bytes_arg (P := Tryz.prog) w 84 5 Tryz.underlying84 Tryz.underlying5 g 0 xs.length cap xs rfl (fun j hj => by rw [Nat.zero_add]; exact hc j hj) 9 Tryz.underlying9
theorem bytesWorld_below (w : World) (s : ByteArray) (B : Nat) (hB : B ≤ w.heap.size) : Below B w (Lib.bytesWorld w 5 s) :=
  ⟨rfl, rfl, rfl, by rw [Lib.bytesWorld_size]; omega, fun k hk => Lib.bytesWorld_at_old w 5 s k (by omega)⟩

/-- One byte more. -/
theorem OwnB.append {w : World} {base : Nat} {v : Value} {xs : List Int} {ops : Array Oper} {rest : List Oper} {o : Oper} {a : Act} {Q : Exit → Act → World → Prop}
    (hg : o.guard = none) (s x : Operand) (hop : o.op = Op.call { callee := Callee.builtin Builtin.append, args := #[s, x], argTypes := #[84, 84] })
    (h : OwnB w base v xs) (hs : a.eval s = v) (ad : Addr) (m c : Nat) (y : Int) (hm : m = 1) (hx : a.eval x = .slice (some ad) m c) (hc : w.cell? ad = some (.int .u8 y))
    (hL : xs.length < 140737488355328)
    (K : ∀ v' w', OwnB w' base v' (xs ++ [y]) → Below base w w' → wpList Tryz.prog ops Q rest (a.put o.dst v') w') : wpList Tryz.prog ops Q (o :: rest) a w := by
  subst hm
  obtain ⟨g, cap, cur, mk, rfl, hb, hh, hl, hmx, hsz, hcur, hmk⟩ := h
  obtain ⟨i0, hi, hzz⟩ := Option.map_eq_some_iff.1 info5
  simp only [Prod.mk.injEq] at hzz
  obtain ⟨hz0, hz1, hz2⟩ := hzz
  have hcell : ∀ j u, (nums .u8 xs)[j]? = some u → w.cell? ⟨g, 0 + j, none⟩ = some u := fun j u hj => by
    rw [Nat.zero_add, cell_of_row w g j cur 5 mk hh]; exact hcur j u hj
  have hgl : g < w.heap.size := blk_lt hh
  refine wpList_append_arg w hg s x 84 hop 5 i0 (.int .u8 0) 1 1 Tryz.underlying84 hi hz0 hz1 hz2 rfl (by decide) g 0 xs.length cap (nums .u8 xs) hs (by rw [nums_length]; omega) hcell ad 1 c [.int .u8 y] hx rfl (fun j u hj => ?_) (fun u hu => ?_) (fun hroom j hj => ?_) ?_ ?_ (fun hroom => ?_) (fun _ v' w' ho hgr => ?_)
  · cases j with
    | zero => simp at hj; subst hj; simpa [Addr.add] using hc
    | succ j => simp at hj
  · simp at hu; subst hu; rfl
  · have hj0 : j = 0 := by simpa using hj
    subst hj0
    refine ⟨?_, ?_⟩
    · rw [cell_of_row w g _ cur 5 mk hh, Array.getElem?_eq_getElem (by omega)]; rfl
    · simp only [World.frozen?, hh]
      obtain ⟨lo, hi⟩ := mk
      simp only [Bool.and_eq_false_imp, decide_eq_true_eq, decide_eq_false_iff_not]
      intro h1
      simp only at hmk
      omega
  · unfold maxLen; omega
  · omega
  · have hset : (w.setCells g (0 + xs.length * 1) [.int .u8 y]) = w.setCell ⟨g, xs.length, none⟩ (.int .u8 y) := by simp [World.setCells]
    rw [hset]
    have hh' : (w.setCell ⟨g, xs.length, none⟩ (.int .u8 y)).heap[g]? = some (.cells (cur.setIfInBounds xs.length (.int .u8 y)) 5 mk) := by
      simp [World.setCell, Array.getElem?_modify, hh]
    refine K _ _ ⟨g, cap, _, mk, by rw [List.length_append]; rfl, hb, hh', by rw [List.length_append]; simpa using hroom, hmx, by simpa using hsz, fun j u hj => ?_, hmk⟩ ((Below.refl base w).setCell hb _)
    rw [nums_append] at hj
    by_cases hlt : j < xs.length
    · rw [List.getElem?_append_left (by rwa [nums_length])] at hj
      rw [Array.getElem?_setIfInBounds_ne (by omega)]
      exact hcur j u hj
    · have hjl := (List.getElem?_eq_some_iff.mp hj).1
      rw [List.length_append, nums_length] at hjl
      have hj1 : j = xs.length := by simp [nums] at hjl; omega
      subst hj1
      rw [List.getElem?_append_right (by rw [nums_length]; omega), nums_length] at hj
      simp [nums] at hj
      subst hj
      rw [Array.getElem?_setIfInBounds_self_of_lt (by omega)]
  · have hne : xs ++ [y] ≠ [] := by simp
    refine K v' w' (OwnB.ofOwn hne ?_) ?_
    · have ho' := own_weaken ho (show base ≤ w.heap.size by omega)
      rw [List.length_append, nums_append]
      exact ho'
    · exact (Below.refl base w).grown hgr (by omega) (by intro k hk; cases hk)
end Go.Proofs.YtoejpgjanoideaaGreatDoor.F
