/- gjson.Escape: a backslash ahead of every byte that a path's component can't bear bare. -/
import Derived.Test.YtoejpgjanoideaaGreatDoorMk
import Derived.Test.YtoejpgjanoideaaGreatDoorF80
import Derived.Lib.BufferWrite
set_option linter.unusedSimpArgs false
namespace Go.Proofs.YtoejpgjanoideaaGreatDoor.F
open Go.RowKit Go.Proofs.YtoejpgjanoideaaGreatDoorW.PrintWords Go.Proofs.YtoejpgjanoideaaGreatDoorW.PrintLast Go.Proofs.YtoejpgjanoideaaGreatDoorW.PrintMore

theorem gjson_Escape.bt_nat (s : ByteArray) (i : Nat) : ∀ h : i < s.size, ((s[i]'h).toNat : Int) = bt s (i : Int) := fun h => by simp [bt, h]
/-- Behind the first byte that is escaped. -/
def gjson_Escape.esc (a0 : ByteArray) : Nat → Nat → List Int → Option ByteArray
  | 0, _, _ => none
  | k + 1, i, out =>
    if i < a0.size then (gjson_isSafePathKeyChar.f (bt a0 i)).bind fun b =>
      if b = true then gjson_Escape.esc a0 k (i + 1) (out ++ [bt a0 i]) else gjson_Escape.esc a0 k (i + 1) (out ++ [92] ++ [bt a0 i])
    else some (strOfNums out)
def gjson_Escape.scan (a0 : ByteArray) : Nat → Nat → Option ByteArray
  | 0, _ => none
  | k + 1, i =>
    if i < a0.size then (gjson_isSafePathKeyChar.f (bt a0 i)).bind fun b =>
      if b = true then gjson_Escape.scan a0 k (i + 1) else gjson_Escape.esc a0 k i (bytesOf (a0.extract 0 i))
    else some a0
def gjson_Escape.f (k : Nat) (a0 : ByteArray) : Option ByteArray := if a0.size ≤ 35184372088832 then gjson_Escape.scan a0 k 0 else none
theorem gjson_Escape.mono_esc (a0 : ByteArray) : ∀ k y0 y1, LeO (gjson_Escape.esc a0 k y0 y1) (gjson_Escape.esc a0 (k + 1) y0 y1)
  | 0 => fun _ _ r h => by simp [gjson_Escape.esc] at h
  | k + 1 => by
    have ih0 := gjson_Escape.mono_esc a0 k
    intro y0 y1
    unfold gjson_Escape.esc
    repeat' first
    | (with_reducible exact ih0 _ _)
    | (with_reducible exact LeO.refl _)
    | (with_reducible refine LeO.ite ?_ ?_)
    | (with_reducible refine LeO.bind ?_ (fun _ => ?_))
theorem gjson_Escape.mono_scan (a0 : ByteArray) : ∀ k y0, LeO (gjson_Escape.scan a0 k y0) (gjson_Escape.scan a0 (k + 1) y0)
  | 0 => fun _ r h => by simp [gjson_Escape.scan] at h
  | k + 1 => by
    have ih0 := gjson_Escape.mono_scan a0 k
    intro y0
    unfold gjson_Escape.scan
    repeat' first
    | (with_reducible exact ih0 _)
    | (with_reducible exact gjson_Escape.mono_esc a0 _ _ _)
    | (with_reducible exact LeO.refl _)
    | (with_reducible refine LeO.ite ?_ ?_)
    | (with_reducible refine LeO.bind ?_ (fun _ => ?_))
theorem gjson_Escape.mono : ∀ a0 k, LeO (gjson_Escape.f k a0) (gjson_Escape.f (k + 1) a0) := by
  intro a0 k
  unfold gjson_Escape.f
  exact LeO.ite (gjson_Escape.mono_scan a0 k 0) (LeO.refl _)

theorem made_row {w3 : World} {b : Nat} {v3 : Value} {L : List Value} {n m : Nat} (hmn : m = n + 1) (h : w3.ownsRow b 5 1 v3 m L) :
    ∃ (g cap : Nat) (cur : Array Value), v3 = .slice (some ⟨g, 0, none⟩) (n + 1) cap ∧ b ≤ g ∧ w3.heap[g]? = some (.cells cur 5 (0, 0)) ∧ n + 1 ≤ cap ∧ cap ≤ maxLen ∧ cur.size = cap := by
  subst hmn
  obtain ⟨h1, ⟨_, h0⟩ | ⟨g, cap, cur, rfl, hb, hh, hn, hm, hs, ht⟩⟩ := h
  · omega
  · exact ⟨g, cap, cur, rfl, hb, hh, hn, hm, by simpa using hs⟩
theorem copy_run (w3 : World) (a0 : ByteArray) (i g cap : Nat) (cur : Array Value) (hi : i ≤ a0.size) (hh : w3.heap[g]? = some (.cells cur 5 (0, 0))) (hn : a0.size + 1 ≤ cap) (hcs : cur.size = cap) :
    (Builtin.copy_ #[84, 9] 3 #[.slice (some ⟨g, 0, none⟩) (a0.size + 1) cap, .string (a0.extract 0 i)]).run Tryz.prog w3 =
      .ok (goInt i) (w3.setRow g (Lib.byteCells (a0.extract 0 i).data.toList ++ cur.toList.drop i).toArray) := by
  have hex : (a0.extract 0 i).size = i := by rw [ByteArray.size_extract]; omega
  have h := Lib.run_copy_row_string (P := Tryz.prog) w3 84 9 3 5 g 0 (a0.size + 1) cap (a0.extract 0 i) cur 5 Tryz.underlying84 (by obtain ⟨i0, hi0, hz⟩ := Option.map_eq_some_iff.1 info5; simp only [Prod.mk.injEq] at hz; rw [hi0]; simp [hz]) hh (by omega) (by omega)
  rw [h, hex]
  simp

theorem setRow_below {w w3 : World} {B g : Nat} {X : Array Value} (h : Below B w w3) (hb : B ≤ g) : Below B w (w3.setRow g X) :=
  ⟨h.os, h.tape, h.output, by rw [setRow_size]; exact h.size, fun k hk => (setRow_other w3 g k X (by omega)).trans (h.block k hk)⟩
theorem OwnB.copied {w3 : World} {B : Nat} (a0 : ByteArray) (i g cap : Nat) (cur : Array Value) (hi : i ≤ a0.size) (hb : B ≤ g) (hh : w3.heap[g]? = some (.cells cur 5 (0, 0))) (hn : a0.size + 1 ≤ cap) (hm : cap ≤ maxLen) (hcs : cur.size = cap) :
    OwnB (w3.setRow g (Lib.byteCells (a0.extract 0 i).data.toList ++ cur.toList.drop i).toArray) B (.slice (some ⟨g, 0, none⟩) i cap) (bytesOf (a0.extract 0 i)) := by
  have hex : (a0.extract 0 i).size = i := by rw [ByteArray.size_extract]; omega
  have hex2 : (a0.extract 0 i).data.toList.length = i := hex
  have hbl : (Lib.byteCells (a0.extract 0 i).data.toList).length = i := by unfold Lib.byteCells; rw [List.length_map, hex2]
  have hbi : (bytesOf (a0.extract 0 i)).length = i := by rw [bytesOf_length, hex]
  refine ⟨g, cap, (Lib.byteCells (a0.extract 0 i).data.toList ++ cur.toList.drop i).toArray, (0, 0), by rw [hbi], hb, ?_, by rw [hbi]; omega, hm, ?_, fun j u hj => ?_, .inl (Nat.le_refl _)⟩
  · exact setRow_heap w3 g cur _ 5 (0, 0) hh
  · simp only [List.size_toArray, List.length_append, hbl, List.length_drop, Array.length_toList]; omega
  · have hlt := (List.getElem?_eq_some_iff.mp hj).1
    rw [nums_length, hbi] at hlt
    rw [List.getElem?_toArray, List.getElem?_append_left (by rw [hbl]; exact hlt), ← hj]
    simp [nums, bytesOf, Lib.byteCells, List.getElem?_map, Function.comp_def]

theorem copy_all {w3 : World} {B : Nat} (a0 : ByteArray) (i g cap : Nat) (cur : Array Value) (hi : i ≤ a0.size) (hb : B ≤ g) (hh : w3.heap[g]? = some (.cells cur 5 (0, 0))) (hn : a0.size + 1 ≤ cap) (hm : cap ≤ maxLen) (hcs : cur.size = cap) :
    ∃ X : Array Value, (Builtin.copy_ #[84, 9] 3 #[.slice (some ⟨g, 0, none⟩) (a0.size + 1) cap, .string (a0.extract 0 i)]).run Tryz.prog w3 = .ok (goInt i) (w3.setRow g X) ∧
      Aside0 (OwnB (w3.setRow g X) B (.slice (some ⟨g, 0, none⟩) i cap) (bytesOf (a0.extract 0 i))) :=
  ⟨_, copy_run w3 a0 i g cap cur hi hh hn hcs, ⟨OwnB.copied a0 i g cap cur hi hb hh hn hm hcs⟩⟩

set_option maxHeartbeats 4000000 in
set_option maxRecDepth 100000 in
theorem gjson_Escape.calls (k : Nat) (a0 : ByteArray) (r : ByteArray) (w : World) (h : gjson_Escape.f k a0 = some r) :
    Calls Tryz.prog 55 #[.string a0] w fun e w' => e = .returned (.string r) ∧ Below w.heap.size w w' := by
  unfold gjson_Escape.f at h
  by_cases hs : a0.size ≤ 35184372088832
  case neg => rw [if_neg hs] at h; exact absurd h (by simp)
  rw [if_pos hs] at h
  have H' := Aside0.mk h
  clear h
  go_enter Tryz.func55, Tryz.ntmps55
  go_wp2_with fail
  (try simp only [Act.put, List.setIfInBounds_toArray, List.set_cons_zero, List.set_cons_succ])
  go_loopg [3] k (fun kq v3 w' => ∃ (i : Nat), v3 = .int .i64 i ∧ Aside0 (i ≤ a0.size) ∧ Aside0 (gjson_Escape.scan a0 kq i = some r) ∧ Aside0 (kq ≤ k) ∧ Aside0 (Below w.heap.size w w'))
  case atStart => exact ⟨0, rfl, ⟨Nat.zero_le _⟩, H', ⟨Nat.le_refl _⟩, ⟨Below.refl _ _⟩⟩
  case round =>
    clear H'
    obtain ⟨i, rfl, HI, HA, HK1, HB⟩ := hrel
    cases gk with
    | zero => exact absurd HA.out (by simp [gjson_Escape.scan])
    | succ k1 =>
      have H := HA.out
      clear HA
      simp only [gjson_Escape.scan] at H
      have hi := HI.out
      by_cases hlt : i < a0.size
      · rw [if_pos hlt] at H
        have hb := gjson_Escape.bt_nat a0 i hlt
        obtain ⟨b, hb0, H⟩ := Option.bind_eq_some_iff.mp H
        have HS := Aside0.mk hb0
        clear hb0
        cases b with
        | true =>
          simp only [if_true] at H
          have H' := Aside0.mk H
          clear H
          go_wp2_with (go_at_call 80; refine (gjson_isSafePathKeyChar.calls _ true _ HS.out).mono ?_; rintro e w2 ⟨rfl, hd⟩; have HB2 := Aside0.mk (HB.out.trans (hd.below.mono HB.out.size)); clear hd)
          go_roundg k1
          case measure => have := HK1.out; omega
          case rel => exact ⟨i + 1, by go_num, ⟨by omega⟩, H', ⟨by have := HK1.out; omega⟩, HB2⟩
        | false =>
          simp only [Bool.false_eq_true, if_false] at H
          have H' := Aside0.mk H
          have hmin : min i a0.size = i := Nat.min_eq_left hi
          have hexs : (a0.extract 0 i).size = i := by simp [ByteArray.size_extract]; omega
          have hsz0 : (0 : Int) ≤ (a0.size : Int) + 1 := by omega
          have hln : (List.replicate ((a0.size : Int) + 1).toNat (0 : Int)).length = a0.size + 1 := by rw [List.length_replicate]; omega
          clear H
          have hsz1 : ((a0.size : Int) + 1).toNat * 1 ≤ 281474976710656 := by omega
          go_wp2_with (go_at_call 80; refine (gjson_isSafePathKeyChar.calls _ false _ HS.out).mono ?_; rintro e w2 ⟨rfl, hd⟩; have HB2 := Aside0.mk (HB.out.trans (hd.below.mono HB.out.size)); clear hd; go_wp2_with ((with_reducible refine gate_dst (N := 19) rfl ?_); refine Kd.R_make (Kd.int .u8) (w0 := w) w.heap.size 5 rfl (N := 19) rfl 84 _ _ rfl ((a0.size : Int) + 1) rfl rfl Tryz.underlying84 (.int .u8 0) 1 info5 rfl (by decide) (by decide) 0 (ok := fun _ => True) (okp := fun _ => True) rfl (fun _ hk => hk) trivial hsz0 hsz1 HB2.out HB2.out.size ?_; intro v3 w3 hR3 hB3 hg3 hnew3; have HR3 := Aside0.mk hR3; have HB3 := Aside0.mk hB3; clear hR3 hB3 hg3 hnew3; obtain ⟨inner, hown⟩ := Kd.R_own HR3.out; have HOW := Aside0.mk hown; clear hown; obtain ⟨g, cap, cur, rfl, hbg, hh, hn, hm, hcs⟩ := made_row hln HOW.out; obtain ⟨X, hcp, HO0⟩ := copy_all a0 i g cap cur hi hbg hh hn hm hcs; clear HOW HR3))
          have HB0 := Aside0.mk (setRow_below HB3.out hbg (X := X))
          have HLx := Aside0.mk (show (bytesOf (a0.extract 0 i)).length = i by rw [bytesOf_length, hexs])
          (try simp only [Act.put, List.setIfInBounds_toArray, List.set_cons_zero, List.set_cons_succ])
          go_loopg [3, 4] k1 (fun kq v3 v4 w' => ∃ (j : Nat) (ep : List Int), v3 = .int .i64 j ∧ Aside0 (ep.length ≤ 2 * j ∧ j ≤ a0.size) ∧ Aside0 (gjson_Escape.esc a0 kq j ep = some r) ∧ Aside0 (kq ≤ k1) ∧ Aside0 (OwnB w' w.heap.size v4 ep) ∧ Aside0 (Below w.heap.size w w'))
          case atStart => exact ⟨i, _, rfl, ⟨by rw [HLx.out]; omega, hi⟩, H', ⟨Nat.le_refl _⟩, HO0, HB0⟩
          case round =>
            clear H' HO0 HB0 HLx HB2 HB3 hbg hh hn hm hcs hcp hln hsz0 hsz1 hexs hmin HS hb hlt hi HB HI
            obtain ⟨j, ep, rfl, HI, HA, HK2, HO, HB⟩ := hrel
            cases gk with
            | zero => exact absurd HA.out (by simp [gjson_Escape.esc])
            | succ k2 =>
              have H := HA.out
              clear HA
              simp only [gjson_Escape.esc] at H
              have hj := HI.out.2
              have hst := OwnB.str HO.out
              by_cases hlt : j < a0.size
              · rw [if_pos hlt] at H
                have hb := gjson_Escape.bt_nat a0 j hlt
                obtain ⟨b, hb0, H⟩ := Option.bind_eq_some_iff.mp H
                have HS := Aside0.mk hb0
                clear hb0
                cases b with
                | true =>
                  simp only [if_true] at H
                  have H' := Aside0.mk H
                  clear H
                  go_wp2_with (go_at_call 80; refine (gjson_isSafePathKeyChar.calls _ true _ HS.out).mono ?_; rintro e w2 ⟨rfl, hd⟩; have HO2 := Aside0.mk (OwnB.move HO.out (fun q hq hq2 => hd.below.block q hq2)); have HB2 := Aside0.mk (HB.out.trans (hd.below.mono HB.out.size)); clear hd; go_wp2_with (at_builtin; refine OwnB.append rfl (.tmp 42) (.tmp 46) rfl (OwnB.alloc HO2.out _) rfl ⟨w2.heap.size, 0, none⟩ 1 1 (bt a0 j) rfl rfl (by have h_ := blk_cell (blk_new w2 (.cells #[.int .u8 (bt a0 j)] 5)) 0; exact h_) (by have := HI.out.1; omega) ?_; intro v1 w1 hO1 hB1; have HO1 := Aside0.mk hO1; have HB1 := Aside0.mk ((below_alloc HB2.out _).trans hB1); clear hO1 hB1))
                  go_roundg k2
                  case measure => have := HK2.out; omega
                  case rel => exact ⟨j + 1, _, by go_num, ⟨by rw [List.length_append]; simp; have := HI.out.1; omega, by omega⟩, H', ⟨by have := HK2.out; omega⟩, HO1, HB1⟩
                | false =>
                  simp only [Bool.false_eq_true, if_false] at H
                  have H' := Aside0.mk H
                  clear H
                  go_wp2_with (go_at_call 80; refine (gjson_isSafePathKeyChar.calls _ false _ HS.out).mono ?_; rintro e w2 ⟨rfl, hd⟩; have HO2 := Aside0.mk (OwnB.move HO.out (fun q hq hq2 => hd.below.block q hq2)); have HB2 := Aside0.mk (HB.out.trans (hd.below.mono HB.out.size)); clear hd; go_wp2_with (at_builtin; refine OwnB.append rfl (.tmp 39) (.tmp 40) rfl (OwnB.alloc HO2.out _) rfl ⟨w2.heap.size, 0, none⟩ 1 1 (92) rfl rfl (by have h_ := blk_cell (blk_new w2 (.cells #[.int .u8 (92)] 5)) 0; exact h_) (by have := HI.out.1; omega) ?_; intro v4 w4 hO hB; have HO4 := Aside0.mk hO; have HB4 := Aside0.mk ((below_alloc HB2.out _).trans hB); clear hO hB; go_wp2_with (at_builtin; refine OwnB.append rfl (.tmp 42) (.tmp 46) rfl (OwnB.alloc HO4.out _) rfl ⟨w4.heap.size, 0, none⟩ 1 1 (bt a0 j) rfl rfl (by have h_ := blk_cell (blk_new w4 (.cells #[.int .u8 (bt a0 j)] 5)) 0; exact h_) (by rw [List.length_append]; simp; have := HI.out.1; omega) ?_; intro v5 w5 hO hB; have HO5 := Aside0.mk hO; have HB5 := Aside0.mk ((below_alloc HB4.out _).trans hB); clear hO hB)))
                  go_roundg k2
                  case measure => have := HK2.out; omega
                  case rel => exact ⟨j + 1, _, by go_num, ⟨by simp only [List.length_append]; simp; have := HI.out.1; omega, by omega⟩, H', ⟨by have := HK2.out; omega⟩, HO5, HB5⟩
              · rw [if_neg hlt] at H
                obtain rfl := Option.some.inj H
                have hlt2 : decide (j < a0.size) = false := by simp; omega
                clear hlt
                go_wp2
                go_ret
                exact ⟨rfl, HB.out⟩
      · rw [if_neg hlt] at H
        obtain rfl := Option.some.inj H
        have hlt' : decide (i < a0.size) = false := by simp; omega
        clear hlt
        go_wp2
        go_ret
        exact ⟨rfl, HB.out⟩
end Go.Proofs.YtoejpgjanoideaaGreatDoor.F
