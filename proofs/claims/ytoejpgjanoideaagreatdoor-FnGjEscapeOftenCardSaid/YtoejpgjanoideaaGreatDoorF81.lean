/- gjson.parseObjectPath: the first component of a path, as a function of the path's bytes. -/
import Derived.Test.YtoejpgjanoideaaGreatDoorMk
import Derived.Test.YtoejpgjanoideaaGreatDoorF116
set_option linter.unusedSimpArgs false
namespace Go.Proofs.YtoejpgjanoideaaGreatDoor.F
open Go.RowKit Go.Proofs.YtoejpgjanoideaaGreatDoorW.PrintWords Go.Proofs.YtoejpgjanoideaaGreatDoorW.PrintLast Go.Proofs.YtoejpgjanoideaaGreatDoorW.PrintMore

abbrev OPath : Type := ByteArray × ByteArray × ByteArray × Bool × Bool × Bool

/-- At a dot: what is behind it. -/
def gjson_parseObjectPath.dot (a0 part : ByteArray) (i : Nat) (wild : Bool) : Option OPath :=
  if i + 1 < a0.size then (gjson_isDotPiperChar.f (a0.extract (i + 1) a0.size)).bind fun b =>
    if b = true then some (part, ⟨#[]⟩, a0.extract (i + 1) a0.size, true, wild, false) else some (part, a0.extract (i + 1) a0.size, ⟨#[]⟩, false, wild, true)
  else some (part, a0.extract (i + 1) a0.size, ⟨#[]⟩, false, wild, true)
/-- Behind the first backslash. -/
def gjson_parseObjectPath.esc (a0 : ByteArray) : Nat → List Int → Nat → Bool → Option OPath
  | 0, _, _, _ => none
  | k + 1, ep, i, wild =>
    if i < a0.size then
      if bt a0 i = 92 then
        if i + 1 < a0.size then gjson_parseObjectPath.esc a0 k (ep ++ [bt a0 ((i + 1 : Nat) : Int)]) (i + 2) wild else gjson_parseObjectPath.esc a0 k ep (i + 2) wild
      else if bt a0 i = 46 then gjson_parseObjectPath.dot a0 (strOfNums ep) i wild
      else if bt a0 i = 124 then some (strOfNums ep, ⟨#[]⟩, a0.extract (i + 1) a0.size, true, wild, false)
      else if bt a0 i = 42 then gjson_parseObjectPath.esc a0 k (ep ++ [bt a0 i]) (i + 1) true
      else if bt a0 i = 63 then gjson_parseObjectPath.esc a0 k (ep ++ [bt a0 i]) (i + 1) true
      else gjson_parseObjectPath.esc a0 k (ep ++ [bt a0 i]) (i + 1) wild
    else some (strOfNums ep, ⟨#[]⟩, ⟨#[]⟩, false, wild, false)
/-- Till the first backslash. -/
def gjson_parseObjectPath.scan (a0 : ByteArray) : Nat → Nat → Bool → Option OPath
  | 0, _, _ => none
  | k + 1, i, wild =>
    if i < a0.size then
      if bt a0 i = 124 then some (a0.extract 0 i, ⟨#[]⟩, a0.extract (i + 1) a0.size, true, wild, false)
      else if bt a0 i = 46 then gjson_parseObjectPath.dot a0 (a0.extract 0 i) i wild
      else if bt a0 i = 42 then gjson_parseObjectPath.scan a0 k (i + 1) true
      else if bt a0 i = 63 then gjson_parseObjectPath.scan a0 k (i + 1) true
      else if bt a0 i = 92 then
        if i + 1 < a0.size then gjson_parseObjectPath.esc a0 k (bytesOf (a0.extract 0 i) ++ [bt a0 ((i + 1 : Nat) : Int)]) (i + 2) wild
        else some (strOfNums (bytesOf (a0.extract 0 i)), ⟨#[]⟩, ⟨#[]⟩, false, wild, false)
      else gjson_parseObjectPath.scan a0 k (i + 1) wild
    else some (a0, ⟨#[]⟩, ⟨#[]⟩, false, wild, false)
def gjson_parseObjectPath.f (k : Nat) (a0 : ByteArray) : Option OPath :=
  if a0.size ≤ 70368744177664 then gjson_parseObjectPath.scan a0 k 0 false else none

theorem gjson_parseObjectPath.mono_esc (a0 : ByteArray) : ∀ k y0 y1 y2, LeO (gjson_parseObjectPath.esc a0 k y0 y1 y2) (gjson_parseObjectPath.esc a0 (k + 1) y0 y1 y2)
  | 0 => fun _ _ _ r h => by simp [gjson_parseObjectPath.esc] at h
  | k + 1 => by
    have ih0 := gjson_parseObjectPath.mono_esc a0 k
    intro y0 y1 y2
    unfold gjson_parseObjectPath.esc
    repeat' first
    | (with_reducible exact ih0 _ _ _)
    | (with_reducible exact LeO.refl _)
    | (with_reducible refine LeO.ite ?_ ?_)
theorem gjson_parseObjectPath.mono_scan (a0 : ByteArray) : ∀ k y0 y1, LeO (gjson_parseObjectPath.scan a0 k y0 y1) (gjson_parseObjectPath.scan a0 (k + 1) y0 y1)
  | 0 => fun _ _ r h => by simp [gjson_parseObjectPath.scan] at h
  | k + 1 => by
    have ih0 := gjson_parseObjectPath.mono_scan a0 k
    intro y0 y1
    unfold gjson_parseObjectPath.scan
    repeat' first
    | (with_reducible exact ih0 _ _)
    | (with_reducible exact gjson_parseObjectPath.mono_esc a0 _ _ _ _)
    | (with_reducible exact LeO.refl _)
    | (with_reducible refine LeO.ite ?_ ?_)
theorem gjson_parseObjectPath.mono : ∀ a0 k, LeO (gjson_parseObjectPath.f k a0) (gjson_parseObjectPath.f (k + 1) a0) := by
  intro a0 k
  unfold gjson_parseObjectPath.f
  exact LeO.ite (gjson_parseObjectPath.mono_scan a0 k 0 false) (LeO.refl _)

theorem bt_nat (s : ByteArray) (i : Nat) : ∀ h : i < s.size, ((s[i]'h).toNat : Int) = bt s (i : Int) := fun h => by simp [bt, h]

set_option maxHeartbeats 4000000 in
set_option maxRecDepth 100000 in
theorem gjson_parseObjectPath.calls (k : Nat) (a0 : ByteArray) (r1 r2 r3 : ByteArray) (r4 r5 r6 : Bool) (w : World) (h : gjson_parseObjectPath.f k a0 = some (r1, r2, r3, r4, r5, r6)) :
    Calls Tryz.prog 81 #[.string a0] w fun e w' => e = .returned (.agg #[.string r1, .string r2, .string r3, .bool r4, .bool r5, .bool r6]) ∧ Below w.heap.size w w' := by
  unfold gjson_parseObjectPath.f at h
  by_cases hs : a0.size ≤ 70368744177664
  case neg => rw [if_neg hs] at h; exact absurd h (by simp)
  rw [if_pos hs] at h
  have H' := Aside0.mk h
  clear h
  have hu121 := Tryz.underlying121
  go_enter Tryz.func81, Tryz.ntmps81
  go_wp2_with fail
  (try simp only [Act.put, List.setIfInBounds_toArray, List.set_cons_zero, List.set_cons_succ])
  go_loopg [3] k (fun kq v3 w' => ∃ (i : Nat) (wild : Bool), v3 = .int .i64 i ∧ Aside0 (i ≤ a0.size) ∧ Aside0 (gjson_parseObjectPath.scan a0 kq i wild = some (r1, r2, r3, r4, r5, r6)) ∧ Aside0 (kq ≤ k) ∧ Aside0 (w'.heap[w.heap.size]? = some (.cells #[.string ⟨#[]⟩, .string ⟨#[]⟩, .string ⟨#[]⟩, .bool false, .bool wild, .bool false] 121 (0, 0))) ∧ Aside0 (Below w.heap.size w w'))
  case atStart => exact ⟨0, false, rfl, ⟨Nat.zero_le _⟩, H', ⟨Nat.le_refl _⟩, ⟨blk_new w _⟩, ⟨below_alloc (Below.refl _ _) _⟩⟩
  case round =>
    clear H'
    obtain ⟨i, wild, rfl, HI, HA, HK1, HR, HB⟩ := hrel
    cases gk with
    | zero => exact absurd HA.out (by simp [gjson_parseObjectPath.scan])
    | succ k1 =>
      have H := HA.out
      clear HA
      simp only [gjson_parseObjectPath.scan] at H
      have hc0 : wr.cell? ⟨w.heap.size, 0, none⟩ = some (.string ⟨#[]⟩) := blk_cell HR.out 0
      have hf0 := blk_frozen HR.out 0
      have hc1 : wr.cell? ⟨w.heap.size, 1, none⟩ = some (.string ⟨#[]⟩) := blk_cell HR.out 1
      have hf1 := blk_frozen HR.out 1
      have hc2 : wr.cell? ⟨w.heap.size, 2, none⟩ = some (.string ⟨#[]⟩) := blk_cell HR.out 2
      have hf2 := blk_frozen HR.out 2
      have hc3 : wr.cell? ⟨w.heap.size, 3, none⟩ = some (.bool false) := blk_cell HR.out 3
      have hf3 := blk_frozen HR.out 3
      have hc4 : wr.cell? ⟨w.heap.size, 4, none⟩ = some (.bool wild) := blk_cell HR.out 4
      have hf4 := blk_frozen HR.out 4
      have hc5 : wr.cell? ⟨w.heap.size, 5, none⟩ = some (.bool false) := blk_cell HR.out 5
      have hf5 := blk_frozen HR.out 5
      have hi := HI.out
      by_cases hlt : i < a0.size
      · rw [if_pos hlt] at H
        have hb := bt_nat a0 i hlt
        by_cases c1 : bt a0 i = 124
        · rw [if_pos c1] at H
          have c1' : (bt a0 i == 124) = true := by simpa using c1
          clear c1
          simp only [Option.some.injEq, Prod.mk.injEq] at H
          obtain ⟨rfl, rfl, rfl, rfl, rfl, rfl⟩ := H
          go_wp2
          refine bodyPost_ret (results_cell_row rfl _ _ w.heap.size 121 #[.string (a0.extract 0 i), .string ⟨#[]⟩, .string (a0.extract (i + 1) a0.size), .bool true, .bool wild, .bool false] (0, 0) _ rfl ?_ Tryz.underlying121 rfl (by kernel_rfl)) rfl ?_
          · (with_reducible repeat (first | refine blk_alloc ?_ _ | refine blk_drew ?_))
            refine blk_put (cs := #[.string (a0.extract 0 i), .string ⟨#[]⟩, .string (a0.extract (i + 1) a0.size), .bool false, .bool wild, .bool false]) ?_ 3 _ rfl
            refine blk_put (cs := #[.string (a0.extract 0 i), .string ⟨#[]⟩, .string ⟨#[]⟩, .bool false, .bool wild, .bool false]) ?_ 2 _ rfl
            refine blk_put (cs := #[.string ⟨#[]⟩, .string ⟨#[]⟩, .string ⟨#[]⟩, .bool false, .bool wild, .bool false]) ?_ 0 _ rfl
            exact HR.out
          · exact ⟨rfl, by repeat (first | (with_reducible exact HB.out) | (with_reducible refine below_alloc ?_ _) | (with_reducible refine below_drew1 ?_) | (with_reducible refine below_set ?_ (Nat.le_refl _)))⟩
        · rw [if_neg c1] at H
          have c1' : (bt a0 i == 124) = false := by simpa using c1
          clear c1
          by_cases c2 : bt a0 i = 46
          · rw [if_pos c2] at H
            have c2' : (bt a0 i == 46) = true := by simpa using c2
            clear c2
            unfold gjson_parseObjectPath.dot at H
            by_cases hl1 : i + 1 < a0.size
            · rw [if_pos hl1] at H
              have hl1' : decide ((i : Int) < (a0.size : Int) - 1) = true := by simp; omega
              obtain ⟨b, hb0, H⟩ := Option.bind_eq_some_iff.mp H
              have HD := Aside0.mk hb0
              clear hb0 hl1
              cases b with
              | true =>
                simp only [if_true, if_false, Bool.false_eq_true] at H
                simp only [Option.some.injEq, Prod.mk.injEq] at H
                obtain ⟨rfl, rfl, rfl, rfl, rfl, rfl⟩ := H
                skip
                go_wp2_with (go_at_call 116; refine (gjson_isDotPiperChar.same _ true _ HD.out).mono ?_; rintro e w2 ⟨rfl, rfl⟩)
                refine bodyPost_ret (results_cell_row rfl _ _ w.heap.size 121 #[.string (a0.extract 0 i), .string ⟨#[]⟩, .string (a0.extract (i + 1) a0.size), .bool true, .bool wild, .bool false] (0, 0) _ rfl ?_ Tryz.underlying121 rfl (by kernel_rfl)) rfl ?_
                · (with_reducible repeat (first | refine blk_alloc ?_ _ | refine blk_drew ?_))
                  refine blk_put (cs := #[.string (a0.extract 0 i), .string ⟨#[]⟩, .string (a0.extract (i + 1) a0.size), .bool false, .bool wild, .bool false]) ?_ 3 _ rfl
                  refine blk_put (cs := #[.string (a0.extract 0 i), .string ⟨#[]⟩, .string ⟨#[]⟩, .bool false, .bool wild, .bool false]) ?_ 2 _ rfl
                  refine blk_put (cs := #[.string ⟨#[]⟩, .string ⟨#[]⟩, .string ⟨#[]⟩, .bool false, .bool wild, .bool false]) ?_ 0 _ rfl
                  exact HR.out
                · exact ⟨rfl, by repeat (first | (with_reducible exact HB.out) | (with_reducible refine below_alloc ?_ _) | (with_reducible refine below_drew1 ?_) | (with_reducible refine below_set ?_ (Nat.le_refl _)))⟩
              | false =>
                simp only [if_true, if_false, Bool.false_eq_true] at H
                simp only [Option.some.injEq, Prod.mk.injEq] at H
                obtain ⟨rfl, rfl, rfl, rfl, rfl, rfl⟩ := H
                skip
                go_wp2_with (go_at_call 116; refine (gjson_isDotPiperChar.same _ false _ HD.out).mono ?_; rintro e w2 ⟨rfl, rfl⟩)
                refine bodyPost_ret (results_cell_row rfl _ _ w.heap.size 121 #[.string (a0.extract 0 i), .string (a0.extract (i + 1) a0.size), .string ⟨#[]⟩, .bool false, .bool wild, .bool true] (0, 0) _ rfl ?_ Tryz.underlying121 rfl (by kernel_rfl)) rfl ?_
                · (with_reducible repeat (first | refine blk_alloc ?_ _ | refine blk_drew ?_))
                  refine blk_put (cs := #[.string (a0.extract 0 i), .string (a0.extract (i + 1) a0.size), .string ⟨#[]⟩, .bool false, .bool wild, .bool false]) ?_ 5 _ rfl
                  refine blk_put (cs := #[.string (a0.extract 0 i), .string ⟨#[]⟩, .string ⟨#[]⟩, .bool false, .bool wild, .bool false]) ?_ 1 _ rfl
                  refine blk_put (cs := #[.string ⟨#[]⟩, .string ⟨#[]⟩, .string ⟨#[]⟩, .bool false, .bool wild, .bool false]) ?_ 0 _ rfl
                  exact HR.out
                · exact ⟨rfl, by repeat (first | (with_reducible exact HB.out) | (with_reducible refine below_alloc ?_ _) | (with_reducible refine below_drew1 ?_) | (with_reducible refine below_set ?_ (Nat.le_refl _)))⟩
            · rw [if_neg hl1] at H
              have hl1' : decide ((i : Int) < (a0.size : Int) - 1) = false := by simp; omega
              clear hl1
              simp only [Option.some.injEq, Prod.mk.injEq] at H
              obtain ⟨rfl, rfl, rfl, rfl, rfl, rfl⟩ := H
              skip
              go_wp2
              refine bodyPost_ret (results_cell_row rfl _ _ w.heap.size 121 #[.string (a0.extract 0 i), .string (a0.extract (i + 1) a0.size), .string ⟨#[]⟩, .bool false, .bool wild, .bool true] (0, 0) _ rfl ?_ Tryz.underlying121 rfl (by kernel_rfl)) rfl ?_
              · (with_reducible repeat (first | refine blk_alloc ?_ _ | refine blk_drew ?_))
                refine blk_put (cs := #[.string (a0.extract 0 i), .string (a0.extract (i + 1) a0.size), .string ⟨#[]⟩, .bool false, .bool wild, .bool false]) ?_ 5 _ rfl
                refine blk_put (cs := #[.string (a0.extract 0 i), .string ⟨#[]⟩, .string ⟨#[]⟩, .bool false, .bool wild, .bool false]) ?_ 1 _ rfl
                refine blk_put (cs := #[.string ⟨#[]⟩, .string ⟨#[]⟩, .string ⟨#[]⟩, .bool false, .bool wild, .bool false]) ?_ 0 _ rfl
                exact HR.out
              · exact ⟨rfl, by repeat (first | (with_reducible exact HB.out) | (with_reducible refine below_alloc ?_ _) | (with_reducible refine below_drew1 ?_) | (with_reducible refine below_set ?_ (Nat.le_refl _)))⟩
          · rw [if_neg c2] at H
            have c2' : (bt a0 i == 46) = false := by simpa using c2
            clear c2
            by_cases c3 : bt a0 i = 42
            · rw [if_pos c3] at H
              have c3' : (bt a0 i == 42) = true := by simpa using c3
              clear c3
              have H' := Aside0.mk H
              clear H
              go_wp2
              go_roundg k1
              case measure => have := HK1.out; omega
              case rel => exact ⟨i + 1, true, by first | rfl | go_num | (simp; done), ⟨by omega⟩, H', ⟨by have := HK1.out; omega⟩, ⟨blk_put HR.out 4 _ rfl⟩, ⟨by repeat (first | (with_reducible exact HB.out) | (with_reducible refine below_set ?_ (Nat.le_refl _)))⟩⟩
            · rw [if_neg c3] at H
              have c3' : (bt a0 i == 42) = false := by simpa using c3
              clear c3
              by_cases c4 : bt a0 i = 63
              · rw [if_pos c4] at H
                have c4' : (bt a0 i == 63) = true := by simpa using c4
                clear c4
                have H' := Aside0.mk H
                clear H
                go_wp2
                go_roundg k1
                case measure => have := HK1.out; omega
                case rel => exact ⟨i + 1, true, by first | rfl | go_num | (simp; done), ⟨by omega⟩, H', ⟨by have := HK1.out; omega⟩, ⟨blk_put HR.out 4 _ rfl⟩, ⟨by repeat (first | (with_reducible exact HB.out) | (with_reducible refine below_set ?_ (Nat.le_refl _)))⟩⟩
              · rw [if_neg c4] at H
                have c4' : (bt a0 i == 63) = false := by simpa using c4
                clear c4
                by_cases c5 : bt a0 i = 92
                · rw [if_pos c5] at H
                  have c5' : (bt a0 i == 92) = true := by simpa using c5
                  clear c5
                  have hcv := fun (W : World) (s : ByteArray) => Lib.run_convert_string_bytes (P := Tryz.prog) W 9 84 5 s Tryz.underlying9 Tryz.underlying84 Tryz.underlying5
                  have hmin : min i a0.size = i := Nat.min_eq_left hi
                  have hexs : (a0.extract 0 i).size = i := by simp [ByteArray.size_extract]; omega
                  have HO0 := Aside0.mk (OwnB.conv wr (w.heap.size + 1) (by have := blk_lt HR.out; omega) (a0.extract 0 i) (by rw [hexs]; unfold maxLen; omega))
                  rw [hexs] at HO0
                  have HLx := Aside0.mk (show (bytesOf (a0.extract 0 i)).length = i by rw [bytesOf_length, hexs])
                  have hrz := blk_lt HR.out
                  have HRc := Aside0.mk ((Lib.bytesWorld_at_old wr 5 (a0.extract 0 i) w.heap.size hrz).trans HR.out)
                  have HBc := Aside0.mk (HB.out.trans (bytesWorld_below wr (a0.extract 0 i) w.heap.size (Nat.le_of_lt hrz)))
                  have hbz : w.heap.size < (Lib.bytesWorld wr 5 (a0.extract 0 i)).heap.size := by rw [Lib.bytesWorld_size]; omega
                  clear hexs hrz
                  have hc0 : (Lib.bytesWorld wr 5 (a0.extract 0 i)).cell? ⟨w.heap.size, 0, none⟩ = some (.string ⟨#[]⟩) := blk_cell HRc.out 0
                  have hf0 := blk_frozen HRc.out 0
                  have hc1 : (Lib.bytesWorld wr 5 (a0.extract 0 i)).cell? ⟨w.heap.size, 1, none⟩ = some (.string ⟨#[]⟩) := blk_cell HRc.out 1
                  have hf1 := blk_frozen HRc.out 1
                  have hc2 : (Lib.bytesWorld wr 5 (a0.extract 0 i)).cell? ⟨w.heap.size, 2, none⟩ = some (.string ⟨#[]⟩) := blk_cell HRc.out 2
                  have hf2 := blk_frozen HRc.out 2
                  have hc3 : (Lib.bytesWorld wr 5 (a0.extract 0 i)).cell? ⟨w.heap.size, 3, none⟩ = some (.bool false) := blk_cell HRc.out 3
                  have hf3 := blk_frozen HRc.out 3
                  have hc4 : (Lib.bytesWorld wr 5 (a0.extract 0 i)).cell? ⟨w.heap.size, 4, none⟩ = some (.bool wild) := blk_cell HRc.out 4
                  have hf4 := blk_frozen HRc.out 4
                  have hc5 : (Lib.bytesWorld wr 5 (a0.extract 0 i)).cell? ⟨w.heap.size, 5, none⟩ = some (.bool false) := blk_cell HRc.out 5
                  have hf5 := blk_frozen HRc.out 5
                  by_cases hl1 : i + 1 < a0.size
                  · rw [if_pos hl1] at H
                    have hb1 := bt_nat a0 (i + 1) hl1
                    rw [show ((i + 1 : Nat) : Int) = (i : Int) + 1 from by omega] at H
                    have hl1' : decide ((i : Int) + 1 < (a0.size : Int)) = true := by simp; omega
                    have H' := Aside0.mk H
                    clear H
                    go_wp2_with (at_builtin; refine OwnB.append rfl (.tmp 82) (.tmp 86) rfl (OwnB.alloc HO0.out _) rfl ⟨(Lib.bytesWorld wr 5 (a0.extract 0 i)).heap.size, 0, none⟩ 1 1 (bt a0 ((i : Int) + 1)) rfl rfl (by simp [World.cell?_alloc_new]) (by rw [HLx.out]; omega) ?_; intro v1 w1 hO1 hB1; have HR1 := Aside0.mk ((hB1.block w.heap.size (by omega)).trans ((Below.heap_alloc _ _ _ hbz).trans HRc.out)); have HO1 := Aside0.mk hO1; have HB1 := Aside0.mk ((below_alloc HBc.out _).trans (hB1.mono (by omega))); clear hO1 hB1)
                    (try simp only [Act.put, List.setIfInBounds_toArray, List.set_cons_zero, List.set_cons_succ])
                    go_loopg [3, 4] k1 (fun kq v3 v4 w' => ∃ (j : Nat) (ep : List Int) (wild1 : Bool), v3 = .int .i64 j ∧ Aside0 (ep.length ≤ j ∧ j ≤ a0.size + 1) ∧ Aside0 (gjson_parseObjectPath.esc a0 kq ep j wild1 = some (r1, r2, r3, r4, r5, r6)) ∧ Aside0 (kq ≤ k1) ∧ Aside0 (OwnB w' (w.heap.size + 1) v4 ep) ∧ Aside0 (w'.heap[w.heap.size]? = some (.cells #[.string ⟨#[]⟩, .string ⟨#[]⟩, .string ⟨#[]⟩, .bool false, .bool wild1, .bool false] 121 (0, 0))) ∧ Aside0 (Below w.heap.size w w'))
                    case atStart => exact ⟨i + 2, _, wild, by go_num, ⟨by rw [List.length_append, HLx.out]; simp, by omega⟩, H', ⟨Nat.le_refl _⟩, HO1, HR1, HB1⟩
                    case round =>
                      clear H' hb hb1 hl1 hl1' hlt hmin hbz hc0 hc1 hc2 hc3 hc4 hc5 hf0 hf1 hf2 hf3 hf4 hf5 HR1 HO1 HB1 HRc HBc HO0 HR HB HLx hi HI c1' c2' c3' c4' c5' hcv
                      obtain ⟨j, ep, wild1, rfl, HI, HA, HK2, HO, HR, HB⟩ := hrel
                      cases gk with
                      | zero => exact absurd HA.out (by simp [gjson_parseObjectPath.esc])
                      | succ k2 =>
                        have H := HA.out
                        clear HA
                        simp only [gjson_parseObjectPath.esc] at H
                        have hc0 : wr.cell? ⟨w.heap.size, 0, none⟩ = some (.string ⟨#[]⟩) := blk_cell HR.out 0
                        have hf0 := blk_frozen HR.out 0
                        have hc1 : wr.cell? ⟨w.heap.size, 1, none⟩ = some (.string ⟨#[]⟩) := blk_cell HR.out 1
                        have hf1 := blk_frozen HR.out 1
                        have hc2 : wr.cell? ⟨w.heap.size, 2, none⟩ = some (.string ⟨#[]⟩) := blk_cell HR.out 2
                        have hf2 := blk_frozen HR.out 2
                        have hc3 : wr.cell? ⟨w.heap.size, 3, none⟩ = some (.bool false) := blk_cell HR.out 3
                        have hf3 := blk_frozen HR.out 3
                        have hc4 : wr.cell? ⟨w.heap.size, 4, none⟩ = some (.bool wild1) := blk_cell HR.out 4
                        have hf4 := blk_frozen HR.out 4
                        have hc5 : wr.cell? ⟨w.heap.size, 5, none⟩ = some (.bool false) := blk_cell HR.out 5
                        have hf5 := blk_frozen HR.out 5
                        have hj := HI.out.2
                        have hst := OwnB.str HO.out
                        have hrz := blk_lt HR.out
                        by_cases hlt : j < a0.size
                        · rw [if_pos hlt] at H
                          have hb := bt_nat a0 j hlt
                          by_cases c1 : bt a0 j = 92
                          · rw [if_pos c1] at H
                            have c1' : (bt a0 j == 92) = true := by simpa using c1
                            clear c1
                            by_cases hl1 : j + 1 < a0.size
                            · rw [if_pos hl1] at H
                              have hb1 := bt_nat a0 (j + 1) hl1
                              rw [show ((j + 1 : Nat) : Int) = (j : Int) + 1 from by omega] at H
                              have hl1' : decide ((j : Int) + 1 < (a0.size : Int)) = true := by simp; omega
                              have H' := Aside0.mk H
                              clear H
                              go_wp2_with (at_builtin; refine OwnB.append rfl (.tmp 106) (.tmp 110) rfl (OwnB.alloc HO.out _) rfl ⟨wr.heap.size, 0, none⟩ 1 1 (bt a0 ((j : Int) + 1)) rfl rfl (by have h_ := blk_cell (blk_new wr (.cells #[.int .u8 (bt a0 ((j : Int) + 1))] 5)) 0; (try rw [World.size_setCell] at h_); exact h_) (by have := HI.out.1; omega) ?_; intro v1 w1 hO1 hB1; have HR1 := Aside0.mk ((hB1.block w.heap.size (by omega)).trans ((Below.heap_alloc _ _ _ (by simpa using hrz)).trans (HR.out))); have HO1 := Aside0.mk hO1; have HB1 := Aside0.mk ((show Below w.heap.size w _ by repeat (first | (with_reducible exact HB.out) | (with_reducible refine below_alloc ?_ _) | (with_reducible refine below_set ?_ (Nat.le_refl _)))).trans (hB1.mono (by omega))); clear hO1 hB1)
                              go_roundg k2
                              case measure => have := HK2.out; omega
                              case rel => exact ⟨j + 2, _, wild1, by go_num, ⟨by rw [List.length_append]; simp; have := HI.out.1; omega, by omega⟩, H', ⟨by have := HK2.out; omega⟩, HO1, HR1, HB1⟩
                            · rw [if_neg hl1] at H
                              have hl1' : decide ((j : Int) + 1 < (a0.size : Int)) = false := by simp; omega
                              have H' := Aside0.mk H
                              clear H
                              go_wp2
                              go_roundg k2
                              case measure => have := HK2.out; omega
                              case rel => exact ⟨j + 2, ep, wild1, by go_num, ⟨by have := HI.out.1; omega, by omega⟩, H', ⟨by have := HK2.out; omega⟩, HO, HR, HB⟩
                          · rw [if_neg c1] at H
                            have c1' : (bt a0 j == 92) = false := by simpa using c1
                            clear c1
                            by_cases c2 : bt a0 j = 46
                            · rw [if_pos c2] at H
                              have c2' : (bt a0 j == 46) = true := by simpa using c2
                              clear c2
                              unfold gjson_parseObjectPath.dot at H
                              by_cases hl1 : j + 1 < a0.size
                              · rw [if_pos hl1] at H
                                have hl1' : decide ((j : Int) < (a0.size : Int) - 1) = true := by simp; omega
                                obtain ⟨b, hb0, H⟩ := Option.bind_eq_some_iff.mp H
                                have HD := Aside0.mk hb0
                                clear hb0 hl1
                                cases b with
                                | true =>
                                  simp only [if_true, if_false, Bool.false_eq_true] at H
                                  simp only [Option.some.injEq, Prod.mk.injEq] at H
                                  obtain ⟨rfl, rfl, rfl, rfl, rfl, rfl⟩ := H
                                  skip
                                  go_wp2_with (go_at_call 116; refine (gjson_isDotPiperChar.same _ true _ HD.out).mono ?_; rintro e w2 ⟨rfl, rfl⟩)
                                  refine bodyPost_ret (results_cell_row rfl _ _ w.heap.size 121 #[.string (strOfNums ep), .string ⟨#[]⟩, .string (a0.extract (j + 1) a0.size), .bool true, .bool wild1, .bool false] (0, 0) _ rfl ?_ Tryz.underlying121 rfl (by kernel_rfl)) rfl ?_
                                  · (with_reducible repeat (first | refine blk_alloc ?_ _ | refine blk_drew ?_))
                                    refine blk_put (cs := #[.string (strOfNums ep), .string ⟨#[]⟩, .string (a0.extract (j + 1) a0.size), .bool false, .bool wild1, .bool false]) ?_ 3 _ rfl
                                    refine blk_put (cs := #[.string (strOfNums ep), .string ⟨#[]⟩, .string ⟨#[]⟩, .bool false, .bool wild1, .bool false]) ?_ 2 _ rfl
                                    refine blk_put (cs := #[.string ⟨#[]⟩, .string ⟨#[]⟩, .string ⟨#[]⟩, .bool false, .bool wild1, .bool false]) ?_ 0 _ rfl
                                    exact HR.out
                                  · exact ⟨rfl, by repeat (first | (with_reducible exact HB.out) | (with_reducible refine below_alloc ?_ _) | (with_reducible refine below_drew1 ?_) | (with_reducible refine below_set ?_ (Nat.le_refl _)))⟩
                                | false =>
                                  simp only [if_true, if_false, Bool.false_eq_true] at H
                                  simp only [Option.some.injEq, Prod.mk.injEq] at H
                                  obtain ⟨rfl, rfl, rfl, rfl, rfl, rfl⟩ := H
                                  skip
                                  go_wp2_with (go_at_call 116; refine (gjson_isDotPiperChar.same _ false _ HD.out).mono ?_; rintro e w2 ⟨rfl, rfl⟩)
                                  refine bodyPost_ret (results_cell_row rfl _ _ w.heap.size 121 #[.string (strOfNums ep), .string (a0.extract (j + 1) a0.size), .string ⟨#[]⟩, .bool false, .bool wild1, .bool true] (0, 0) _ rfl ?_ Tryz.underlying121 rfl (by kernel_rfl)) rfl ?_
                                  · (with_reducible repeat (first | refine blk_alloc ?_ _ | refine blk_drew ?_))
                                    refine blk_put (cs := #[.string (strOfNums ep), .string (a0.extract (j + 1) a0.size), .string ⟨#[]⟩, .bool false, .bool wild1, .bool false]) ?_ 5 _ rfl
                                    refine blk_put (cs := #[.string (strOfNums ep), .string ⟨#[]⟩, .string ⟨#[]⟩, .bool false, .bool wild1, .bool false]) ?_ 1 _ rfl
                                    refine blk_put (cs := #[.string ⟨#[]⟩, .string ⟨#[]⟩, .string ⟨#[]⟩, .bool false, .bool wild1, .bool false]) ?_ 0 _ rfl
                                    exact HR.out
                                  · exact ⟨rfl, by repeat (first | (with_reducible exact HB.out) | (with_reducible refine below_alloc ?_ _) | (with_reducible refine below_drew1 ?_) | (with_reducible refine below_set ?_ (Nat.le_refl _)))⟩
                              · rw [if_neg hl1] at H
                                have hl1' : decide ((j : Int) < (a0.size : Int) - 1) = false := by simp; omega
                                clear hl1
                                simp only [Option.some.injEq, Prod.mk.injEq] at H
                                obtain ⟨rfl, rfl, rfl, rfl, rfl, rfl⟩ := H
                                skip
                                go_wp2
                                refine bodyPost_ret (results_cell_row rfl _ _ w.heap.size 121 #[.string (strOfNums ep), .string (a0.extract (j + 1) a0.size), .string ⟨#[]⟩, .bool false, .bool wild1, .bool true] (0, 0) _ rfl ?_ Tryz.underlying121 rfl (by kernel_rfl)) rfl ?_
                                · (with_reducible repeat (first | refine blk_alloc ?_ _ | refine blk_drew ?_))
                                  refine blk_put (cs := #[.string (strOfNums ep), .string (a0.extract (j + 1) a0.size), .string ⟨#[]⟩, .bool false, .bool wild1, .bool false]) ?_ 5 _ rfl
                                  refine blk_put (cs := #[.string (strOfNums ep), .string ⟨#[]⟩, .string ⟨#[]⟩, .bool false, .bool wild1, .bool false]) ?_ 1 _ rfl
                                  refine blk_put (cs := #[.string ⟨#[]⟩, .string ⟨#[]⟩, .string ⟨#[]⟩, .bool false, .bool wild1, .bool false]) ?_ 0 _ rfl
                                  exact HR.out
                                · exact ⟨rfl, by repeat (first | (with_reducible exact HB.out) | (with_reducible refine below_alloc ?_ _) | (with_reducible refine below_drew1 ?_) | (with_reducible refine below_set ?_ (Nat.le_refl _)))⟩
                            · rw [if_neg c2] at H
                              have c2' : (bt a0 j == 46) = false := by simpa using c2
                              clear c2
                              by_cases c3 : bt a0 j = 124
                              · rw [if_pos c3] at H
                                have c3' : (bt a0 j == 124) = true := by simpa using c3
                                clear c3
                                simp only [Option.some.injEq, Prod.mk.injEq] at H
                                obtain ⟨rfl, rfl, rfl, rfl, rfl, rfl⟩ := H
                                go_wp2
                                refine bodyPost_ret (results_cell_row rfl _ _ w.heap.size 121 #[.string (strOfNums ep), .string ⟨#[]⟩, .string (a0.extract (j + 1) a0.size), .bool true, .bool wild1, .bool false] (0, 0) _ rfl ?_ Tryz.underlying121 rfl (by kernel_rfl)) rfl ?_
                                · (with_reducible repeat (first | refine blk_alloc ?_ _ | refine blk_drew ?_))
                                  refine blk_put (cs := #[.string (strOfNums ep), .string ⟨#[]⟩, .string (a0.extract (j + 1) a0.size), .bool false, .bool wild1, .bool false]) ?_ 3 _ rfl
                                  refine blk_put (cs := #[.string (strOfNums ep), .string ⟨#[]⟩, .string ⟨#[]⟩, .bool false, .bool wild1, .bool false]) ?_ 2 _ rfl
                                  refine blk_put (cs := #[.string ⟨#[]⟩, .string ⟨#[]⟩, .string ⟨#[]⟩, .bool false, .bool wild1, .bool false]) ?_ 0 _ rfl
                                  exact HR.out
                                · exact ⟨rfl, by repeat (first | (with_reducible exact HB.out) | (with_reducible refine below_alloc ?_ _) | (with_reducible refine below_drew1 ?_) | (with_reducible refine below_set ?_ (Nat.le_refl _)))⟩
                              · rw [if_neg c3] at H
                                have c3' : (bt a0 j == 124) = false := by simpa using c3
                                clear c3
                                by_cases c4 : bt a0 j = 42
                                · rw [if_pos c4] at H
                                  have c4' : (bt a0 j == 42) = true := by simpa using c4
                                  clear c4
                                  have H' := Aside0.mk H
                                  clear H
                                  go_wp2_with (at_builtin; refine OwnB.append rfl (.tmp 167) (.tmp 171) rfl (OwnB.alloc (OwnB.far HO.out (p := ⟨w.heap.size, 4, none⟩) (Nat.lt_succ_self _) _) _) rfl ⟨wr.heap.size, 0, none⟩ 1 1 (bt a0 j) rfl rfl (by have h_ := blk_cell (blk_new (wr.setCell ⟨w.heap.size, 4, none⟩ (.bool true)) (.cells #[.int .u8 (bt a0 j)] 5)) 0; (try rw [World.size_setCell] at h_); exact h_) (by have := HI.out.1; omega) ?_; intro v1 w1 hO1 hB1; have HR1 := Aside0.mk ((hB1.block w.heap.size (by omega)).trans ((Below.heap_alloc _ _ _ (by simpa using hrz)).trans (blk_put HR.out 4 _ rfl))); have HO1 := Aside0.mk hO1; have HB1 := Aside0.mk ((show Below w.heap.size w _ by repeat (first | (with_reducible exact HB.out) | (with_reducible refine below_alloc ?_ _) | (with_reducible refine below_set ?_ (Nat.le_refl _)))).trans (hB1.mono (by omega))); clear hO1 hB1)
                                  go_roundg k2
                                  case measure => have := HK2.out; omega
                                  case rel => exact ⟨j + 1, _, true, by go_num, ⟨by rw [List.length_append]; simp; have := HI.out.1; omega, by omega⟩, H', ⟨by have := HK2.out; omega⟩, HO1, HR1, HB1⟩
                                · rw [if_neg c4] at H
                                  have c4' : (bt a0 j == 42) = false := by simpa using c4
                                  clear c4
                                  by_cases c5 : bt a0 j = 63
                                  · rw [if_pos c5] at H
                                    have c5' : (bt a0 j == 63) = true := by simpa using c5
                                    clear c5
                                    have H' := Aside0.mk H
                                    clear H
                                    go_wp2_with (at_builtin; refine OwnB.append rfl (.tmp 167) (.tmp 171) rfl (OwnB.alloc (OwnB.far HO.out (p := ⟨w.heap.size, 4, none⟩) (Nat.lt_succ_self _) _) _) rfl ⟨wr.heap.size, 0, none⟩ 1 1 (bt a0 j) rfl rfl (by have h_ := blk_cell (blk_new (wr.setCell ⟨w.heap.size, 4, none⟩ (.bool true)) (.cells #[.int .u8 (bt a0 j)] 5)) 0; (try rw [World.size_setCell] at h_); exact h_) (by have := HI.out.1; omega) ?_; intro v1 w1 hO1 hB1; have HR1 := Aside0.mk ((hB1.block w.heap.size (by omega)).trans ((Below.heap_alloc _ _ _ (by simpa using hrz)).trans (blk_put HR.out 4 _ rfl))); have HO1 := Aside0.mk hO1; have HB1 := Aside0.mk ((show Below w.heap.size w _ by repeat (first | (with_reducible exact HB.out) | (with_reducible refine below_alloc ?_ _) | (with_reducible refine below_set ?_ (Nat.le_refl _)))).trans (hB1.mono (by omega))); clear hO1 hB1)
                                    go_roundg k2
                                    case measure => have := HK2.out; omega
                                    case rel => exact ⟨j + 1, _, true, by go_num, ⟨by rw [List.length_append]; simp; have := HI.out.1; omega, by omega⟩, H', ⟨by have := HK2.out; omega⟩, HO1, HR1, HB1⟩
                                  · rw [if_neg c5] at H
                                    have c5' : (bt a0 j == 63) = false := by simpa using c5
                                    clear c5
                                    have H' := Aside0.mk H
                                    clear H
                                    go_wp2_with (at_builtin; refine OwnB.append rfl (.tmp 167) (.tmp 171) rfl (OwnB.alloc HO.out _) rfl ⟨wr.heap.size, 0, none⟩ 1 1 (bt a0 j) rfl rfl (by have h_ := blk_cell (blk_new wr (.cells #[.int .u8 (bt a0 j)] 5)) 0; (try rw [World.size_setCell] at h_); exact h_) (by have := HI.out.1; omega) ?_; intro v1 w1 hO1 hB1; have HR1 := Aside0.mk ((hB1.block w.heap.size (by omega)).trans ((Below.heap_alloc _ _ _ (by simpa using hrz)).trans (HR.out))); have HO1 := Aside0.mk hO1; have HB1 := Aside0.mk ((show Below w.heap.size w _ by repeat (first | (with_reducible exact HB.out) | (with_reducible refine below_alloc ?_ _) | (with_reducible refine below_set ?_ (Nat.le_refl _)))).trans (hB1.mono (by omega))); clear hO1 hB1)
                                    go_roundg k2
                                    case measure => have := HK2.out; omega
                                    case rel => exact ⟨j + 1, _, wild1, by go_num, ⟨by rw [List.length_append]; simp; have := HI.out.1; omega, by omega⟩, H', ⟨by have := HK2.out; omega⟩, HO1, HR1, HB1⟩
                        · rw [if_neg hlt] at H
                          simp only [Option.some.injEq, Prod.mk.injEq] at H
                          obtain ⟨rfl, rfl, rfl, rfl, rfl, rfl⟩ := H
                          have hlt' : decide ((j : Int) < (a0.size : Int)) = false := by simp; omega
                          have hlt2 : decide (j < a0.size) = false := by simp; omega
                          clear hlt
                          go_wp2
                          refine bodyPost_ret (results_cell_row rfl _ _ w.heap.size 121 #[.string (strOfNums ep), .string ⟨#[]⟩, .string ⟨#[]⟩, .bool false, .bool wild1, .bool false] (0, 0) _ rfl ?_ Tryz.underlying121 rfl (by kernel_rfl)) rfl ?_
                          · (with_reducible repeat (first | refine blk_alloc ?_ _ | refine blk_drew ?_))
                            refine blk_put (cs := #[.string ⟨#[]⟩, .string ⟨#[]⟩, .string ⟨#[]⟩, .bool false, .bool wild1, .bool false]) ?_ 0 _ rfl
                            exact HR.out
                          · exact ⟨rfl, by repeat (first | (with_reducible exact HB.out) | (with_reducible refine below_alloc ?_ _) | (with_reducible refine below_drew1 ?_) | (with_reducible refine below_set ?_ (Nat.le_refl _)))⟩
                  · rw [if_neg hl1] at H
                    simp only [Option.some.injEq, Prod.mk.injEq] at H
                    obtain ⟨rfl, rfl, rfl, rfl, rfl, rfl⟩ := H
                    have hl1' : decide ((i : Int) + 1 < (a0.size : Int)) = false := by simp; omega
                    have hst := OwnB.str HO0.out
                    clear hl1
                    go_wp2
                    refine bodyPost_ret (results_cell_row rfl _ _ w.heap.size 121 #[.string (strOfNums (bytesOf (a0.extract 0 i))), .string ⟨#[]⟩, .string ⟨#[]⟩, .bool false, .bool wild, .bool false] (0, 0) _ rfl ?_ Tryz.underlying121 rfl (by kernel_rfl)) rfl ?_
                    · (with_reducible repeat (first | refine blk_alloc ?_ _ | refine blk_drew ?_))
                      refine blk_put (cs := #[.string ⟨#[]⟩, .string ⟨#[]⟩, .string ⟨#[]⟩, .bool false, .bool wild, .bool false]) ?_ 0 _ rfl
                      exact HRc.out
                    · exact ⟨rfl, by repeat (first | (with_reducible exact HBc.out) | (with_reducible refine below_alloc ?_ _) | (with_reducible refine below_drew1 ?_) | (with_reducible refine below_set ?_ (Nat.le_refl _)))⟩
                · rw [if_neg c5] at H
                  have c5' : (bt a0 i == 92) = false := by simpa using c5
                  clear c5
                  have H' := Aside0.mk H
                  clear H
                  go_wp2
                  go_roundg k1
                  case measure => have := HK1.out; omega
                  case rel => exact ⟨i + 1, wild, by first | rfl | go_num | (simp; done), ⟨by omega⟩, H', ⟨by have := HK1.out; omega⟩, ⟨HR.out⟩, ⟨by repeat (first | (with_reducible exact HB.out) | (with_reducible refine below_set ?_ (Nat.le_refl _)))⟩⟩
      · rw [if_neg hlt] at H
        simp only [Option.some.injEq, Prod.mk.injEq] at H
        obtain ⟨rfl, rfl, rfl, rfl, rfl, rfl⟩ := H
        have hlt' : decide (i < a0.size) = false := by simp; omega
        clear hlt
        go_wp2
        refine bodyPost_ret (results_cell_row rfl _ _ w.heap.size 121 #[.string a0, .string ⟨#[]⟩, .string ⟨#[]⟩, .bool false, .bool wild, .bool false] (0, 0) _ rfl ?_ Tryz.underlying121 rfl (by kernel_rfl)) rfl ?_
        · (with_reducible repeat (first | refine blk_alloc ?_ _ | refine blk_drew ?_))
          refine blk_put (cs := #[.string ⟨#[]⟩, .string ⟨#[]⟩, .string ⟨#[]⟩, .bool false, .bool wild, .bool false]) ?_ 0 _ rfl
          exact HR.out
        · exact ⟨rfl, by repeat (first | (with_reducible exact HB.out) | (with_reducible refine below_alloc ?_ _) | (with_reducible refine below_drew1 ?_) | (with_reducible refine below_set ?_ (Nat.le_refl _)))⟩
end Go.Proofs.YtoejpgjanoideaaGreatDoor.F
