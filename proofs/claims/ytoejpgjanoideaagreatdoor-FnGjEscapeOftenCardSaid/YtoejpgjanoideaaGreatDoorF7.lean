-- pub-tetrapla/laws.FnGjEscapeOften (written by a program of this session over the kit's print)
import Derived.Test.YtoejpgjanoideaaGreatDoorFK
import Derived.Test.YtoejpgjanoideaaGreatDoorF18
import Derived.Test.YtoejpgjanoideaaGreatDoorF29
import Derived.Test.YtoejpgjanoideaaGreatDoorF30
import Derived.Test.YtoejpgjanoideaaGreatDoorF31
namespace Go.Proofs.YtoejpgjanoideaaGreatDoor.F
open Go.RowKit Go.Proofs.YtoejpgjanoideaaGreatDoorW.PrintWords Go.Proofs.YtoejpgjanoideaaGreatDoorW.PrintLast Go.Proofs.YtoejpgjanoideaaGreatDoorW.PrintMore
attribute [local go_sem] max2_int min2_int max_two min_two max_three min_three max_four min_four
set_option linter.unusedVariables false
set_option linter.unusedSimpArgs false

/-! ### laws_FnGjEscapeOften: function 7 -/
mutual
def laws_FnGjEscapeOften.l0 : Nat → List ByteArray → Int → List ByteArray → Int → Int → Option (Bool)
  | 0, _, _, _, _, _ => none
  | k + 1, x0, x3, x20, x21, x22 => if x22 < x21 then (if 0 ≤ x22 then (if x22 < (x20.length : Int) then (laws_FnGjEscapeOften.l0 k x0 (wrap64 (x3 + ((rdOf ByteArray.empty x20 x22).size : Int))) x20 x21 (wrap64 (x22 + 1))) else (none)) else (none)) else ((laws_gjRest.f k x0).bind fun t103 => (if t103 = true then (if (x0.length : Int) > 64 then (laws_FnGjEscapeOften.j1 k x0 true) else (laws_FnGjEscapeOften.j1 k x0 (decide (x3 > 4096)))) else (laws_FnGjEscapeOften.j1 k x0 true)))
def laws_FnGjEscapeOften.j1 : Nat → List ByteArray → Bool → Option (Bool)
  | 0, _, _ => none
  | k + 1, x0, x42 => if x42 = true then (some true) else (laws_FnGjEscapeOften.l1 k x0 (⟨#[]⟩ : ByteArray) x0 (x0.length : Int) 0)
def laws_FnGjEscapeOften.l1 : Nat → List ByteArray → ByteArray → List ByteArray → Int → Int → Option (Bool)
  | 0, _, _, _, _, _ => none
  | k + 1, x0, x6, x43, x44, x45 => if x45 < x44 then (if 0 ≤ x45 then (if x45 < (x43.length : Int) then (if x45 > 0 then (if x6.size + 1 ≤ 9223372036854775807 then ((impl_GjEscape.f k (rdOf ByteArray.empty x43 x45)).bind fun t105 => (if x6.size + 1 + t105.size ≤ 9223372036854775807 then (laws_FnGjEscapeOften.l1 k x0 ((x6 ++ (⟨#[46]⟩ : ByteArray)) ++ t105) x43 x44 (wrap64 (x45 + 1))) else (none))) else (none)) else ((impl_GjEscape.f k (rdOf ByteArray.empty x43 x45)).bind fun t106 => (if x6.size + t106.size ≤ 9223372036854775807 then (laws_FnGjEscapeOften.l1 k x0 (x6 ++ t106) x43 x44 (wrap64 (x45 + 1))) else (none)))) else (none)) else (none)) else (laws_FnGjEscapeOften.l2 k x0 x6 x0 (x0.length : Int) 0)
def laws_FnGjEscapeOften.l2 : Nat → List ByteArray → ByteArray → List ByteArray → Int → Int → Option (Bool)
  | 0, _, _, _, _, _ => none
  | k + 1, x0, x6, x59, x60, x61 => if x61 < x60 then (if 0 ≤ x61 then (if x61 < (x59.length : Int) then ((impl_GjObjectPath.f k x6).bind fun bt108 => (if bt108.1.toList = (rdOf ByteArray.empty x59 x61).toList then (if bt108.2.2.2.1 = true then (some false) else (if bt108.2.2.2.2.1 = true then (some false) else (if (bt108.2.2.2.2.2 != (decide (x61 < (wrap64 ((x0.length : Int) - 1))))) = true then (some false) else (laws_FnGjEscapeOften.l2 k x0 bt108.2.1 x59 x60 (wrap64 (x61 + 1)))))) else (some false))) else (none)) else (none)) else (some true)
end
def laws_FnGjEscapeOften.f (k : Nat) (l0 : List ByteArray) : Option (Bool) := (laws_zzFits1.f k l0).bind fun t101 => (if t101 = true then (laws_FnGjEscapeOften.l0 k l0 0 l0 (l0.length : Int) 0) else (some true))
theorem laws_FnGjEscapeOften.mono_l : ∀ k, (∀ y0 y1 y2 y3 y4, LeO (laws_FnGjEscapeOften.l0 k y0 y1 y2 y3 y4) (laws_FnGjEscapeOften.l0 (k + 1) y0 y1 y2 y3 y4)) ∧ (∀ y0 y1, LeO (laws_FnGjEscapeOften.j1 k y0 y1) (laws_FnGjEscapeOften.j1 (k + 1) y0 y1)) ∧ (∀ y0 y1 y2 y3 y4, LeO (laws_FnGjEscapeOften.l1 k y0 y1 y2 y3 y4) (laws_FnGjEscapeOften.l1 (k + 1) y0 y1 y2 y3 y4)) ∧ (∀ y0 y1 y2 y3 y4, LeO (laws_FnGjEscapeOften.l2 k y0 y1 y2 y3 y4) (laws_FnGjEscapeOften.l2 (k + 1) y0 y1 y2 y3 y4))
  | 0 => ⟨fun _ _ _ _ _ r h => by simp [laws_FnGjEscapeOften.l0] at h, fun _ _ r h => by simp [laws_FnGjEscapeOften.j1] at h, fun _ _ _ _ _ r h => by simp [laws_FnGjEscapeOften.l1] at h, fun _ _ _ _ _ r h => by simp [laws_FnGjEscapeOften.l2] at h⟩
  | k + 1 => by
    obtain ⟨ih0, ih1, ih2, ih3⟩ := laws_FnGjEscapeOften.mono_l k
    refine ⟨?_, ?_, ?_, ?_⟩
    · intro y0 y1 y2 y3 y4
      unfold laws_FnGjEscapeOften.l0
      repeat' first
      | (with_reducible exact ih0 _ _ _ _ _)
      | (with_reducible exact ih1 _ _)
      | (with_reducible exact ih2 _ _ _ _ _)
      | (with_reducible exact ih3 _ _ _ _ _)
      | (with_reducible exact impl_GjEscape.mono _ _)
      | (with_reducible exact impl_GjObjectPath.mono _ _)
      | (with_reducible exact laws_gjRest.mono _ _)
      | (with_reducible exact laws_zzFits1.mono _ _)
      | (with_reducible exact LeO.refl _)
      | (with_reducible exact LeO.none _)
      | (with_reducible refine LeO.ite ?_ ?_)
      | (with_reducible refine LeO.bind ?_ (fun _ => ?_))
      | exact ih0 _ _ _ _ _
      | exact ih1 _ _
      | exact ih2 _ _ _ _ _
      | exact ih3 _ _ _ _ _
      | exact impl_GjEscape.mono _ _
      | exact impl_GjObjectPath.mono _ _
      | exact laws_gjRest.mono _ _
      | exact laws_zzFits1.mono _ _
      | exact LeO.none _
      | refine LeO.ite ?_ ?_
      | refine LeO.bind ?_ (fun _ => ?_)
    · intro y0 y1
      unfold laws_FnGjEscapeOften.j1
      repeat' first
      | (with_reducible exact ih0 _ _ _ _ _)
      | (with_reducible exact ih1 _ _)
      | (with_reducible exact ih2 _ _ _ _ _)
      | (with_reducible exact ih3 _ _ _ _ _)
      | (with_reducible exact impl_GjEscape.mono _ _)
      | (with_reducible exact impl_GjObjectPath.mono _ _)
      | (with_reducible exact laws_gjRest.mono _ _)
      | (with_reducible exact laws_zzFits1.mono _ _)
      | (with_reducible exact LeO.refl _)
      | (with_reducible exact LeO.none _)
      | (with_reducible refine LeO.ite ?_ ?_)
      | (with_reducible refine LeO.bind ?_ (fun _ => ?_))
      | exact ih0 _ _ _ _ _
      | exact ih1 _ _
      | exact ih2 _ _ _ _ _
      | exact ih3 _ _ _ _ _
      | exact impl_GjEscape.mono _ _
      | exact impl_GjObjectPath.mono _ _
      | exact laws_gjRest.mono _ _
      | exact laws_zzFits1.mono _ _
      | exact LeO.none _
      | refine LeO.ite ?_ ?_
      | refine LeO.bind ?_ (fun _ => ?_)
    · intro y0 y1 y2 y3 y4
      unfold laws_FnGjEscapeOften.l1
      repeat' first
      | (with_reducible exact ih0 _ _ _ _ _)
      | (with_reducible exact ih1 _ _)
      | (with_reducible exact ih2 _ _ _ _ _)
      | (with_reducible exact ih3 _ _ _ _ _)
      | (with_reducible exact impl_GjEscape.mono _ _)
      | (with_reducible exact impl_GjObjectPath.mono _ _)
      | (with_reducible exact laws_gjRest.mono _ _)
      | (with_reducible exact laws_zzFits1.mono _ _)
      | (with_reducible exact LeO.refl _)
      | (with_reducible exact LeO.none _)
      | (with_reducible refine LeO.ite ?_ ?_)
      | (with_reducible refine LeO.bind ?_ (fun _ => ?_))
      | exact ih0 _ _ _ _ _
      | exact ih1 _ _
      | exact ih2 _ _ _ _ _
      | exact ih3 _ _ _ _ _
      | exact impl_GjEscape.mono _ _
      | exact impl_GjObjectPath.mono _ _
      | exact laws_gjRest.mono _ _
      | exact laws_zzFits1.mono _ _
      | exact LeO.none _
      | refine LeO.ite ?_ ?_
      | refine LeO.bind ?_ (fun _ => ?_)
    · intro y0 y1 y2 y3 y4
      unfold laws_FnGjEscapeOften.l2
      repeat' first
      | (with_reducible exact ih0 _ _ _ _ _)
      | (with_reducible exact ih1 _ _)
      | (with_reducible exact ih2 _ _ _ _ _)
      | (with_reducible exact ih3 _ _ _ _ _)
      | (with_reducible exact impl_GjEscape.mono _ _)
      | (with_reducible exact impl_GjObjectPath.mono _ _)
      | (with_reducible exact laws_gjRest.mono _ _)
      | (with_reducible exact laws_zzFits1.mono _ _)
      | (with_reducible exact LeO.refl _)
      | (with_reducible exact LeO.none _)
      | (with_reducible refine LeO.ite ?_ ?_)
      | (with_reducible refine LeO.bind ?_ (fun _ => ?_))
      | exact ih0 _ _ _ _ _
      | exact ih1 _ _
      | exact ih2 _ _ _ _ _
      | exact ih3 _ _ _ _ _
      | exact impl_GjEscape.mono _ _
      | exact impl_GjObjectPath.mono _ _
      | exact laws_gjRest.mono _ _
      | exact laws_zzFits1.mono _ _
      | exact LeO.none _
      | refine LeO.ite ?_ ?_
      | refine LeO.bind ?_ (fun _ => ?_)
theorem laws_FnGjEscapeOften.mono : ∀ a0 k, LeO (laws_FnGjEscapeOften.f k a0) (laws_FnGjEscapeOften.f (k + 1) a0) := by
  intro a0 k
  obtain ⟨ih0, ih1, ih2, ih3⟩ := laws_FnGjEscapeOften.mono_l k
  unfold laws_FnGjEscapeOften.f
  repeat' first
      | (with_reducible exact ih0 _ _ _ _ _)
      | (with_reducible exact ih1 _ _)
      | (with_reducible exact ih2 _ _ _ _ _)
      | (with_reducible exact ih3 _ _ _ _ _)
      | (with_reducible exact impl_GjEscape.mono _ _)
      | (with_reducible exact impl_GjObjectPath.mono _ _)
      | (with_reducible exact laws_gjRest.mono _ _)
      | (with_reducible exact laws_zzFits1.mono _ _)
      | (with_reducible exact LeO.refl _)
      | (with_reducible exact LeO.none _)
      | (with_reducible refine LeO.ite ?_ ?_)
      | (with_reducible refine LeO.bind ?_ (fun _ => ?_))
      | exact ih0 _ _ _ _ _
      | exact ih1 _ _
      | exact ih2 _ _ _ _ _
      | exact ih3 _ _ _ _ _
      | exact impl_GjEscape.mono _ _
      | exact impl_GjObjectPath.mono _ _
      | exact laws_gjRest.mono _ _
      | exact laws_zzFits1.mono _ _
      | exact LeO.none _
      | refine LeO.ite ?_ ?_
      | refine LeO.bind ?_ (fun _ => ?_)
set_option maxHeartbeats 8000000 in
set_option maxRecDepth 100000 in
theorem laws_FnGjEscapeOften.calls (k : Nat) (A0 : Option Addr) (c0 : Nat) (l0 : List ByteArray) (r : Bool) (w : World) (hr0 : Kd.C Kd.string w A0 l0.length l0) (hc0 : l0.length ≤ c0) (h : laws_FnGjEscapeOften.f k l0 = some r) :
    Calls Tryz.prog 7 #[.slice A0 l0.length c0] w fun e w' => e = .returned (.bool r) ∧ Below w.heap.size w w' := by
  have HR0 := Aside0.mk hr0
  have HC0 := Aside0.mk hc0
  clear hr0 hc0
  have HB := Aside0.mk (Below.refl w.heap.size w)
  have H : ((laws_zzFits1.f k l0).bind fun t101 => (if t101 = true then (laws_FnGjEscapeOften.l0 k l0 0 l0 (l0.length : Int) 0) else (some true))) = some r := h
  clear h
  replace H := Option.bind_eq_some_iff.mp H
  obtain ⟨t101, A20, H⟩ := H
  replace H : (if t101 = true then (laws_FnGjEscapeOften.l0 k l0 0 l0 (l0.length : Int) 0) else (some true)) = some r := H
  have A2 := Aside0.mk A20
  clear A20
  by_cases c3 : t101 = true
  · subst c3
    have H1 : (laws_FnGjEscapeOften.l0 k l0 0 l0 (l0.length : Int) 0) = some r := by rw [if_pos rfl] at H; exact H
    clear H
    have H := H1
    clear H1
    have H' := Aside0.mk H
    clear H
    go_enter Tryz.func7, Tryz.ntmps7
    go_wp2_with (first | ((with_reducible refine gate_callee (f := 18) rfl ?_); refine goesL_ (some 18) rfl rfl Tryz.func18 (by kernel_rfl) rfl #[.slice A0 l0.length c0] rfl (by (try simp only [List.map_toArray, List.map_cons, List.map_nil]); first | done | rfl | (simp only [List.length_drop, List.length_take]; rfl)) ?_; (with_reducible refine (laws_zzFits1.calls k _ _ l0 true _ ?side1 ?side2 A2.out).mono ?_); (case side1 => repeat (first | exact HR0.out | (with_reducible refine Kd.C_alloc ?_ _) | (with_reducible refine Kd.C_drewN ?_ _) | (with_reducible refine Kd.C_drew ?_))); (case side2 => exact HC0.out); rintro e w' ⟨rfl, ⟨nd, rfl⟩⟩; refine ⟨_, rfl, ?_⟩))
    (try simp only [Act.put, List.setIfInBounds_toArray, List.set_cons_zero, List.set_cons_succ])
    go_loopg [3, 22] k (fun kq v3 v22 w' => ∃ (x3_1 : Int) (x22_1 : Int), v3 = .int .i64 x3_1 ∧ v22 = .int .i64 x22_1 ∧ Aside0 (laws_FnGjEscapeOften.l0 kq l0 x3_1 l0 (l0.length : Int) x22_1 = some r) ∧ Aside0 (kq ≤ k) ∧ Aside0 (Below w.heap.size w w'))
    case atStart => exact ⟨(0), (0), (by first | rfl | (simp; done) | (simp [*]; done)), (by first | rfl | (simp; done) | (simp [*]; done)), H', ⟨Nat.le_refl _⟩, ⟨by repeat (first | (with_reducible first | exact HB.out | apply below_alloc | apply pw_below_drewN | apply below_drew1) | exact HB.out)⟩⟩
    case round =>
      clear H'
      try clear c1
      try clear p2
      try clear c3
      obtain ⟨x3_1, x22_1, rfl, rfl, HA, HK1, HB⟩ := hrel
      cases gk with
      | zero => exact absurd HA.out (by simp [laws_FnGjEscapeOften.l0])
      | succ k1 =>
        have H := HA.out
        clear HA
        simp only [laws_FnGjEscapeOften.l0] at H
        by_cases c4 : x22_1 < (l0.length : Int)
        · rw [if_pos c4] at H
          have c4b0 : decide (x22_1 < (l0.length : Int)) = true := decide_eq_true c4
          clear c4
          by_cases c5 : 0 ≤ x22_1
          · rw [if_pos c5] at H
            have c5b0 : decide (0 ≤ x22_1) = true := decide_eq_true c5
            clear c5
            by_cases c6 : x22_1 < (l0.length : Int)
            · rw [if_pos c6] at H
              have c6b0 : decide (x22_1 < (l0.length : Int)) = true := decide_eq_true c6
              clear c6
              have H' := Aside0.mk H
              clear H
              have p102 : 0 ≤ (x22_1 : Int) := of_decide_eq_true (by first | (with_reducible assumption) | assumption)
              have q102 : x22_1 < (l0.length : Int) := of_decide_eq_true (by first | (with_reducible assumption) | assumption)
              obtain ⟨ad102, e102, hx102_0⟩ := Kd.at_string HR0.out x22_1 p102 q102
              cases e102
              replace hx102_0 := (HB.out.cell (World.block_lt_of_cell? w _ hx102_0)).trans hx102_0
              replace p102 := eq_true p102
              replace q102 := eq_true q102
              go_wp2
              go_roundg k1
              case measure => have := HK1.out; omega
              case rel => exact ⟨(wrap64 (x3_1 + ((rdOf ByteArray.empty l0 x22_1).size : Int))), (wrap64 (x22_1 + 1)), (by first | rfl | (simp; done) | (simp [*]; done)), (by first | rfl | (simp; done) | (simp [*]; done)), H', ⟨by have := HK1.out; omega⟩, ⟨by repeat (first | (with_reducible first | exact HB.out | apply below_alloc | apply pw_below_drewN | apply below_drew1) | exact HB.out)⟩⟩
            · rw [if_neg c6] at H
              exact absurd H (by simp)
          · rw [if_neg c5] at H
            exact absurd H (by simp)
        · rw [if_neg c4] at H
          have c4b0 : decide (x22_1 < (l0.length : Int)) = false := decide_eq_false c4
          clear c4
          have HC7 := Aside0.mk H
          clear H
          go_upto_region 9 with (fail)
          go_cut [42] (fun v42 wc => ∃ (kq : Nat) (x42_6 : Bool), v42 = .bool x42_6 ∧ Aside0 (laws_FnGjEscapeOften.j1 kq l0 x42_6 = some r) ∧ Aside0 (kq ≤ k1) ∧ Aside0 (Below w.heap.size w wc))
          case first =>
            have H := HC7.out
            clear HC7
            replace H := Option.bind_eq_some_iff.mp H
            obtain ⟨t103, A80, H⟩ := H
            replace H : (if t103 = true then (if (l0.length : Int) > 64 then (laws_FnGjEscapeOften.j1 k1 l0 true) else (laws_FnGjEscapeOften.j1 k1 l0 (decide (x3_1 > 4096)))) else (laws_FnGjEscapeOften.j1 k1 l0 true)) = some r := H
            have A8 := Aside0.mk A80
            clear A80
            by_cases c9 : t103 = true
            · subst c9
              have H1 : (if (l0.length : Int) > 64 then (laws_FnGjEscapeOften.j1 k1 l0 true) else (laws_FnGjEscapeOften.j1 k1 l0 (decide (x3_1 > 4096)))) = some r := by rw [if_pos rfl] at H; exact H
              clear H
              have H := H1
              clear H1
              by_cases c10 : (l0.length : Int) > 64
              · rw [if_pos c10] at H
                have c10b0 : decide (64 < (l0.length : Int)) = true := decide_eq_true c10
                have c10b1 : decide (64 < l0.length) = true := decide_eq_true (by omega)
                clear c10
                (first | rw [c10b0] | (simp only [i64_w, i32_w]; rw [c10b0]) | skip)
                have H' := Aside0.mk H
                clear H
                go_wp2_with (first | ((with_reducible refine gate_callee (f := 29) rfl ?_); refine goesL_ (some 32) rfl rfl Tryz.func29 (by kernel_rfl) rfl #[.slice A0 l0.length c0] rfl (by (try simp only [List.map_toArray, List.map_cons, List.map_nil]); first | done | rfl | (simp only [List.length_drop, List.length_take]; rfl)) ?_; (with_reducible refine (laws_gjRest.calls k1 _ _ l0 true _ ?side1 ?side2 A8.out).mono ?_); (case side1 => repeat (first | exact (Kd.C_below HR0.out HB.out) | (with_reducible refine Kd.C_alloc ?_ _) | (with_reducible refine Kd.C_drewN ?_ _) | (with_reducible refine Kd.C_drew ?_))); (case side2 => exact HC0.out); rintro e w' ⟨rfl, ⟨nd, rfl⟩⟩; refine ⟨_, rfl, ?_⟩))
                go_meet
                case rel => exact ⟨_, (true), (by first | rfl | (simp; done) | (simp [*]; done)), H', ⟨by have := HK1.out; first | omega | exact Nat.le_refl _⟩, ⟨by repeat (first | (with_reducible first | exact HB.out | apply below_alloc | apply pw_below_drewN | apply below_drew1) | exact HB.out)⟩⟩
              · rw [if_neg c10] at H
                have c10b0 : decide (64 < (l0.length : Int)) = false := decide_eq_false c10
                have c10b1 : decide (64 < l0.length) = false := decide_eq_false (by omega)
                clear c10
                (first | rw [c10b0] | (simp only [i64_w, i32_w]; rw [c10b0]) | skip)
                have H' := Aside0.mk H
                clear H
                go_wp2_with (first | ((with_reducible refine gate_callee (f := 29) rfl ?_); refine goesL_ (some 32) rfl rfl Tryz.func29 (by kernel_rfl) rfl #[.slice A0 l0.length c0] rfl (by (try simp only [List.map_toArray, List.map_cons, List.map_nil]); first | done | rfl | (simp only [List.length_drop, List.length_take]; rfl)) ?_; (with_reducible refine (laws_gjRest.calls k1 _ _ l0 true _ ?side1 ?side2 A8.out).mono ?_); (case side1 => repeat (first | exact (Kd.C_below HR0.out HB.out) | (with_reducible refine Kd.C_alloc ?_ _) | (with_reducible refine Kd.C_drewN ?_ _) | (with_reducible refine Kd.C_drew ?_))); (case side2 => exact HC0.out); rintro e w' ⟨rfl, ⟨nd, rfl⟩⟩; refine ⟨_, rfl, ?_⟩))
                go_meet
                case rel => exact ⟨_, (decide (x3_1 > 4096)), (by first | rfl | (simp; done) | (simp [*]; done)), H', ⟨by have := HK1.out; first | omega | exact Nat.le_refl _⟩, ⟨by repeat (first | (with_reducible first | exact HB.out | apply below_alloc | apply pw_below_drewN | apply below_drew1) | exact HB.out)⟩⟩
            · replace c9 := Bool.eq_false_iff.mpr c9
              subst c9
              have H1 : (laws_FnGjEscapeOften.j1 k1 l0 true) = some r := by rw [if_neg (show ¬ (false = true) by decide)] at H; exact H
              clear H
              have H := H1
              clear H1
              have H' := Aside0.mk H
              clear H
              go_wp2_with (first | ((with_reducible refine gate_callee (f := 29) rfl ?_); refine goesL_ (some 32) rfl rfl Tryz.func29 (by kernel_rfl) rfl #[.slice A0 l0.length c0] rfl (by (try simp only [List.map_toArray, List.map_cons, List.map_nil]); first | done | rfl | (simp only [List.length_drop, List.length_take]; rfl)) ?_; (with_reducible refine (laws_gjRest.calls k1 _ _ l0 false _ ?side1 ?side2 A8.out).mono ?_); (case side1 => repeat (first | exact (Kd.C_below HR0.out HB.out) | (with_reducible refine Kd.C_alloc ?_ _) | (with_reducible refine Kd.C_drewN ?_ _) | (with_reducible refine Kd.C_drew ?_))); (case side2 => exact HC0.out); rintro e w' ⟨rfl, ⟨nd, rfl⟩⟩; refine ⟨_, rfl, ?_⟩))
              go_meet
              case rel => exact ⟨_, (true), (by first | rfl | (simp; done) | (simp [*]; done)), H', ⟨by have := HK1.out; first | omega | exact Nat.le_refl _⟩, ⟨by repeat (first | (with_reducible first | exact HB.out | apply below_alloc | apply pw_below_drewN | apply below_drew1) | exact HB.out)⟩⟩
          case rest =>
            clear HC7
            try clear c1
            try clear p1
            try clear q1
            try clear hx1
            try clear c2
            try clear p2
            try clear c3
            try clear c4
            try clear c4b0
            try clear c5
            try clear c5b0
            try clear c6
            try clear c6b0
            try clear p6
            try clear c7
            try clear c9
            try clear c10
            try clear c10b0
            try clear c10b1
            try clear p10
            try clear q10
            try clear hx10
            try clear hx102_0
            try clear p102
            try clear p2
            try clear q102
            obtain ⟨kq, x42_6, rfl, HA, HJ6, HB⟩ := hcut
            cases kq with
            | zero => exact absurd HA.out (by simp [laws_FnGjEscapeOften.j1])
            | succ kj6 =>
              have H := HA.out
              clear HA
              simp only [laws_FnGjEscapeOften.j1] at H
              by_cases c11 : x42_6 = true
              · subst c11
                have H1 : (some true) = some r := by rw [if_pos rfl] at H; exact H
                clear H
                have H := H1
                clear H1
                obtain rfl := Option.some.inj H
                go_wp2
                go_ret
                exact ⟨by first | rfl | (simp [errW_none, errW_some] <;> rfl) | (simp [*, errW_none, errW_some] <;> rfl), by repeat (first | (with_reducible first | exact HB.out | apply below_alloc | apply pw_below_drewN | apply below_drew1) | exact HB.out)⟩
              · replace c11 := Bool.eq_false_iff.mpr c11
                subst c11
                have H1 : (laws_FnGjEscapeOften.l1 kj6 l0 (⟨#[]⟩ : ByteArray) l0 (l0.length : Int) 0) = some r := by rw [if_neg (show ¬ (false = true) by decide)] at H; exact H
                clear H
                have H := H1
                clear H1
                have H' := Aside0.mk H
                clear H
                go_wp2
                (try simp only [Act.put, List.setIfInBounds_toArray, List.set_cons_zero, List.set_cons_succ])
                go_loopg [6, 45] kj6 (fun kq v6 v45 w' => ∃ (x6_3 : ByteArray) (x45_3 : Int), v6 = .string x6_3 ∧ v45 = .int .i64 x45_3 ∧ Aside0 (laws_FnGjEscapeOften.l1 kq l0 x6_3 l0 (l0.length : Int) x45_3 = some r) ∧ Aside0 (kq ≤ kj6) ∧ Aside0 (Below w.heap.size w w'))
                case atStart => exact ⟨((⟨#[]⟩ : ByteArray)), (0), (by first | rfl | (simp; done) | (simp [*]; done)), (by first | rfl | (simp; done) | (simp [*]; done)), H', ⟨Nat.le_refl _⟩, ⟨by repeat (first | (with_reducible first | exact HB.out | apply below_alloc | apply pw_below_drewN | apply below_drew1) | exact HB.out)⟩⟩
                case round =>
                  clear H'
                  try clear c1
                  try clear p1
                  try clear q1
                  try clear hx1
                  try clear c2
                  try clear p2
                  try clear c3
                  try clear c4
                  try clear c4b0
                  try clear c5
                  try clear c5b0
                  try clear c6
                  try clear c6b0
                  try clear p6
                  try clear c7
                  try clear c9
                  try clear c10
                  try clear c10b0
                  try clear c10b1
                  try clear p10
                  try clear q10
                  try clear hx10
                  try clear c11
                  try clear hx102_0
                  try clear p1
                  try clear p10
                  try clear p102
                  try clear p2
                  try clear p6
                  try clear q1
                  try clear q10
                  try clear q102
                  obtain ⟨x6_3, x45_3, rfl, rfl, HA, HK3, HB⟩ := hrel
                  cases gk with
                  | zero => exact absurd HA.out (by simp [laws_FnGjEscapeOften.l1])
                  | succ k3 =>
                    have H := HA.out
                    clear HA
                    simp only [laws_FnGjEscapeOften.l1] at H
                    by_cases c12 : x45_3 < (l0.length : Int)
                    · rw [if_pos c12] at H
                      have c12b0 : decide (x45_3 < (l0.length : Int)) = true := decide_eq_true c12
                      clear c12
                      by_cases c13 : 0 ≤ x45_3
                      · rw [if_pos c13] at H
                        have c13b0 : decide (0 ≤ x45_3) = true := decide_eq_true c13
                        clear c13
                        by_cases c14 : x45_3 < (l0.length : Int)
                        · rw [if_pos c14] at H
                          have c14b0 : decide (x45_3 < (l0.length : Int)) = true := decide_eq_true c14
                          clear c14
                          by_cases c15 : x45_3 > 0
                          · rw [if_pos c15] at H
                            have c15b0 : decide (0 < x45_3) = true := decide_eq_true c15
                            clear c15
                            by_cases c16 : x6_3.size + 1 ≤ 9223372036854775807
                            · rw [if_pos c16] at H
                              have c16b0 := eq_true c16
                              have c16b1 : decide (x6_3.size + 1 ≤ 9223372036854775807) = true := decide_eq_true c16
                              try have c16b2 : (9223372036854775807 < x6_3.size + 1) = False := eq_false (Nat.not_lt.2 c16)
                              replace H := Option.bind_eq_some_iff.mp H
                              obtain ⟨t105, A170, H⟩ := H
                              replace H : (if x6_3.size + 1 + t105.size ≤ 9223372036854775807 then (laws_FnGjEscapeOften.l1 k3 l0 ((x6_3 ++ (⟨#[46]⟩ : ByteArray)) ++ t105) l0 (l0.length : Int) (wrap64 (x45_3 + 1))) else (none)) = some r := H
                              have A17 := Aside0.mk A170
                              clear A170
                              by_cases c18 : x6_3.size + 1 + t105.size ≤ 9223372036854775807
                              · rw [if_pos c18] at H
                                have c18b0 := eq_true c18
                                have c18b1 : decide (x6_3.size + 1 + t105.size ≤ 9223372036854775807) = true := decide_eq_true c18
                                try have c18b2 : (9223372036854775807 < x6_3.size + 1 + t105.size) = False := eq_false (Nat.not_lt.2 c18)
                                have H' := Aside0.mk H
                                clear H
                                have p104 : 0 ≤ (x45_3 : Int) := of_decide_eq_true (by first | (with_reducible assumption) | assumption)
                                have q104 : x45_3 < (l0.length : Int) := of_decide_eq_true (by first | (with_reducible assumption) | assumption)
                                obtain ⟨ad104, e104, hx104_0⟩ := Kd.at_string HR0.out x45_3 p104 q104
                                cases e104
                                replace hx104_0 := (HB.out.cell (World.block_lt_of_cell? w _ hx104_0)).trans hx104_0
                                replace p104 := eq_true p104
                                replace q104 := eq_true q104
                                go_wp2_with (first | ((with_reducible refine gate_callee (f := 30) rfl ?_); refine goesL_ (some 56) rfl rfl Tryz.func30 (by kernel_rfl) rfl #[.string (rdOf ByteArray.empty l0 x45_3)] rfl (by (try simp only [List.map_toArray, List.map_cons, List.map_nil]); first | done | rfl | (simp only [List.length_drop, List.length_take]; rfl)) ?_; (with_reducible refine (impl_GjEscape.calls k3 (rdOf ByteArray.empty l0 x45_3) t105 _ A17.out).mono ?_); rintro e w19 ⟨rfl, hb⟩; refine ⟨_, rfl, ?_⟩; have n0_ := Aside0.mk (below_step (by repeat (first | (with_reducible first | exact HB.out | apply below_alloc | apply pw_below_drewN | apply below_drew1) | exact HB.out)) hb); clear HB; have HB := n0_; clear n0_; (try clear hb); (try clear hb2); (try clear hk); (try clear hi)))
                                go_roundg k3
                                case measure => have := HK1.out; have := HJ6.out; have := HK3.out; omega
                                case rel => exact ⟨((x6_3 ++ (⟨#[46]⟩ : ByteArray)) ++ t105), (wrap64 (x45_3 + 1)), (by first | rfl | (simp; done) | (simp [*]; done)), (by first | rfl | (simp; done) | (simp [*]; done)), H', ⟨by have := HK1.out; have := HJ6.out; have := HK3.out; omega⟩, ⟨by repeat (first | (with_reducible first | exact HB.out | apply below_alloc | apply pw_below_drewN | apply below_drew1) | exact HB.out)⟩⟩
                              · rw [if_neg c18] at H
                                exact absurd H (by simp)
                            · rw [if_neg c16] at H
                              exact absurd H (by simp)
                          · rw [if_neg c15] at H
                            have c15b0 : decide (0 < x45_3) = false := decide_eq_false c15
                            clear c15
                            replace H := Option.bind_eq_some_iff.mp H
                            obtain ⟨t106, A200, H⟩ := H
                            replace H : (if x6_3.size + t106.size ≤ 9223372036854775807 then (laws_FnGjEscapeOften.l1 k3 l0 (x6_3 ++ t106) l0 (l0.length : Int) (wrap64 (x45_3 + 1))) else (none)) = some r := H
                            have A20 := Aside0.mk A200
                            clear A200
                            by_cases c21 : x6_3.size + t106.size ≤ 9223372036854775807
                            · rw [if_pos c21] at H
                              have c21b0 := eq_true c21
                              have c21b1 : decide (x6_3.size + t106.size ≤ 9223372036854775807) = true := decide_eq_true c21
                              try have c21b2 : (9223372036854775807 < x6_3.size + t106.size) = False := eq_false (Nat.not_lt.2 c21)
                              have H' := Aside0.mk H
                              clear H
                              have p104 : 0 ≤ (x45_3 : Int) := of_decide_eq_true (by first | (with_reducible assumption) | assumption)
                              have q104 : x45_3 < (l0.length : Int) := of_decide_eq_true (by first | (with_reducible assumption) | assumption)
                              obtain ⟨ad104, e104, hx104_0⟩ := Kd.at_string HR0.out x45_3 p104 q104
                              cases e104
                              replace hx104_0 := (HB.out.cell (World.block_lt_of_cell? w _ hx104_0)).trans hx104_0
                              replace p104 := eq_true p104
                              replace q104 := eq_true q104
                              go_wp2_with (first | ((with_reducible refine gate_callee (f := 30) rfl ?_); refine goesL_ (some 56) rfl rfl Tryz.func30 (by kernel_rfl) rfl #[.string (rdOf ByteArray.empty l0 x45_3)] rfl (by (try simp only [List.map_toArray, List.map_cons, List.map_nil]); first | done | rfl | (simp only [List.length_drop, List.length_take]; rfl)) ?_; (with_reducible refine (impl_GjEscape.calls k3 (rdOf ByteArray.empty l0 x45_3) t106 _ A20.out).mono ?_); rintro e w22 ⟨rfl, hb⟩; refine ⟨_, rfl, ?_⟩; have n0_ := Aside0.mk (below_step (by repeat (first | (with_reducible first | exact HB.out | apply below_alloc | apply pw_below_drewN | apply below_drew1) | exact HB.out)) hb); clear HB; have HB := n0_; clear n0_; (try clear hb); (try clear hb2); (try clear hk); (try clear hi)))
                              go_roundg k3
                              case measure => have := HK1.out; have := HJ6.out; have := HK3.out; omega
                              case rel => exact ⟨(x6_3 ++ t106), (wrap64 (x45_3 + 1)), (by first | rfl | (simp; done) | (simp [*]; done)), (by first | rfl | (simp; done) | (simp [*]; done)), H', ⟨by have := HK1.out; have := HJ6.out; have := HK3.out; omega⟩, ⟨by repeat (first | (with_reducible first | exact HB.out | apply below_alloc | apply pw_below_drewN | apply below_drew1) | exact HB.out)⟩⟩
                            · rw [if_neg c21] at H
                              exact absurd H (by simp)
                        · rw [if_neg c14] at H
                          exact absurd H (by simp)
                      · rw [if_neg c13] at H
                        exact absurd H (by simp)
                    · rw [if_neg c12] at H
                      have c12b0 : decide (x45_3 < (l0.length : Int)) = false := decide_eq_false c12
                      clear c12
                      have H' := Aside0.mk H
                      clear H
                      go_wp2
                      (try simp only [Act.put, List.setIfInBounds_toArray, List.set_cons_zero, List.set_cons_succ])
                      go_loopg [6, 61] k3 (fun kq v6 v61 w' => ∃ (x6_4 : ByteArray) (x61_4 : Int), v6 = .string x6_4 ∧ v61 = .int .i64 x61_4 ∧ Aside0 (laws_FnGjEscapeOften.l2 kq l0 x6_4 l0 (l0.length : Int) x61_4 = some r) ∧ Aside0 (kq ≤ k3) ∧ Aside0 (Below w.heap.size w w'))
                      case atStart => exact ⟨(x6_3), (0), (by first | rfl | (simp; done) | (simp [*]; done)), (by first | rfl | (simp; done) | (simp [*]; done)), H', ⟨Nat.le_refl _⟩, ⟨by repeat (first | (with_reducible first | exact HB.out | apply below_alloc | apply pw_below_drewN | apply below_drew1) | exact HB.out)⟩⟩
                      case round =>
                        clear H'
                        try clear c1
                        try clear p1
                        try clear q1
                        try clear hx1
                        try clear c2
                        try clear p2
                        try clear c3
                        try clear c4
                        try clear c4b0
                        try clear c5
                        try clear c5b0
                        try clear c6
                        try clear c6b0
                        try clear p6
                        try clear c7
                        try clear c9
                        try clear c10
                        try clear c10b0
                        try clear c10b1
                        try clear p10
                        try clear q10
                        try clear hx10
                        try clear c11
                        try clear c12
                        try clear c12b0
                        try clear c13
                        try clear c13b0
                        try clear c14
                        try clear c14b0
                        try clear c15
                        try clear c15b0
                        try clear c16
                        try clear c16b0
                        try clear c16b1
                        try clear c16b2
                        try clear c18
                        try clear c18b0
                        try clear c18b1
                        try clear c18b2
                        try clear c21
                        try clear c21b0
                        try clear c21b1
                        try clear c21b2
                        try clear hx102_0
                        try clear hx104_0
                        try clear p1
                        try clear p10
                        try clear p102
                        try clear p104
                        try clear p2
                        try clear p6
                        try clear q1
                        try clear q10
                        try clear q102
                        try clear q104
                        obtain ⟨x6_4, x61_4, rfl, rfl, HA, HK4, HB⟩ := hrel
                        cases gk with
                        | zero => exact absurd HA.out (by simp [laws_FnGjEscapeOften.l2])
                        | succ k4 =>
                          have H := HA.out
                          clear HA
                          simp only [laws_FnGjEscapeOften.l2] at H
                          by_cases c23 : x61_4 < (l0.length : Int)
                          · rw [if_pos c23] at H
                            have c23b0 : decide (x61_4 < (l0.length : Int)) = true := decide_eq_true c23
                            clear c23
                            by_cases c24 : 0 ≤ x61_4
                            · rw [if_pos c24] at H
                              have c24b0 : decide (0 ≤ x61_4) = true := decide_eq_true c24
                              clear c24
                              by_cases c25 : x61_4 < (l0.length : Int)
                              · rw [if_pos c25] at H
                                have c25b0 : decide (x61_4 < (l0.length : Int)) = true := decide_eq_true c25
                                clear c25
                                replace H := Option.bind_eq_some_iff.mp H
                                obtain ⟨⟨t108, t109, t110, t111, t112, t113⟩, A260, H⟩ := H
                                replace H : (if t108.toList = (rdOf ByteArray.empty l0 x61_4).toList then (if t111 = true then (some false) else (if t112 = true then (some false) else (if (t113 != (decide (x61_4 < (wrap64 ((l0.length : Int) - 1))))) = true then (some false) else (laws_FnGjEscapeOften.l2 k4 l0 t109 l0 (l0.length : Int) (wrap64 (x61_4 + 1)))))) else (some false)) = some r := H
                                have A26 := Aside0.mk A260
                                clear A260
                                by_cases c27 : t108.toList = (rdOf ByteArray.empty l0 x61_4).toList
                                · rw [if_pos c27] at H
                                  have c27b0 : (t108.toList == (rdOf ByteArray.empty l0 x61_4).toList) = true := beq_iff_eq.mpr c27
                                  have c27b1 : (t108.toList != (rdOf ByteArray.empty l0 x61_4).toList) = false := bne_eq_false_iff_eq.mpr c27
                                  clear c27
                                  by_cases c28 : t111 = true
                                  · subst c28
                                    have H1 : (some false) = some r := by rw [if_pos rfl] at H; exact H
                                    clear H
                                    have H := H1
                                    clear H1
                                    obtain rfl := Option.some.inj H
                                    have p107 : 0 ≤ (x61_4 : Int) := of_decide_eq_true (by first | (with_reducible assumption) | assumption)
                                    have q107 : x61_4 < (l0.length : Int) := of_decide_eq_true (by first | (with_reducible assumption) | assumption)
                                    obtain ⟨ad107, e107, hx107_0⟩ := Kd.at_string HR0.out x61_4 p107 q107
                                    cases e107
                                    replace hx107_0 := (HB.out.cell (World.block_lt_of_cell? w _ hx107_0)).trans hx107_0
                                    replace p107 := eq_true p107
                                    replace q107 := eq_true q107
                                    go_wp2_with (first | ((with_reducible refine gate_callee (f := 31) rfl ?_); refine goesL_ (some 68) rfl rfl Tryz.func31 (by kernel_rfl) rfl #[.string x6_4] rfl (by (try simp only [List.map_toArray, List.map_cons, List.map_nil]); first | done | rfl | (simp only [List.length_drop, List.length_take]; rfl)) ?_; (with_reducible refine (impl_GjObjectPath.calls k4 x6_4 t108 t109 t110 true t112 t113 _ A26.out).mono ?_); rintro e w29 ⟨rfl, hb⟩; refine ⟨_, rfl, ?_⟩; have n0_ := Aside0.mk (below_step (by repeat (first | (with_reducible first | exact HB.out | apply below_alloc | apply pw_below_drewN | apply below_drew1) | exact HB.out)) hb); clear HB; have HB := n0_; clear n0_; (try clear hb); (try clear hb2); (try clear hk); (try clear hi)))
                                    go_ret
                                    exact ⟨by first | rfl | (simp [errW_none, errW_some] <;> rfl) | (simp [*, errW_none, errW_some] <;> rfl), by repeat (first | (with_reducible first | exact HB.out | apply below_alloc | apply pw_below_drewN | apply below_drew1) | exact HB.out)⟩
                                  · replace c28 := Bool.eq_false_iff.mpr c28
                                    subst c28
                                    have H1 : (if t112 = true then (some false) else (if (t113 != (decide (x61_4 < (wrap64 ((l0.length : Int) - 1))))) = true then (some false) else (laws_FnGjEscapeOften.l2 k4 l0 t109 l0 (l0.length : Int) (wrap64 (x61_4 + 1))))) = some r := by rw [if_neg (show ¬ (false = true) by decide)] at H; exact H
                                    clear H
                                    have H := H1
                                    clear H1
                                    by_cases c30 : t112 = true
                                    · subst c30
                                      have H1 : (some false) = some r := by rw [if_pos rfl] at H; exact H
                                      clear H
                                      have H := H1
                                      clear H1
                                      obtain rfl := Option.some.inj H
                                      have p107 : 0 ≤ (x61_4 : Int) := of_decide_eq_true (by first | (with_reducible assumption) | assumption)
                                      have q107 : x61_4 < (l0.length : Int) := of_decide_eq_true (by first | (with_reducible assumption) | assumption)
                                      obtain ⟨ad107, e107, hx107_0⟩ := Kd.at_string HR0.out x61_4 p107 q107
                                      cases e107
                                      replace hx107_0 := (HB.out.cell (World.block_lt_of_cell? w _ hx107_0)).trans hx107_0
                                      replace p107 := eq_true p107
                                      replace q107 := eq_true q107
                                      go_wp2_with (first | ((with_reducible refine gate_callee (f := 31) rfl ?_); refine goesL_ (some 68) rfl rfl Tryz.func31 (by kernel_rfl) rfl #[.string x6_4] rfl (by (try simp only [List.map_toArray, List.map_cons, List.map_nil]); first | done | rfl | (simp only [List.length_drop, List.length_take]; rfl)) ?_; (with_reducible refine (impl_GjObjectPath.calls k4 x6_4 t108 t109 t110 false true t113 _ A26.out).mono ?_); rintro e w31 ⟨rfl, hb⟩; refine ⟨_, rfl, ?_⟩; have n0_ := Aside0.mk (below_step (by repeat (first | (with_reducible first | exact HB.out | apply below_alloc | apply pw_below_drewN | apply below_drew1) | exact HB.out)) hb); clear HB; have HB := n0_; clear n0_; (try clear hb); (try clear hb2); (try clear hk); (try clear hi)))
                                      go_ret
                                      exact ⟨by first | rfl | (simp [errW_none, errW_some] <;> rfl) | (simp [*, errW_none, errW_some] <;> rfl), by repeat (first | (with_reducible first | exact HB.out | apply below_alloc | apply pw_below_drewN | apply below_drew1) | exact HB.out)⟩
                                    · replace c30 := Bool.eq_false_iff.mpr c30
                                      subst c30
                                      have H1 : (if (t113 != (decide (x61_4 < (wrap64 ((l0.length : Int) - 1))))) = true then (some false) else (laws_FnGjEscapeOften.l2 k4 l0 t109 l0 (l0.length : Int) (wrap64 (x61_4 + 1)))) = some r := by rw [if_neg (show ¬ (false = true) by decide)] at H; exact H
                                      clear H
                                      have H := H1
                                      clear H1
                                      by_cases c32 : (t113 != (decide (x61_4 < (wrap64 ((l0.length : Int) - 1))))) = true
                                      · rw [if_pos c32] at H
                                        have c32b0 : (t113 != (decide (x61_4 < (wrap64 ((l0.length : Int) - 1))))) = true := c32
                                        (try (have c32b1 : decide (t113 = (decide (x61_4 < (wrap64 ((l0.length : Int) - 1))))) = false := by simpa using c32))
                                        (try (have c32b2 : (t113 == (decide (x61_4 < (wrap64 ((l0.length : Int) - 1))))) = false := by simpa using c32))
                                        (try (have c32b3 : ¬ (t113 = (decide (x61_4 < (wrap64 ((l0.length : Int) - 1))))) := by simpa using c32))
                                        clear c32
                                        obtain rfl := Option.some.inj H
                                        have p107 : 0 ≤ (x61_4 : Int) := of_decide_eq_true (by first | (with_reducible assumption) | assumption)
                                        have q107 : x61_4 < (l0.length : Int) := of_decide_eq_true (by first | (with_reducible assumption) | assumption)
                                        obtain ⟨ad107, e107, hx107_0⟩ := Kd.at_string HR0.out x61_4 p107 q107
                                        cases e107
                                        replace hx107_0 := (HB.out.cell (World.block_lt_of_cell? w _ hx107_0)).trans hx107_0
                                        replace p107 := eq_true p107
                                        replace q107 := eq_true q107
                                        go_wp2_with (first | ((with_reducible refine gate_callee (f := 31) rfl ?_); refine goesL_ (some 68) rfl rfl Tryz.func31 (by kernel_rfl) rfl #[.string x6_4] rfl (by (try simp only [List.map_toArray, List.map_cons, List.map_nil]); first | done | rfl | (simp only [List.length_drop, List.length_take]; rfl)) ?_; (with_reducible refine (impl_GjObjectPath.calls k4 x6_4 t108 t109 t110 false false t113 _ A26.out).mono ?_); rintro e w33 ⟨rfl, hb⟩; refine ⟨_, rfl, ?_⟩; have n0_ := Aside0.mk (below_step (by repeat (first | (with_reducible first | exact HB.out | apply below_alloc | apply pw_below_drewN | apply below_drew1) | exact HB.out)) hb); clear HB; have HB := n0_; clear n0_; (try clear hb); (try clear hb2); (try clear hk); (try clear hi)))
                                        go_ret
                                        exact ⟨by first | rfl | (simp [errW_none, errW_some] <;> rfl) | (simp [*, errW_none, errW_some] <;> rfl), by repeat (first | (with_reducible first | exact HB.out | apply below_alloc | apply pw_below_drewN | apply below_drew1) | exact HB.out)⟩
                                      · rw [if_neg c32] at H
                                        have c32b0 : (t113 != (decide (x61_4 < (wrap64 ((l0.length : Int) - 1))))) = false := by simpa using c32
                                        (try (have c32b1 : decide (t113 = (decide (x61_4 < (wrap64 ((l0.length : Int) - 1))))) = true := by simpa using c32))
                                        (try (have c32b2 : (t113 == (decide (x61_4 < (wrap64 ((l0.length : Int) - 1))))) = true := by simpa using c32))
                                        clear c32
                                        have H' := Aside0.mk H
                                        clear H
                                        have p107 : 0 ≤ (x61_4 : Int) := of_decide_eq_true (by first | (with_reducible assumption) | assumption)
                                        have q107 : x61_4 < (l0.length : Int) := of_decide_eq_true (by first | (with_reducible assumption) | assumption)
                                        obtain ⟨ad107, e107, hx107_0⟩ := Kd.at_string HR0.out x61_4 p107 q107
                                        cases e107
                                        replace hx107_0 := (HB.out.cell (World.block_lt_of_cell? w _ hx107_0)).trans hx107_0
                                        replace p107 := eq_true p107
                                        replace q107 := eq_true q107
                                        go_wp2_with (first | ((with_reducible refine gate_callee (f := 31) rfl ?_); refine goesL_ (some 68) rfl rfl Tryz.func31 (by kernel_rfl) rfl #[.string x6_4] rfl (by (try simp only [List.map_toArray, List.map_cons, List.map_nil]); first | done | rfl | (simp only [List.length_drop, List.length_take]; rfl)) ?_; (with_reducible refine (impl_GjObjectPath.calls k4 x6_4 t108 t109 t110 false false t113 _ A26.out).mono ?_); rintro e w34 ⟨rfl, hb⟩; refine ⟨_, rfl, ?_⟩; have n0_ := Aside0.mk (below_step (by repeat (first | (with_reducible first | exact HB.out | apply below_alloc | apply pw_below_drewN | apply below_drew1) | exact HB.out)) hb); clear HB; have HB := n0_; clear n0_; (try clear hb); (try clear hb2); (try clear hk); (try clear hi)))
                                        go_roundg k4
                                        case measure => have := HK1.out; have := HJ6.out; have := HK3.out; have := HK4.out; omega
                                        case rel => exact ⟨(t109), (wrap64 (x61_4 + 1)), (by first | rfl | (simp; done) | (simp [*]; done)), (by first | rfl | (simp; done) | (simp [*]; done)), H', ⟨by have := HK1.out; have := HJ6.out; have := HK3.out; have := HK4.out; omega⟩, ⟨by repeat (first | (with_reducible first | exact HB.out | apply below_alloc | apply pw_below_drewN | apply below_drew1) | exact HB.out)⟩⟩
                                · rw [if_neg c27] at H
                                  have c27b0 : (t108.toList == (rdOf ByteArray.empty l0 x61_4).toList) = false := beq_eq_false_iff_ne.mpr c27
                                  have c27b1 : (t108.toList != (rdOf ByteArray.empty l0 x61_4).toList) = true := bne_iff_ne.mpr c27
                                  obtain rfl := Option.some.inj H
                                  have p107 : 0 ≤ (x61_4 : Int) := of_decide_eq_true (by first | (with_reducible assumption) | assumption)
                                  have q107 : x61_4 < (l0.length : Int) := of_decide_eq_true (by first | (with_reducible assumption) | assumption)
                                  obtain ⟨ad107, e107, hx107_0⟩ := Kd.at_string HR0.out x61_4 p107 q107
                                  cases e107
                                  replace hx107_0 := (HB.out.cell (World.block_lt_of_cell? w _ hx107_0)).trans hx107_0
                                  replace p107 := eq_true p107
                                  replace q107 := eq_true q107
                                  go_wp2_with (first | ((with_reducible refine gate_callee (f := 31) rfl ?_); refine goesL_ (some 68) rfl rfl Tryz.func31 (by kernel_rfl) rfl #[.string x6_4] rfl (by (try simp only [List.map_toArray, List.map_cons, List.map_nil]); first | done | rfl | (simp only [List.length_drop, List.length_take]; rfl)) ?_; (with_reducible refine (impl_GjObjectPath.calls k4 x6_4 t108 t109 t110 t111 t112 t113 _ A26.out).mono ?_); rintro e w35 ⟨rfl, hb⟩; refine ⟨_, rfl, ?_⟩; have n0_ := Aside0.mk (below_step (by repeat (first | (with_reducible first | exact HB.out | apply below_alloc | apply pw_below_drewN | apply below_drew1) | exact HB.out)) hb); clear HB; have HB := n0_; clear n0_; (try clear hb); (try clear hb2); (try clear hk); (try clear hi)))
                                  go_ret
                                  exact ⟨by first | rfl | (simp [errW_none, errW_some] <;> rfl) | (simp [*, errW_none, errW_some] <;> rfl), by repeat (first | (with_reducible first | exact HB.out | apply below_alloc | apply pw_below_drewN | apply below_drew1) | exact HB.out)⟩
                              · rw [if_neg c25] at H
                                exact absurd H (by simp)
                            · rw [if_neg c24] at H
                              exact absurd H (by simp)
                          · rw [if_neg c23] at H
                            have c23b0 : decide (x61_4 < (l0.length : Int)) = false := decide_eq_false c23
                            clear c23
                            obtain rfl := Option.some.inj H
                            go_wp2
                            go_ret
                            exact ⟨by first | rfl | (simp [errW_none, errW_some] <;> rfl) | (simp [*, errW_none, errW_some] <;> rfl), by repeat (first | (with_reducible first | exact HB.out | apply below_alloc | apply pw_below_drewN | apply below_drew1) | exact HB.out)⟩
  · replace c3 := Bool.eq_false_iff.mpr c3
    subst c3
    have H1 : (some true) = some r := by rw [if_neg (show ¬ (false = true) by decide)] at H; exact H
    clear H
    have H := H1
    clear H1
    obtain rfl := Option.some.inj H
    go_enter Tryz.func7, Tryz.ntmps7
    go_wp2_with (first | ((with_reducible refine gate_callee (f := 18) rfl ?_); refine goesL_ (some 18) rfl rfl Tryz.func18 (by kernel_rfl) rfl #[.slice A0 l0.length c0] rfl (by (try simp only [List.map_toArray, List.map_cons, List.map_nil]); first | done | rfl | (simp only [List.length_drop, List.length_take]; rfl)) ?_; (with_reducible refine (laws_zzFits1.calls k _ _ l0 false _ ?side1 ?side2 A2.out).mono ?_); (case side1 => repeat (first | exact HR0.out | (with_reducible refine Kd.C_alloc ?_ _) | (with_reducible refine Kd.C_drewN ?_ _) | (with_reducible refine Kd.C_drew ?_))); (case side2 => exact HC0.out); rintro e w' ⟨rfl, ⟨nd, rfl⟩⟩; refine ⟨_, rfl, ?_⟩))
    go_ret
    exact ⟨by first | rfl | (simp [errW_none, errW_some] <;> rfl) | (simp [*, errW_none, errW_some] <;> rfl), by repeat (first | (with_reducible first | exact HB.out | apply below_alloc | apply pw_below_drewN | apply below_drew1) | exact HB.out)⟩

end Go.Proofs.YtoejpgjanoideaaGreatDoor.F
