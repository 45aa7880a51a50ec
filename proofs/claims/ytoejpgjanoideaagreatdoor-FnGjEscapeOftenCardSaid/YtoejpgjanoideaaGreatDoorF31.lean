-- pub-tetrapla/impl.GjObjectPath (written by a program of this session over the kit's print)
import Derived.Test.YtoejpgjanoideaaGreatDoorFK
import Derived.Test.YtoejpgjanoideaaGreatDoorF56
namespace Go.Proofs.YtoejpgjanoideaaGreatDoor.F
open Go.RowKit Go.Proofs.YtoejpgjanoideaaGreatDoorW.PrintWords Go.Proofs.YtoejpgjanoideaaGreatDoorW.PrintLast Go.Proofs.YtoejpgjanoideaaGreatDoorW.PrintMore
attribute [local go_sem] max2_int min2_int max_two min_two max_three min_three max_four min_four
set_option linter.unusedVariables false
set_option linter.unusedSimpArgs false

/-! ### impl_GjObjectPath: function 31 -/
def impl_GjObjectPath.f (k : Nat) (a0 : ByteArray) : Option (ByteArray × ByteArray × ByteArray × Bool × Bool × Bool) := (gjson_DoorObjectPath.f k a0).bind fun bt101 => (some (bt101.1, bt101.2.1, bt101.2.2.1, bt101.2.2.2.1, bt101.2.2.2.2.1, bt101.2.2.2.2.2))
theorem impl_GjObjectPath.mono : ∀ a0 k, LeO (impl_GjObjectPath.f k a0) (impl_GjObjectPath.f (k + 1) a0) := by
  intro a0 k
  unfold impl_GjObjectPath.f
  repeat' first
      | (with_reducible exact gjson_DoorObjectPath.mono _ _)
      | (with_reducible exact LeO.refl _)
      | (with_reducible exact LeO.none _)
      | (with_reducible refine LeO.ite ?_ ?_)
      | (with_reducible refine LeO.bind ?_ (fun _ => ?_))
      | exact gjson_DoorObjectPath.mono _ _
      | exact LeO.none _
      | refine LeO.ite ?_ ?_
      | refine LeO.bind ?_ (fun _ => ?_)
set_option maxHeartbeats 8000000 in
set_option maxRecDepth 100000 in
theorem impl_GjObjectPath.calls (k : Nat) (a0 : ByteArray) (r1 : ByteArray) (r2 : ByteArray) (r3 : ByteArray) (r4 : Bool) (r5 : Bool) (r6 : Bool) (w : World) (h : impl_GjObjectPath.f k a0 = some (r1, r2, r3, r4, r5, r6)) :
    Calls Tryz.prog 31 #[.string a0] w fun e w' => e = .returned (.tuple #[.string r1, .string r2, .string r3, .bool r4, .bool r5, .bool r6]) ∧ Below w.heap.size w w' := by
  have HB := Aside0.mk (Below.refl w.heap.size w)
  have H : ((gjson_DoorObjectPath.f k a0).bind fun bt101 => (some (bt101.1, bt101.2.1, bt101.2.2.1, bt101.2.2.2.1, bt101.2.2.2.2.1, bt101.2.2.2.2.2))) = some (r1, r2, r3, r4, r5, r6) := h
  clear h
  replace H := Option.bind_eq_some_iff.mp H
  obtain ⟨⟨t101, t102, t103, t104, t105, t106⟩, A20, H⟩ := H
  replace H : (some (t101, t102, t103, t104, t105, t106)) = some (r1, r2, r3, r4, r5, r6) := H
  have A2 := Aside0.mk A20
  clear A20
  simp only [Option.some.injEq, Prod.mk.injEq] at H
  obtain ⟨rfl, rfl, rfl, rfl, rfl, rfl⟩ := H
  go_enter Tryz.func31, Tryz.ntmps31
  go_wp2_with (first | ((with_reducible refine gate_callee (f := 56) rfl ?_); refine goesL_ (some 9) rfl rfl Tryz.func56 (by kernel_rfl) rfl #[.string a0] rfl (by (try simp only [List.map_toArray, List.map_cons, List.map_nil]); first | done | rfl | (simp only [List.length_drop, List.length_take]; rfl)) ?_; (with_reducible refine (gjson_DoorObjectPath.calls k a0 t101 t102 t103 t104 t105 t106 _ A2.out).mono ?_); rintro e w3 ⟨rfl, hb⟩; refine ⟨_, rfl, ?_⟩; have n0_ := Aside0.mk (below_step (by repeat (first | (with_reducible first | exact HB.out | apply below_alloc | apply pw_below_drewN | apply below_drew1) | exact HB.out)) hb); clear HB; have HB := n0_; clear n0_; (try clear hb); (try clear hb2); (try clear hk); (try clear hi)))
  refine bodyPost_ret (results_list (rs := [.tmp 2, .tmp 3, .tmp 4, .tmp 5, .tmp 6, .tmp 7]) rfl (by simp) (.tmp (.tmp (.tmp (.tmp (.tmp (.tmp .nil))))))) rfl ?_
  exact ⟨by first | rfl | (simp [errW_none, errW_some] <;> rfl) | (simp [*, errW_none, errW_some] <;> rfl), by repeat (first | (with_reducible first | exact HB.out | apply below_alloc | apply pw_below_drewN | apply below_drew1) | exact HB.out)⟩

end Go.Proofs.YtoejpgjanoideaaGreatDoor.F
