/- gjson.isDotPiperChar, where the text does not begin with an at sign: whether it begins with a bracket or a brace. -/
import Derived.Test.YtoejpgjanoideaaGreatDoorFK
namespace Go.Proofs.YtoejpgjanoideaaGreatDoor.F
open Go.RowKit Go.Proofs.YtoejpgjanoideaaGreatDoorW.PrintWords Go.Proofs.YtoejpgjanoideaaGreatDoorW.PrintLast Go.Proofs.YtoejpgjanoideaaGreatDoorW.PrintMore

def gjson_isDotPiperChar.f (a0 : ByteArray) : Option Bool :=
  if 0 < a0.size then (if bt a0 0 = 64 then none else some (if bt a0 0 = 91 then true else decide (bt a0 0 = 123))) else none

set_option maxHeartbeats 1000000 in
theorem gjson_isDotPiperChar.same (a0 : ByteArray) (r : Bool) (w : World) (h : gjson_isDotPiperChar.f a0 = some r) :
    Calls Tryz.prog 116 #[.string a0] w fun e w' => e = .returned (.bool r) ∧ w = w' := by
  unfold gjson_isDotPiperChar.f at h
  by_cases h0 : 0 < a0.size
  · rw [if_pos h0] at h
    by_cases h1 : bt a0 0 = 64
    · rw [if_pos h1] at h; exact absurd h (by simp)
    · rw [if_neg h1] at h
      have hb := bt_at a0 0
      have h1' : (bt a0 0 == 64) = false := by simpa using h1
      simp only [Int.toNat_zero] at hb
      have hbb : ((a0[0]'h0).toNat : Int) = bt a0 0 := hb h0
      by_cases h2 : bt a0 0 = 91
      · rw [if_pos h2] at h
        obtain rfl := Option.some.inj h
        have h2' : (bt a0 0 == 91) = true := by simpa using h2
        clear h h1 h2
        go_enter Tryz.func116, Tryz.ntmps116
        go_wp2
        go_ret
        exact ⟨rfl, rfl⟩
      · rw [if_neg h2] at h
        obtain rfl := Option.some.inj h
        have h2' : (bt a0 0 == 91) = false := by simpa using h2
        clear h h1 h2
        go_enter Tryz.func116, Tryz.ntmps116
        go_wp2
        go_ret
        exact ⟨rfl, rfl⟩
  · rw [if_neg h0] at h; exact absurd h (by simp)
theorem gjson_isDotPiperChar.calls (a0 : ByteArray) (r : Bool) (w : World) (h : gjson_isDotPiperChar.f a0 = some r) :
    Calls Tryz.prog 116 #[.string a0] w fun e w' => e = .returned (.bool r) ∧ Drawn0 w w' :=
  (gjson_isDotPiperChar.same a0 r w h).mono fun _ _ ⟨he, hw⟩ => ⟨he, hw ▸ Drawn0.refl w⟩
end Go.Proofs.YtoejpgjanoideaaGreatDoor.F
