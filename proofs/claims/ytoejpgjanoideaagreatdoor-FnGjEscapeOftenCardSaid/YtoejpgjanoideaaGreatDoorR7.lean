/- The row and the card of 'laws.FnGjEscapeOften'. -/
import Derived.Test.YtoejpgjanoideaaGreatDoorLaid
import Derived.Test.YtoejpgjanoideaaGreatDoorL7
import Derived.Test.YtoejpgjanoideaaGreatDoorJ7
namespace Go.Proofs.YtoejpgjanoideaaGreatDoor.F
open Go.ChangeShapes Go.WideShapes Go.ChangeAt Go.RowKit Go.Proofs.YtoejpgjanoideaaGreatDoorW.PrintWords Go.Proofs.YtoejpgjanoideaaGreatDoorW.PrintLast Go.Proofs.YtoejpgjanoideaaGreatDoorW.PrintMore

theorem cells9 : Tryz.prog.cellsOf 9 = 1 := by kernel_rfl

theorem strings_C {W : World} (a : Addr) (len : Nat) (ss : List ByteArray) (hl : len ≤ ss.length) (hm : len ≤ maxLen) (hcell : ∀ i, i < ss.length → W.cell? (a.add i) = some (.string (ss.getD i ByteArray.empty))) :
    Kd.C Kd.string W (some a) (ss.take len).length (ss.take len) := by
  have hlen : (ss.take len).length = len := by rw [List.length_take]; omega
  refine ⟨rfl, by rw [hlen]; unfold maxLen at hm; omega, fun _ => ⟨a, rfl, fun j p hj => ⟨[.string p], rfl, rfl, fun i u hi => ?_⟩⟩⟩
  have hjl := (List.getElem?_eq_some_iff.1 hj).1
  rw [hlen] at hjl
  have hi0 : i = 0 := by have := (List.getElem?_eq_some_iff.1 hi).1; simpa using this
  subst hi0
  have hu : u = .string p := by simpa using hi.symm
  subst hu
  have h1 := hcell j (by omega)
  have h2 : ss.getD j ByteArray.empty = p := by
    rw [List.getElem?_take] at hj
    rw [if_pos hjl] at hj
    simp [List.getD, hj]
  rw [h2] at h1
  rw [show j * Kd.string.sz + 0 = j from Nat.mul_one j]
  exact h1

theorem law7 (A : Option Addr) (c : Nat) (l : List ByteArray) (w : World) (hr : Kd.C Kd.string w A l.length l) (hc : l.length ≤ c) :
    Calls Tryz.prog 7 #[.slice A l.length c] w fun e w' => e = .returned (.bool true) ∧ Below w.heap.size w w' := by
  obtain ⟨k, hk⟩ := law_is l
  exact laws_FnGjEscapeOften.calls k A c l true w hr hc hk

set_option maxRecDepth 100000 in
theorem contract7 (H : Type) (enc : TypeId × Value → H) (W : World) (base : Nat) (args : Array Value) (ds gs : List (DataW H)) (before : List MemPlace)
    (hval : ∀ (j : Nat) t v, Tryz.f7.params[j]? = some t → args[j]? = some v → Value.okWide Tryz.prog W .any base t v)
    (hW : DataW.Whole enc Tryz.prog Tryz.f7.params.toList Rows.fnGjEscapeOftenSpec.vars false W args.toList ds gs before) :
    Calls Tryz.prog 7 args W fun e W' => ∃ v, e = .returned v ∧ Rows.fnGjEscapeOftenSpec.post enc Tryz.prog Tryz.f7 false true false false W args v W' := by
  have hW' := hW
  obtain ⟨p, q, hA0, hV, rfl, hfz, hnd⟩ := hW
  have hA : DataW.TrodAll enc Tryz.prog W 0 (fun _ => true) true Tryz.f7.params.toList args.toList ds p := hA0
  rw [show Tryz.f7.params = #[22] from rfl] at hA hval
  obtain ⟨v0, vs0, d0, ds0, p0, q0, hargs, rfl, rfl, h0, r0⟩ := trodAll_cons hA
  obtain ⟨rfl, rfl, rfl⟩ := trodAll_nil r0
  obtain rfl : args = #[v0] := by cases args; simp_all
  obtain ⟨rfl, rfl⟩ := trodVars_none hV
  clear hA0
  simp only [List.append_nil] at hW' hA
  have fin : ∀ W', Below W.heap.size W W' → ∃ v, Ending.returned (Value.bool true) = .returned v ∧ Rows.fnGjEscapeOftenSpec.post enc Tryz.prog Tryz.f7 false true false false W #[v0] v W' := by
    intro W' hB
    refine ⟨_, rfl, [d0], [], p0, [], p0, [], hW', ?_, ?_, rfl, hB.frame _, fun h => by cases h⟩
    · exact trodAll_cons_mk (shut_bool Tryz.underlying4 _) trodAll_mk0
    · have := Below.trod laidOut (by kernel_rfl) (of_decide_eq_true (by kernel_rfl)) h0 hB (fun x hx => hW'.lt x hx)
      exact trodAll_mk1 this
  obtain ⟨a1, len, cap, rfl⟩ := okWide_slice Tryz.underlying22 (hval 0 22 v0 rfl rfl)
  obtain ⟨fuel, hf⟩ := h0
  rcases open_strings Tryz.underlying22 Tryz.underlying9 cells9 hf with ⟨hcs, hx⟩ | ⟨a, len', cap', ss, hcs, _, hl, hm, hz, hx, hcell, hws⟩
  · simp [Value.cells] at hcs
    obtain ⟨rfl, rfl, rfl⟩ := hcs
    have hr : Kd.C Kd.string W none ([] : List ByteArray).length [] := ⟨rfl, Nat.zero_le _, fun h => absurd h (Nat.lt_irrefl _)⟩
    refine (law7 none 0 [] W hr (Nat.le_refl _)).mono fun e W' ⟨he, hB⟩ => ?_
    subst he
    exact fin W' hB
  · simp [Value.cells] at hcs
    obtain ⟨rfl, rfl, rfl⟩ := hcs
    simp only [if_true] at hz
    have hlen : (ss.take len).length = len := by rw [List.length_take]; omega
    have hr := strings_C a len ss (by omega) (by omega) hcell
    have := law7 (some a) cap (ss.take len) W hr (by omega)
    rw [hlen] at this
    refine this.mono fun e W' ⟨he, hB⟩ => ?_
    subst he
    exact fin W' hB

set_option maxRecDepth 100000 in
theorem reads7 (os : Os) {H : Type} (enc : TypeId × Value → H) : ∃ places, DataW.whole enc Tryz.prog (mem os #[.slice none 0 0]) Tryz.f7.params.toList Rows.fnGjEscapeOftenSpec.vars false #[Value.slice none 0 0].toList 8 = some ([.nil], [], places) :=
  ⟨[], by kernel_rfl⟩
set_option maxRecDepth 100000 in
theorem okWide7 (os : Os) : Input.okWideB Tryz.prog ((World.laidAll Tryz.prog os laidList).forCall (fun _ _ => 0) ⟨#[], #[.slice none 0 0], []⟩) 7 ⟨#[], #[.slice none 0 0], []⟩ = true := by kernel_rfl

set_option maxRecDepth 100000 in
theorem lifted7 (os : Os) (started : os.Started) (H : Type) (enc : TypeId × Value → H) (F : Stop.Interp) :
    ReturnsInHanded {} Tryz.checked os 7 .any ((OpenSpec.ofChange Rows.fnGjEscapeOftenSpec).preRow enc Tryz.prog Tryz.f7 Rows.fnGjEscapeOftenRow.domain false Rows.fnGjEscapeOftenRow.laid) (((OpenSpec.ofChange Rows.fnGjEscapeOftenSpec).at F).post enc Tryz.prog Tryz.f7 false true false false) := by
  obtain ⟨places, hx⟩ := reads7 os enc
  refine returnsInHanded_of_row (C := Tryz.checked) (s := OpenSpec.ofChange Rows.fnGjEscapeOftenSpec) own started (by kernel_rfl) Tryz.func7
    (witness_laid (enc := enc) #[.slice none 0 0] (okWide7 os) (OpenSpec.preRow_of_cond 8 hx (by kernel_rfl) (fun k hk => by cases hk) (by kernel_rfl) (laid_met os _))) ?_
  intro W base args ds gs before hval hW _ _ _ _ _ _
  exact contract7 H enc W base args ds gs before hval hW

theorem said7 : Rows.FnGjEscapeOftenSaid :=
  OpenClaim.holds_of_cond 7 Tryz.f7 rfl rfl rfl rfl rfl rfl rfl ⟨rfl, rfl, rfl, rfl, rfl⟩ rfl rfl rfl rfl rfl (by kernel_rfl) Tryz.func7 closed7
    (of_decide_eq_true (by kernel_rfl)) (by unfold Func.isWrapper; first | (rw [if_pos (by decide +kernel)]; kernel_rfl) | (rw [if_neg (by decide +kernel)]; exact ⟨rfl, rfl⟩))
    (fun os started H enc _ F => by rw [OpenClaim.pre_eq_preRow]; exact lifted7 os started H enc F)

theorem plain7 (f : FuncId) (fn : Func) (hf : Tryz.pinned.checked.prog.funcNamed "pub-tetrapla/laws.FnGjEscapeOften" = some f) (hfn : Tryz.pinned.checked.prog.funcs[f]? = some fn) :
    true = Tryz.pinned.checked.prog.looks [] ∧ ∀ (j : Nat) t, fn.params[j]? = some t → Tryz.pinned.checked.prog.wantsStandIn t = false := by
  obtain rfl : f = 7 := Option.some.inj ((show Tryz.prog.funcNamed "pub-tetrapla/laws.FnGjEscapeOften" = some 7 by kernel_rfl).symm.trans hf) |>.symm
  obtain rfl : fn = Tryz.f7 := (Option.some.inj (Tryz.func7.symm.trans hfn)).symm
  refine ⟨by kernel_rfl, fun j t ht => ?_⟩
  rw [show Tryz.f7.params = #[22] from rfl] at ht
  obtain rfl : t = 22 := by simpa using Array.mem_of_getElem? ht
  exact (show Tryz.prog.wantsStandIn 22 = false by kernel_rfl)

theorem card7 : Rows.FnGjEscapeOftenCardSaid :=
  Claim7.holds_tied_plain_at .later [] _ _ _ _ said7 (fun _ h => by cases h) (by kernel_rfl) (fun _ h => by cases h) fnGjEscapeOften_row_tie rfl ⟨rfl, rfl⟩ (by kernel_rfl) rfl plain7 (by kernel_rfl)
end Go.Proofs.YtoejpgjanoideaaGreatDoor.F
