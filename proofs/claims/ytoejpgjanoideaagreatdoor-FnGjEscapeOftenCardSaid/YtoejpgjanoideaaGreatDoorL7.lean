/- FnGjEscapeOften answers true, whatever the keys. -/
import Derived.Test.YtoejpgjanoideaaGreatDoorF7
import Derived.Test.YtoejpgjanoideaaGreatDoorL7a
set_option linter.unusedSimpArgs false
set_option linter.unusedVariables false
namespace Go.Proofs.YtoejpgjanoideaaGreatDoor.F
open Go.RowKit Go.Proofs.YtoejpgjanoideaaGreatDoorW.PrintWords Go.Proofs.YtoejpgjanoideaaGreatDoorW.PrintLast Go.Proofs.YtoejpgjanoideaaGreatDoorW.PrintMore

theorem fuel_up {α : Type} {f : Nat → Option α} (h : ∀ k, LeO (f k) (f (k + 1))) {k : Nat} {r : α} (hk : f k = some r) : ∀ {m : Nat}, k ≤ m → f m = some r := by
  intro m hm
  obtain ⟨d, rfl⟩ := Nat.exists_eq_add_of_le hm
  induction d with
  | zero => exact hk
  | succ d ih => exact h (k + d) _ (ih (by omega))
theorem wrap_nat (i : Nat) (h : i < 9223372036854775807) : wrap64 ((i : Int) + 1) = ((i + 1 : Nat) : Int) := by unfold wrap64; omega
theorem rd_nat (d : ByteArray) (xs : List ByteArray) (i : Nat) (h : i < xs.length) : rdOf d xs (i : Int) = xs[i] := by
  unfold rdOf
  rw [Int.toNat_natCast]
  simp [List.getD, List.getElem?_eq_getElem h]

theorem fits_is (xs : List ByteArray) (hn : xs.length ≤ 2147483647) : ∀ (d i : Nat), xs.length - i = d → i ≤ xs.length →
    ∃ b, laws_zzFits1.l0 (d + 1) xs xs.length i = some b ∧ (b = true → ∀ j (hj : j < xs.length), i ≤ j → xs[j].size ≤ 2147483647)
  | 0, i, hd, hi => by
    refine ⟨true, ?_, fun _ j hj hij => by omega⟩
    unfold laws_zzFits1.l0
    rw [if_neg (by omega)]
  | d + 1, i, hd, hi => by
    have hlt : i < xs.length := by omega
    unfold laws_zzFits1.l0
    rw [if_pos (by omega), if_pos (by omega), if_pos (by omega), rd_nat _ _ _ hlt, wrap_nat i (by omega)]
    by_cases hz : (xs[i].size : Int) > 2147483647
    · rw [if_pos hz]; exact ⟨false, rfl, fun h => by cases h⟩
    · rw [if_neg hz]
      obtain ⟨b, hb, h⟩ := fits_is xs hn d (i + 1) (by omega) (by omega)
      refine ⟨b, hb, fun hbt j hj hij => ?_⟩
      rcases Nat.lt_or_ge i j with hlt2 | hge
      · exact h hbt j hj hlt2
      · obtain rfl : j = i := by omega
        omega
theorem rest_is (xs : List ByteArray) (hn : xs.length ≤ 2147483647) : ∀ (d i : Nat), xs.length - i = d → i ≤ xs.length →
    ∃ b, laws_gjRest.l0 (d + 1) xs xs xs.length i = some b ∧ (b = true → ∀ j (hj : j < xs.length), i ≤ j → bytesOf xs[j] ≠ [])
  | 0, i, hd, hi => by
    refine ⟨decide ((xs.length : Int) > 0), ?_, fun _ j hj hij => by omega⟩
    unfold laws_gjRest.l0
    rw [if_neg (by omega)]
  | d + 1, i, hd, hi => by
    have hlt : i < xs.length := by omega
    unfold laws_gjRest.l0
    rw [if_pos (by omega), if_pos (by omega), if_pos (by omega), rd_nat _ _ _ hlt, wrap_nat i (by omega)]
    by_cases hz : (xs[i].toList).isEmpty = true
    · rw [if_pos hz]; exact ⟨false, rfl, fun h => by cases h⟩
    · rw [if_neg hz]
      obtain ⟨b, hb, h⟩ := rest_is xs hn d (i + 1) (by omega) (by omega)
      refine ⟨b, hb, fun hbt j hj hij => ?_⟩
      rcases Nat.lt_or_ge i j with hlt2 | hge
      · exact h hbt j hj hlt2
      · obtain rfl : j = i := by omega
        intro h0
        apply hz
        have h1 : xs[j].size = 0 := by rw [← bytesOf_length, h0]; rfl
        rw [Lib.toList_data]
        have h2 : xs[j].data.toList.length = 0 := h1
        rw [List.isEmpty_iff]
        exact List.length_eq_zero_iff.1 h2

/-! The path of many keys -/
def Pth : List ByteArray → List Int
  | [] => []
  | [x] => Ex (bytesOf x)
  | x :: y :: r => Ex (bytesOf x) ++ 46 :: Pth (y :: r)
theorem Pth_range : ∀ (xs : List ByteArray), ∀ c ∈ Pth xs, 0 ≤ c ∧ c ≤ 255
  | [] => by simp [Pth]
  | [x] => Ex_range _ (bytesOf_range x)
  | x :: y :: r => by
    intro c hc
    simp only [Pth, List.mem_append, List.mem_cons] at hc
    rcases hc with hc | rfl | hc
    · exact Ex_range _ (bytesOf_range x) c hc
    · omega
    · exact Pth_range (y :: r) c hc
theorem Pth_snoc (x : ByteArray) : ∀ (xs : List ByteArray), xs ≠ [] → Pth (xs ++ [x]) = Pth xs ++ 46 :: Ex (bytesOf x)
  | [], h => absurd rfl h
  | [y], _ => by simp [Pth]
  | y :: z :: r, _ => by
    have ih := Pth_snoc x (z :: r) (by simp)
    simp only [List.cons_append] at ih ⊢
    simp only [Pth]
    rw [ih]
    simp
theorem Ex_head (xs : List Int) (h : xs ≠ []) : ∃ c r, Ex xs = c :: r ∧ c ≠ 64 ∧ c ≠ 91 ∧ c ≠ 123 := by
  cases xs with
  | nil => exact absurd rfl h
  | cons c xs =>
    rw [Ex_cons]
    by_cases hs : Safe c = true
    · obtain ⟨_, _, _, _, _, n6, n7, n8⟩ := safe_ne hs
      rw [if_pos hs]
      exact ⟨c, _, rfl, n6, n7, n8⟩
    · rw [if_neg hs]
      exact ⟨92, _, rfl, by decide, by decide, by decide⟩
theorem Pth_head (y : ByteArray) (r : List ByteArray) (h : bytesOf y ≠ []) : ∃ c t, Pth (y :: r) = c :: t ∧ c ≠ 64 ∧ c ≠ 91 ∧ c ≠ 123 := by
  obtain ⟨c, t, hc, h1, h2, h3⟩ := Ex_head _ h
  cases r with
  | nil => exact ⟨c, t, hc, h1, h2, h3⟩
  | cons z r => exact ⟨c, t ++ 46 :: Pth (z :: r), by simp only [Pth]; rw [hc]; rfl, h1, h2, h3⟩

/-- The reading loop. -/
theorem read_is (xs : List ByteArray) (M : Nat) (hn : xs.length ≤ 64) (hM : ∀ j (hj : j < xs.length), xs[j].size + 2 ≤ M) (hne : ∀ j (hj : j < xs.length), bytesOf xs[j] ≠ []) :
    ∀ (d i : Nat) (p : ByteArray), xs.length - i = d → i ≤ xs.length → p.size ≤ 70368744177664 → bytesOf p = Pth (xs.drop i) → laws_FnGjEscapeOften.l2 (d + M + 1) xs p xs xs.length i = some true
  | 0, i, p, hd, hi, hs, hp => by
    unfold laws_FnGjEscapeOften.l2
    rw [if_neg (by omega)]
  | d + 1, i, p, hd, hi, hs, hp => by
    have hlt : i < xs.length := by omega
    rw [show d + 1 + M + 1 = (d + M + 1) + 1 from by omega]
    unfold laws_FnGjEscapeOften.l2
    rw [if_pos (by omega), if_pos (by omega), if_pos (by omega), rd_nat _ _ _ hlt, wrap_nat i (by omega)]
    have hdr := List.drop_eq_getElem_cons hlt
    have hobj : ∀ tail, Behind tail → bytesOf p = Ex (bytesOf xs[i]) ++ tail → impl_GjObjectPath.f (d + M + 1) p = some (readAs xs[i] tail) := by
      intro tail ht hb
      have h1 := path_is p hs xs[i] tail ht hb
      have h2 := fuel_up (f := fun k => gjson_parseObjectPath.f k p) (gjson_parseObjectPath.mono p) h1 (m := d + M + 1) (by have := hM i hlt; omega)
      unfold impl_GjObjectPath.f gjson_DoorObjectPath.f
      rw [h2]
      rfl
    by_cases hl : i + 1 < xs.length
    · have hdr2 := List.drop_eq_getElem_cons hl
      have hb : bytesOf p = Ex (bytesOf xs[i]) ++ 46 :: Pth (xs.drop (i + 1)) := by rw [hp, hdr, hdr2]; rfl
      obtain ⟨c, t, hct, n1, n2, n3⟩ := Pth_head xs[i + 1] (xs.drop (i + 1 + 1)) (hne _ hl)
      rw [← hdr2] at hct
      have ho := hobj (46 :: Pth (xs.drop (i + 1))) (by rw [hct]; exact Behind.dot c t n1 n2 n3) hb
      rw [ho]
      simp only [Option.bind_some, readAs, List.isEmpty_cons, Bool.not_false, List.tail_cons, if_true, Bool.false_eq_true, if_false]
      have hw : decide ((i : Int) < wrap64 ((xs.length : Int) - 1)) = true := by unfold wrap64; rw [decide_eq_true_eq]; omega
      rw [hw]
      simp only [bne_self_eq_false, Bool.false_eq_true, if_false]
      have hlen : (Pth (xs.drop (i + 1))).length ≤ p.size := by rw [← bytesOf_length p, hb]; simp; omega
      exact read_is xs M hn hM hne d (i + 1) _ (by omega) (by omega) (by rw [strOfNums_size]; omega) (bytesOf_strOfNums _ (Pth_range _))
    · have hdr2 : xs.drop (i + 1) = [] := List.drop_eq_nil_of_le (by omega)
      have hb : bytesOf p = Ex (bytesOf xs[i]) ++ [] := by rw [hp, hdr, hdr2, List.append_nil]; rfl
      have ho := hobj [] Behind.done hb
      rw [ho]
      simp only [Option.bind_some, readAs, List.isEmpty_nil, Bool.not_true, List.tail_nil, if_true, Bool.false_eq_true, if_false]
      have hw : decide ((i : Int) < wrap64 ((xs.length : Int) - 1)) = false := by unfold wrap64; rw [decide_eq_false_iff_not]; omega
      rw [hw]
      simp only [bne_self_eq_false, Bool.false_eq_true, if_false]
      exact read_is xs M hn hM hne d (i + 1) _ (by omega) (by omega) (by rw [strOfNums_size]; simp) (by rw [hdr2]; rfl)

/-- The writing loop. -/
theorem write_is (xs : List ByteArray) (M : Nat) (hn : xs.length ≤ 64) (hM : ∀ j (hj : j < xs.length), xs[j].size + 2 ≤ M) (hz : ∀ j (hj : j < xs.length), xs[j].size ≤ 2147483647) (hne : ∀ j (hj : j < xs.length), bytesOf xs[j] ≠ []) :
    ∀ (d i : Nat) (p : ByteArray), xs.length - i = d → i ≤ xs.length → p.size ≤ i * 8589934592 → bytesOf p = Pth (xs.take i) → laws_FnGjEscapeOften.l1 (d + xs.length + M + 2) xs p xs xs.length i = some true
  | 0, i, p, hd, hi, hs, hp => by
    unfold laws_FnGjEscapeOften.l1
    rw [if_neg (by omega)]
    obtain rfl : i = xs.length := by omega
    rw [List.take_length] at hp
    have := read_is xs M hn hM hne xs.length 0 p (by omega) (by omega) (by omega) (by rw [List.drop_zero]; exact hp)
    rw [show 0 + xs.length + M + 1 = xs.length + M + 1 from by omega]
    exact this
  | d + 1, i, p, hd, hi, hs, hp => by
    have hlt : i < xs.length := by omega
    rw [show d + 1 + xs.length + M + 2 = (d + xs.length + M + 2) + 1 from by omega]
    unfold laws_FnGjEscapeOften.l1
    rw [if_pos (by omega), if_pos (by omega), if_pos (by omega), rd_nat _ _ _ hlt, wrap_nat i (by omega)]
    have hzi := hz i hlt
    have hE : impl_GjEscape.f (d + xs.length + M + 2) xs[i] = some (strOfNums (Ex (bytesOf xs[i]))) := by
      have h1 := escape_is xs[i] (by omega)
      have h2 := fuel_up (f := fun k => gjson_Escape.f k xs[i]) (gjson_Escape.mono xs[i]) h1 (m := d + xs.length + M + 2) (by have := hM i hlt; omega)
      unfold impl_GjEscape.f
      rw [h2]
      rfl
    have hel : (strOfNums (Ex (bytesOf xs[i]))).size ≤ 4294967294 := by
      rw [strOfNums_size]
      have := Ex_length (bytesOf xs[i])
      rw [bytesOf_length] at this
      omega
    have hbe := bytesOf_strOfNums _ (Ex_range _ (bytesOf_range xs[i]))
    have htk := List.take_succ_eq_append_getElem hlt
    rw [hE]
    simp only [Option.bind_some]
    by_cases h0 : 0 < i
    · have hne' : xs.take i ≠ [] := by
        intro h
        have h5 : (xs.take i).length = 0 := by rw [h]; rfl
        rw [List.length_take] at h5
        omega
      rw [if_pos (by omega), if_pos (by omega), if_pos (by omega)]
      refine write_is xs M hn hM hz hne d (i + 1) _ (by omega) (by omega) ?_ ?_
      · rw [ByteArray.size_append, ByteArray.size_append, show (⟨#[46]⟩ : ByteArray).size = 1 from rfl]; omega
      · rw [bytesOf_app, bytesOf_app, hp, hbe, htk, Pth_snoc _ _ hne', show bytesOf (⟨#[46]⟩ : ByteArray) = [46] from rfl]
        simp
    · obtain rfl : i = 0 := by omega
      rw [if_neg (by omega), if_pos (by omega)]
      refine write_is xs M hn hM hz hne d (0 + 1) _ (by omega) (by omega) ?_ ?_
      · rw [ByteArray.size_append]; omega
      · rw [bytesOf_app, hp, hbe, htk]
        simp [Pth]

theorem body_is (xs : List ByteArray) (hn : xs.length ≤ 2147483647) (hz : ∀ j (hj : j < xs.length), xs[j].size ≤ 2147483647) (M : Nat) (hM : ∀ j (hj : j < xs.length), xs[j].size + 2 ≤ M) :
    ∀ (d i : Nat) (x3 : Int), xs.length - i = d → i ≤ xs.length → laws_FnGjEscapeOften.l0 (d + 2 * xs.length + M + 5) xs x3 xs xs.length i = some true
  | 0, i, x3, hd, hi => by
    unfold laws_FnGjEscapeOften.l0
    rw [if_neg (by omega)]
    obtain ⟨b, hb, hbt⟩ := rest_is xs hn xs.length 0 (by omega) (by omega)
    have hr : laws_gjRest.f (0 + 2 * xs.length + M + 4) xs = some b :=
      fuel_up (f := fun k => laws_gjRest.f k xs) (fun k => laws_gjRest.mono xs k) (k := xs.length + 1) hb (by omega)
    rw [hr]
    simp only [Option.bind_some]
    have hj : ∀ c : Bool, (c = false → b = true ∧ xs.length ≤ 64) → laws_FnGjEscapeOften.j1 (0 + 2 * xs.length + M + 4) xs c = some true := by
      intro c hc
      unfold laws_FnGjEscapeOften.j1
      cases c with
      | true => rfl
      | false =>
        obtain ⟨h1, h2⟩ := hc rfl
        simp only [Bool.false_eq_true, if_false]
        have := write_is xs M h2 hM hz (fun j hj => hbt h1 j hj (Nat.zero_le _)) xs.length 0 ⟨#[]⟩ (by omega) (by omega) (by simp [ByteArray.size]) (by rw [List.take_zero]; rfl)
        rw [show 0 + 2 * xs.length + M + 3 = (xs.length + xs.length + M + 2) + 1 from by omega]
        exact (laws_FnGjEscapeOften.mono_l _).2.2.1 _ _ _ _ _ _ this
    cases b with
    | false => simp only [Bool.false_eq_true, if_false]; exact hj true (fun h => by cases h)
    | true =>
      simp only [if_true]
      by_cases h64 : (xs.length : Int) > 64
      · rw [if_pos h64]; exact hj true (fun h => by cases h)
      · rw [if_neg h64]; exact hj _ (fun _ => ⟨rfl, by omega⟩)
  | d + 1, i, x3, hd, hi => by
    have hlt : i < xs.length := by omega
    rw [show d + 1 + 2 * xs.length + M + 5 = (d + 2 * xs.length + M + 5) + 1 from by omega]
    unfold laws_FnGjEscapeOften.l0
    rw [if_pos (by omega), if_pos (by omega), if_pos (by omega), wrap_nat i (by omega)]
    exact body_is xs hn hz M hM d (i + 1) _ (by omega) (by omega)

theorem law_is (xs : List ByteArray) : ∃ k, laws_FnGjEscapeOften.f k xs = some true := by
  have hbound : ∃ M, ∀ j (hj : j < xs.length), xs[j].size + 2 ≤ M := by
    refine ⟨(xs.map ByteArray.size).sum + 2, fun j hj => ?_⟩
    have h : ∀ (ys : List ByteArray) (x : ByteArray), x ∈ ys → x.size ≤ (ys.map ByteArray.size).sum := by
      intro ys x hx
      induction ys with
      | nil => cases hx
      | cons y ys ih =>
        rw [List.map_cons, List.sum_cons]
        rcases List.mem_cons.1 hx with rfl | hx
        · omega
        · have := ih hx; omega
    have := h xs xs[j] (List.getElem_mem hj)
    omega
  obtain ⟨M, hM⟩ := hbound
  by_cases hn : (xs.length : Int) > 2147483647
  · refine ⟨0, ?_⟩
    unfold laws_FnGjEscapeOften.f laws_zzFits1.f
    rw [if_pos hn]
    rfl
  · obtain ⟨b, hb, hbt⟩ := fits_is xs (by omega) xs.length 0 (by omega) (by omega)
    refine ⟨xs.length + 2 * xs.length + M + 5, ?_⟩
    unfold laws_FnGjEscapeOften.f
    have hf : laws_zzFits1.f (xs.length + 2 * xs.length + M + 5) xs = some b := by
      refine fuel_up (f := fun k => laws_zzFits1.f k xs) (fun k => laws_zzFits1.mono xs k) (k := xs.length + 1) ?_ (by omega)
      unfold laws_zzFits1.f
      rw [if_neg hn]
      exact hb
    rw [hf]
    simp only [Option.bind_some]
    cases b with
    | false => rfl
    | true =>
      simp only [if_true]
      exact body_is xs (by omega) (fun j hj => hbt rfl j hj (Nat.zero_le _)) M hM xs.length 0 0 (by omega) (by omega)
end Go.Proofs.YtoejpgjanoideaaGreatDoor.F
