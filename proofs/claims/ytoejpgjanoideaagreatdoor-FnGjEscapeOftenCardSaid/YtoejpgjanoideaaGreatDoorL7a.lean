/- The plain law of Escape and parseObjectPath: what the one writes the other reads, key by key. -/
import Derived.Test.YtoejpgjanoideaaGreatDoorF55
import Derived.Test.YtoejpgjanoideaaGreatDoorF81
set_option linter.unusedSimpArgs false
set_option linter.unusedVariables false
namespace Go.Proofs.YtoejpgjanoideaaGreatDoor.F
open Go.RowKit Go.Proofs.YtoejpgjanoideaaGreatDoorW.PrintWords Go.Proofs.YtoejpgjanoideaaGreatDoorW.PrintLast Go.Proofs.YtoejpgjanoideaaGreatDoorW.PrintMore

/-! Bytes as numbers -/
theorem bytesOf_inj {s t : ByteArray} (h : bytesOf s = bytesOf t) : s = t := by
  apply ByteArray.ext
  apply Array.toList_inj.1
  have hb : ∀ l m : List UInt8, l.map (fun b => (b.toNat : Int)) = m.map (fun b => (b.toNat : Int)) → l = m := by
    intro l
    induction l with
    | nil => intro m hm; cases m with
      | nil => rfl
      | cons a m => simp at hm
    | cons a l ih => intro m hm; cases m with
      | nil => simp at hm
      | cons b m =>
        simp only [List.map_cons, List.cons.injEq] at hm
        obtain ⟨h1, h2⟩ := hm
        rw [ih m h2, UInt8.toNat_inj.1 (by omega : a.toNat = b.toNat)]
  exact hb _ _ h
theorem bytesOf_range (s : ByteArray) : ∀ c ∈ bytesOf s, 0 ≤ c ∧ c ≤ 255 := by
  intro c hc
  simp only [bytesOf, List.mem_map] at hc
  obtain ⟨b, _, rfl⟩ := hc
  have := b.toNat_lt
  omega
theorem bytesOf_strOfNums (xs : List Int) (h : ∀ c ∈ xs, 0 ≤ c ∧ c ≤ 255) : bytesOf (strOfNums xs) = xs := by
  unfold bytesOf
  rw [strOfNums_data, List.map_map]
  conv => rhs; rw [← List.map_id xs]
  apply List.map_congr_left
  intro c hc
  obtain ⟨h0, h1⟩ := h c hc
  simp only [Function.comp, id]
  rw [UInt8.toNat_ofNat']
  omega
theorem strOfNums_bytesOf (s : ByteArray) : strOfNums (bytesOf s) = s := bytesOf_inj (bytesOf_strOfNums _ (bytesOf_range s))
theorem bt_of_drop {s : ByteArray} {i : Nat} {c : Int} {r : List Int} (h : (bytesOf s).drop i = c :: r) : i < s.size ∧ bt s i = c ∧ (bytesOf s).drop (i + 1) = r := by
  have hlt : i < (bytesOf s).length := by
    apply Nat.lt_of_not_le
    intro hge
    rw [List.drop_eq_nil_of_le hge] at h
    cases h
  have hd := List.drop_eq_getElem_cons hlt
  rw [hd] at h
  obtain ⟨h1, h2⟩ := List.cons.inj h
  have hs : i < s.size := by rwa [bytesOf_length] at hlt
  refine ⟨hs, ?_, h2⟩
  rw [← h1]
  unfold bt
  simp only [Int.toNat_natCast]
  rw [dif_pos hs]
  simp only [bytesOf, List.getElem_map]
  rfl
theorem size_of_drop {s : ByteArray} {i : Nat} (h : (bytesOf s).drop i = []) : s.size ≤ i := by
  have := List.drop_eq_nil_iff.1 h
  rwa [bytesOf_length] at this
theorem bytesOf_extract (s : ByteArray) (i j : Nat) (hj : j ≤ s.size) : bytesOf (s.extract i j) = ((bytesOf s).drop i).take (j - i) := by
  unfold bytesOf
  rw [ByteArray.data_extract]
  simp [List.extract_eq_take_drop, List.map_drop, List.map_take]
theorem bytesOf_tail (s : ByteArray) (i : Nat) : bytesOf (s.extract i s.size) = (bytesOf s).drop i := by
  rw [bytesOf_extract s i s.size (Nat.le_refl _), List.take_of_length_le (by rw [List.length_drop, bytesOf_length]; omega)]
theorem bytesOf_app (s t : ByteArray) : bytesOf (s ++ t) = bytesOf s ++ bytesOf t := by simp [bytesOf]

/-! The escaped form -/
def Safe (c : Int) : Bool := gjson_isSafePathKeyChar.f c == some true
theorem safe_total (c : Int) : gjson_isSafePathKeyChar.f c = some (Safe c) := by
  have : ∃ b, gjson_isSafePathKeyChar.f c = some b := by
    unfold gjson_isSafePathKeyChar.f
    repeat' split
    all_goals exact ⟨_, rfl⟩
  obtain ⟨b, hb⟩ := this
  unfold Safe
  rw [hb]
  cases b <;> rfl
theorem safe_ne {c : Int} (h : Safe c = true) : c ≠ 92 ∧ c ≠ 46 ∧ c ≠ 124 ∧ c ≠ 42 ∧ c ≠ 63 ∧ c ≠ 64 ∧ c ≠ 91 ∧ c ≠ 123 := by
  refine ⟨?_, ?_, ?_, ?_, ?_, ?_, ?_, ?_⟩ <;> (rintro rfl; revert h; decide)
/-- A key as a component bears it. -/
def Ex (xs : List Int) : List Int := xs.flatMap fun c => if Safe c = true then [c] else [92, c]
theorem Ex_nil : Ex [] = [] := rfl
theorem Ex_cons (c : Int) (xs : List Int) : Ex (c :: xs) = (if Safe c = true then [c] else [92, c]) ++ Ex xs := rfl
theorem Ex_append (xs ys : List Int) : Ex (xs ++ ys) = Ex xs ++ Ex ys := by simp [Ex]
theorem Ex_range (xs : List Int) (h : ∀ c ∈ xs, 0 ≤ c ∧ c ≤ 255) : ∀ c ∈ Ex xs, 0 ≤ c ∧ c ≤ 255 := by
  intro c hc
  simp only [Ex, List.mem_flatMap] at hc
  obtain ⟨d, hd, hcd⟩ := hc
  have := h d hd
  split at hcd <;> simp at hcd <;> omega
theorem Ex_length (xs : List Int) : (Ex xs).length ≤ 2 * xs.length := by
  induction xs with
  | nil => simp [Ex]
  | cons c xs ih => rw [Ex_cons]; split <;> simp <;> omega
theorem Ex_safe (xs : List Int) (h : ∀ c ∈ xs, Safe c = true) : Ex xs = xs := by
  induction xs with
  | nil => rfl
  | cons c xs ih => rw [Ex_cons, if_pos (h c (by simp)), ih (fun d hd => h d (by simp [hd]))]; rfl

theorem escape_esc (a0 : ByteArray) : ∀ (n i : Nat) (out : List Int), i ≤ a0.size → a0.size - i = n → gjson_Escape.esc a0 (n + 1) i out = some (strOfNums (out ++ Ex ((bytesOf a0).drop i)))
  | 0, i, out, hi, hn => by
    unfold gjson_Escape.esc
    rw [if_neg (by omega), List.drop_eq_nil_of_le (by rw [bytesOf_length]; omega), Ex_nil, List.append_nil]
  | n + 1, i, out, hi, hn => by
    unfold gjson_Escape.esc
    have hlt : i < a0.size := by omega
    rw [if_pos hlt, safe_total]
    have hl : i < (bytesOf a0).length := by rw [bytesOf_length]; exact hlt
    have hd := List.drop_eq_getElem_cons hl
    obtain ⟨_, hb, _⟩ := bt_of_drop hd
    simp only [Option.bind_some]
    have ih := fun o => escape_esc a0 n (i + 1) o (by omega) (by omega)
    rw [ih, ih, hd, Ex_cons, ← hb]
    split <;> simp
theorem escape_scan (a0 : ByteArray) : ∀ (n i : Nat), i ≤ a0.size → a0.size - i = n → (∀ c ∈ (bytesOf a0).take i, Safe c = true) → gjson_Escape.scan a0 (n + 2) i = some (strOfNums (Ex (bytesOf a0)))
  | 0, i, hi, hn, hs => by
    unfold gjson_Escape.scan
    rw [if_neg (by omega)]
    rw [List.take_of_length_le (by rw [bytesOf_length]; omega)] at hs
    rw [Ex_safe _ hs, strOfNums_bytesOf]
  | n + 1, i, hi, hn, hs => by
    unfold gjson_Escape.scan
    have hlt : i < a0.size := by omega
    rw [if_pos hlt, safe_total]
    have hl : i < (bytesOf a0).length := by rw [bytesOf_length]; exact hlt
    have hd := List.drop_eq_getElem_cons hl
    obtain ⟨_, hb, _⟩ := bt_of_drop hd
    simp only [Option.bind_some]
    split
    · rename_i hsafe
      refine escape_scan a0 n (i + 1) (by omega) (by omega) ?_
      intro c hc
      rw [List.take_succ_eq_append_getElem hl, List.mem_append] at hc
      rcases hc with hc | hc
      · exact hs c hc
      · simp at hc; rw [hc, ← hb]; exact hsafe
    · have he := escape_esc a0 (n + 1) i (bytesOf (a0.extract 0 i)) hi hn
      rw [he, bytesOf_extract a0 0 i hi, List.drop_zero, Nat.sub_zero]
      have h2 : Ex (bytesOf a0) = (bytesOf a0).take i ++ Ex ((bytesOf a0).drop i) := by
        conv => lhs; rw [← List.take_append_drop i (bytesOf a0)]
        rw [Ex_append, Ex_safe _ hs]
      rw [h2]
theorem escape_is (a0 : ByteArray) (h : a0.size ≤ 35184372088832) : gjson_Escape.f (a0.size + 2) a0 = some (strOfNums (Ex (bytesOf a0))) := by
  unfold gjson_Escape.f
  rw [if_pos h]
  exact escape_scan a0 a0.size 0 (Nat.zero_le _) rfl (by simp)

/-! Reading a component -/
/-- What may stand behind a component. -/
inductive Behind : List Int → Prop
  | done : Behind []
  | dot (c : Int) (r : List Int) (h1 : c ≠ 64) (h2 : c ≠ 91) (h3 : c ≠ 123) : Behind (46 :: c :: r)
def readAs (x : ByteArray) (tail : List Int) : OPath := (x, strOfNums tail.tail, ⟨#[]⟩, false, false, !tail.isEmpty)
theorem dot_is (a0 part : ByteArray) (i : Nat) (c : Int) (r : List Int) (h1 : c ≠ 64) (h2 : c ≠ 91) (h3 : c ≠ 123) (hd : (bytesOf a0).drop i = 46 :: c :: r) :
    gjson_parseObjectPath.dot a0 part i false = some (readAs part (46 :: c :: r)) := by
  obtain ⟨_, _, hd1⟩ := bt_of_drop hd
  obtain ⟨hlt, _, _⟩ := bt_of_drop hd1
  unfold gjson_parseObjectPath.dot
  rw [if_pos hlt]
  have ht := bytesOf_tail a0 (i + 1)
  rw [hd1] at ht
  obtain ⟨hz, hb, _⟩ := bt_of_drop (s := a0.extract (i + 1) a0.size) (i := 0) (c := c) (r := r) (by rw [List.drop_zero]; exact ht)
  have hf : gjson_isDotPiperChar.f (a0.extract (i + 1) a0.size) = some false := by
    unfold gjson_isDotPiperChar.f
    simp only [Int.natCast_zero] at hb
    rw [if_pos hz, hb, if_neg h1, if_neg h2]
    simp [h3]
  rw [hf]
  simp only [Option.bind_some, Bool.false_eq_true, if_false]
  unfold readAs
  simp only [List.tail_cons, List.isEmpty_cons, Bool.not_false]
  rw [← ht, strOfNums_bytesOf]
theorem path_esc (a0 : ByteArray) (tail : List Int) (ht : Behind tail) : ∀ (xs : List Int) (i : Nat) (ep : List Int), (bytesOf a0).drop i = Ex xs ++ tail →
    gjson_parseObjectPath.esc a0 (xs.length + 1) ep i false = some (readAs (strOfNums (ep ++ xs)) tail)
  | [], i, ep, hd => by
    rw [Ex_nil, List.nil_append] at hd
    rw [List.append_nil]
    unfold gjson_parseObjectPath.esc
    cases ht with
    | done => rw [if_neg (by have := size_of_drop hd; omega)]; rfl
    | dot c r h1 h2 h3 =>
      obtain ⟨hlt, hb, _⟩ := bt_of_drop hd
      rw [if_pos hlt, hb, if_neg (by decide), if_pos rfl]
      exact dot_is a0 _ i c r h1 h2 h3 hd
  | c :: xs, i, ep, hd => by
    rw [Ex_cons] at hd
    unfold gjson_parseObjectPath.esc
    by_cases hs : Safe c = true
    · rw [if_pos hs] at hd
      obtain ⟨hlt, hb, hd1⟩ := bt_of_drop hd
      obtain ⟨n1, n2, n3, n4, n5, _, _, _⟩ := safe_ne hs
      rw [if_pos hlt, hb, if_neg n1, if_neg n2, if_neg n3, if_neg n4, if_neg n5, List.length_cons]
      rw [path_esc a0 tail ht xs (i + 1) (ep ++ [c]) hd1]
      simp
    · rw [if_neg hs] at hd
      obtain ⟨hlt, hb, hd1⟩ := bt_of_drop (c := 92) (r := c :: (Ex xs ++ tail)) (by simpa using hd)
      obtain ⟨hlt2, hb2, hd2⟩ := bt_of_drop hd1
      rw [if_pos hlt, hb, if_pos rfl, if_pos hlt2, hb2, List.length_cons]
      rw [path_esc a0 tail ht xs (i + 2) (ep ++ [c]) hd2]
      simp
theorem path_scan (a0 : ByteArray) (tail : List Int) (ht : Behind tail) : ∀ (xs : List Int) (i : Nat), (bytesOf a0).drop i = Ex xs ++ tail →
    gjson_parseObjectPath.scan a0 (xs.length + 2) i false = some (readAs (strOfNums (bytesOf (a0.extract 0 i) ++ xs)) tail)
  | [], i, hd => by
    rw [Ex_nil, List.nil_append] at hd
    rw [List.append_nil, strOfNums_bytesOf]
    unfold gjson_parseObjectPath.scan
    cases ht with
    | done =>
      have hz := size_of_drop hd
      rw [if_neg (by omega)]
      have : a0.extract 0 i = a0 := by
        apply bytesOf_inj
        unfold bytesOf
        rw [ByteArray.data_extract]
        have : a0.data.extract 0 i = a0.data := by
          rw [Array.extract_eq_self_iff]
          right
          exact ⟨rfl, hz⟩
        rw [this]
      rw [this]; rfl
    | dot c r h1 h2 h3 =>
      obtain ⟨hlt, hb, _⟩ := bt_of_drop hd
      rw [if_pos hlt, hb, if_neg (by decide), if_pos rfl]
      exact dot_is a0 _ i c r h1 h2 h3 hd
  | c :: xs, i, hd => by
    rw [Ex_cons] at hd
    unfold gjson_parseObjectPath.scan
    by_cases hs : Safe c = true
    · rw [if_pos hs] at hd
      have hd0 : (bytesOf a0).drop i = c :: (Ex xs ++ tail) := by simpa using hd
      obtain ⟨hlt, hb, hd1⟩ := bt_of_drop hd0
      obtain ⟨n1, n2, n3, n4, n5, _, _, _⟩ := safe_ne hs
      rw [if_pos hlt, hb, if_neg n3, if_neg n2, if_neg n4, if_neg n5, if_neg n1, List.length_cons]
      rw [path_scan a0 tail ht xs (i + 1) hd1]
      have : bytesOf (a0.extract 0 (i + 1)) = bytesOf (a0.extract 0 i) ++ [c] := by
        rw [bytesOf_extract a0 0 (i + 1) (by omega), bytesOf_extract a0 0 i (by omega), List.drop_zero, Nat.sub_zero, Nat.sub_zero]
        have hl : i < (bytesOf a0).length := by rw [bytesOf_length]; exact hlt
        rw [List.take_succ_eq_append_getElem hl]
        have h2 := List.drop_eq_getElem_cons hl
        rw [hd0] at h2
        rw [← (List.cons.inj h2).1]
      rw [this]
      simp
    · rw [if_neg hs] at hd
      obtain ⟨hlt, hb, hd1⟩ := bt_of_drop (c := 92) (r := c :: (Ex xs ++ tail)) (by simpa using hd)
      obtain ⟨hlt2, hb2, hd2⟩ := bt_of_drop hd1
      rw [if_pos hlt, hb, if_neg (by decide), if_neg (by decide), if_neg (by decide), if_neg (by decide), if_pos rfl, if_pos hlt2, hb2, List.length_cons]
      have he := gjson_parseObjectPath.mono_esc a0 (xs.length + 1) _ _ _ _ (path_esc a0 tail ht xs (i + 2) (bytesOf (a0.extract 0 i) ++ [c]) hd2)
      rw [he]
      simp
theorem path_is (a0 : ByteArray) (hs : a0.size ≤ 70368744177664) (x : ByteArray) (tail : List Int) (ht : Behind tail) (h : bytesOf a0 = Ex (bytesOf x) ++ tail) :
    gjson_parseObjectPath.f (x.size + 2) a0 = some (readAs x tail) := by
  unfold gjson_parseObjectPath.f
  rw [if_pos hs]
  have := path_scan a0 tail ht (bytesOf x) 0 (by rw [List.drop_zero]; exact h)
  rw [bytesOf_length] at this
  rw [this]
  have he : a0.extract 0 0 = ⟨#[]⟩ := by apply bytesOf_inj; unfold bytesOf; rw [ByteArray.data_extract]; simp
  rw [he]
  have : bytesOf ⟨#[]⟩ = [] := rfl
  rw [this, List.nil_append, strOfNums_bytesOf]
end Go.Proofs.YtoejpgjanoideaaGreatDoor.F
