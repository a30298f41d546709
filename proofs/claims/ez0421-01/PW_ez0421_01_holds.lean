import PyProof.Rows.All
import Wide.All
import OpenK.AllK
import Wide.FinOn
import PySem.Challenge.RW_ez0421_01
open PySem PySem.W PyProof.Rows
set_option Elab.async false
set_option maxRecDepth 100000
set_option maxHeartbeats 20000000
namespace Mine
open_top hd for PySem.Challenge.rw_ez0421_01
end Mine
namespace Mine
open Builtin Builtin.Str

/-! the text's words as lists of signs -/
theorem sliceRange_1 (a b : Nat) : sliceRange (a : Int) (b : Int) 1 = (List.range (b - a)).map (fun k => a + k) := by
  unfold sliceRange
  simp only [show ((1 : Int) > 0) = True from by simp, if_true]
  by_cases h : (a : Int) < b
  · have e : (((b : Int) - a + 1 - 1) / 1).toNat = b - a := by rw [Int.ediv_one]; omega
    simp only [h, if_true, e]
    refine List.map_congr_left fun k _ => ?_
    omega
  · have : b - a = 0 := by omega
    simp [h, this]
theorem slice_to {x : PySem.Str} {l u : Option Int} {a b : Nat} (ha : a ≤ x.length) (hb : b ≤ x.length) (e : strSliceIndices l u 1 x.length = sliceRange (a : Int) (b : Int) 1) :
    (Txt.slice x l u).cps.toList = (x.cps.toList.drop a).take (b - a) := by
  unfold Txt.slice
  rw [e, sliceRange_1]
  have hl : x.cps.toList.length = x.length := by simp [Str.length]
  split
  · rename_i h
    simp at h
    have h1 : b - a = x.length := h
    have h2 : a = 0 := by omega
    subst h2
    rw [List.drop_zero, List.take_of_length_le (by omega)]
  · by_cases hab : a ≤ b
    · have h := StrLaws.picks x.cps.toList (b - a) a (by omega)
      simpa using h
    · have : b - a = 0 := by omega
      simp [this]
theorem slice_ab {x : PySem.Str} {i j : Int} (h0 : 0 ≤ i) (h1 : i ≤ x.length) (h2 : 0 ≤ j) :
    (Txt.slice x (some i) (some j)).cps.toList = (x.cps.toList.drop i.toNat).take (j.toNat - i.toNat) := by
  have hl : x.cps.toList.length = x.length := by simp [Str.length]
  rw [slice_to (a := i.toNat) (b := min j.toNat x.length) (by omega) (by omega)]
  · rw [List.take_eq_take_iff, List.length_drop]; omega
  · unfold strSliceIndices
    simp only [show ((1 : Int) > 0) = True from by simp, if_true]
    rw [if_neg (by omega), if_neg (by omega)]
    congr 1 <;> omega
theorem slice_a {x : PySem.Str} {i : Int} (h0 : 0 ≤ i) : (Txt.slice x (some i) none).cps.toList = x.cps.toList.drop i.toNat := by
  have hl : x.cps.toList.length = x.length := by simp [Str.length]
  rw [slice_to (a := min i.toNat x.length) (b := x.length) (by omega) (by omega)]
  · rw [List.take_of_length_le (by rw [List.length_drop]; omega)]
    by_cases h : i.toNat ≤ x.length
    · rw [Nat.min_eq_left h]
    · rw [List.drop_of_length_le (by omega), List.drop_of_length_le (by omega)]
  · unfold strSliceIndices
    simp only [show ((1 : Int) > 0) = True from by simp, if_true]
    rw [if_neg (by omega)]
    congr 1
    omega
theorem slice_m1 (x : PySem.Str) : (Txt.slice x (some (-1)) none).cps.toList = x.cps.toList.drop (x.length - 1) := by
  have hl : x.cps.toList.length = x.length := by simp [Str.length]
  rw [slice_to (a := x.length - 1) (b := x.length) (by omega) (by omega)]
  · rw [List.take_of_length_le (by rw [List.length_drop]; omega)]
  · unfold strSliceIndices
    simp only [show ((1 : Int) > 0) = True from by simp, if_true]
    rw [if_pos (by decide)]
    congr 1
    omega
theorem slice_to_m1 (x : PySem.Str) : (Txt.slice x none (some (-1))).cps.toList = x.cps.toList.dropLast := by
  have hl : x.cps.toList.length = x.length := by simp [Str.length]
  rw [slice_to (a := 0) (b := x.length - 1) (by omega) (by omega)]
  · rw [List.drop_zero, List.dropLast_eq_take, hl, Nat.sub_zero]
  · unfold strSliceIndices
    simp only [show ((1 : Int) > 0) = True from by simp, if_true]
    rw [if_pos (by decide)]
    congr 1
    omega
theorem item_at {x : PySem.Str} {i : Int} (h0 : 0 ≤ i) (h1 : i < x.length) : (Txt.item x i).cps.toList = [x.cps.toList.getD i.toNat 0] := by
  unfold Txt.item Txt.charAt
  have e : seqIndex? i x.length = some i.toNat := by
    unfold seqIndex?
    simp only [show ¬ i < 0 by omega, if_false]
    rw [if_pos (by simp; omega)]
  rw [e]
  simp [List.getD]
theorem str_beq (x y : PySem.Str) : (x == y) = (x.cps.toList == y.cps.toList) := by
  rw [Bool.eq_iff_iff, beq_iff_eq, beq_iff_eq]
  constructor
  · intro h; rw [h]
  · intro h; cases x; cases y; simp at h; rw [h]
theorem str_bne (x y : PySem.Str) : (x != y) = (x.cps.toList != y.cps.toList) := by
  unfold bne; rw [str_beq]
theorem star_cps : (PySem.Str.ofString "*").cps.toList = [42] := by decide +kernel
theorem empty_cps : (PySem.Str.ofString "").cps.toList = [] := by decide +kernel
theorem digits_cps : (PySem.Str.ofString "0123456789").cps.toList = [48, 49, 50, 51, 52, 53, 54, 55, 56, 57] := by decide +kernel
def isD (c : Nat) : Bool := 48 ≤ c && c ≤ 57
theorem isD_mem (c : Nat) : decide (c ∈ [48, 49, 50, 51, 52, 53, 54, 55, 56, 57]) = isD c := by
  unfold isD
  rw [Bool.eq_iff_iff]
  simp only [decide_eq_true_eq, List.mem_cons, List.not_mem_nil, or_false, Bool.and_eq_true]
  omega
theorem in_digits (c : Nat) : (occurrences (PySem.Str.ofString "0123456789") ⟨#[c]⟩ 0 (PySem.Str.ofString "0123456789").length 1).isEmpty = !isD c := by
  have h := StrLaws.found_one (PySem.Str.ofString "0123456789") c
  rw [digits_cps, isD_mem] at h
  rw [← h, Bool.not_not]

/-! the plain law -/
def markL (l : List Nat) : Option (Option (List Nat) × Bool) :=
  let star := l.getLast? == some 42
  let rest := if star then l.dropLast else l
  if rest = [] then some (none, star)
  else if rest.head? ≠ some 42 then none
  else if rest = [42] then none
  else if rest.tail.any (fun c => !isD c) then none
  else some (some rest.tail, star)
def searchS (s : List Nat) : Option (Option (List Nat) × Bool) :=
  let d := (s.drop 1).takeWhile isD
  let hasN := s.head? == some 42 && decide (0 < d.length)
  let number := if hasN then some d else none
  let e := if hasN then 1 + d.length else 0
  let star := s[e]? == some 42
  let e' := if star then e + 1 else e
  if e' = s.length then some (number, star) else none
def digEnd (l : List Nat) (i : Nat) : Nat := i + ((l.drop i).takeWhile isD).length
def searchAt (l : List Nat) (p : Nat) : Option (Option (List Nat) × Bool) :=
  let st := digEnd l (p + 1)
  let hasN := l[p]? == some 42 && decide (p + 1 < st)
  let number := if hasN then some ((l.drop (p + 1)).take (st - (p + 1))) else none
  let e := if hasN then st else p
  let star := l[e]? == some 42
  let e' := if star then e + 1 else e
  if e' = l.length then some (number, star) else none

theorem digEnd_stop {l : List Nat} {i : Nat} (h : l.length ≤ i ∨ isD (l.getD i 0) = false) : digEnd l i = i := by
  unfold digEnd
  by_cases hi : l.length ≤ i
  · rw [List.drop_of_length_le hi]; rfl
  · have hd : isD (l.getD i 0) = false := h.resolve_left hi
    have hlt : i < l.length := by omega
    rw [List.drop_eq_getElem_cons hlt]
    have e : l.getD i 0 = l[i] := by simp [List.getD, hlt]
    rw [e] at hd
    rw [List.takeWhile_cons, if_neg (by simp [hd])]
    rfl
theorem digEnd_step {l : List Nat} {i : Nat} (hlt : i < l.length) (h : isD (l.getD i 0) = true) : digEnd l i = digEnd l (i + 1) := by
  unfold digEnd
  rw [List.drop_eq_getElem_cons hlt]
  have e : l.getD i 0 = l[i] := by simp [List.getD, hlt]
  rw [e] at h
  rw [List.takeWhile_cons, if_pos h, List.length_cons]
  omega
theorem searchAt_eq {l : List Nat} {p : Nat} (hp : p ≤ l.length) : searchAt l p = searchS (l.drop p) := by
  have h1 : (l.drop p).drop 1 = l.drop (p + 1) := by rw [List.drop_drop]
  have h2 : (l.drop p).head? = l[p]? := by rw [List.head?_drop]
  have h3 : ∀ e, (l.drop p)[e]? = l[p + e]? := fun e => by rw [List.getElem?_drop]
  unfold searchAt searchS digEnd
  simp only [h1, h2, h3, List.length_drop]
  have hn : decide (p + 1 < p + 1 + ((l.drop (p + 1)).takeWhile isD).length) = decide (0 < ((l.drop (p + 1)).takeWhile isD).length) := by
    rw [decide_eq_decide]; omega
  rw [hn]
  have ht : (l.drop (p + 1)).take (p + 1 + ((l.drop (p + 1)).takeWhile isD).length - (p + 1)) = (l.drop (p + 1)).takeWhile isD := by
    rw [Nat.add_sub_cancel_left]
    exact (List.prefix_iff_eq_take.mp (List.takeWhile_prefix isD)).symm
  rw [ht]
  cases hb : (l[p]? == some 42 && decide (0 < ((l.drop (p + 1)).takeWhile isD).length)) with
  | false =>
    simp only [Bool.false_eq_true, if_false, Nat.add_zero]
    by_cases hs : (l[p]? == some 42) = true
    · simp only [hs, if_true]
      by_cases he : p + 1 = l.length
      · rw [if_pos he, if_pos (by omega)]
      · rw [if_neg he, if_neg (by omega)]
    · simp only [hs]
      by_cases he : p = l.length
      · rw [if_pos (by simpa using he), if_pos (by simp; omega)]
      · rw [if_neg (by simpa using he), if_neg (by simp; omega)]
  | true =>
    simp only [if_true]
    have ea : p + (1 + ((l.drop (p + 1)).takeWhile isD).length) = p + 1 + ((l.drop (p + 1)).takeWhile isD).length := by omega
    rw [ea]
    by_cases hs : (l[p + 1 + ((l.drop (p + 1)).takeWhile isD).length]? == some 42) = true
    · simp only [hs, if_true]
      by_cases he : p + 1 + ((l.drop (p + 1)).takeWhile isD).length + 1 = l.length
      · rw [if_pos he, if_pos (by omega)]
      · rw [if_neg he, if_neg (by omega)]
    · simp only [hs]
      by_cases he : p + 1 + ((l.drop (p + 1)).takeWhile isD).length = l.length
      · rw [if_pos (by simpa using he), if_pos (by simp; omega)]
      · rw [if_neg (by simpa using he), if_neg (by simp; omega)]
theorem isD_42 : isD 42 = false := by decide
theorem tw_all : ∀ (t : List Nat) (c : Nat), c ∈ t.takeWhile isD → isD c = true
  | [], _, h => nomatch h
  | a :: r, c, h => by
    rw [List.takeWhile_cons] at h
    split at h
    · rename_i ha
      rcases List.mem_cons.mp h with rfl | h
      · exact ha
      · exact tw_all r c h
    · cases h
theorem split_digits (t : List Nat) : ∃ d r, t = d ++ r ∧ t.takeWhile isD = d ∧ (∀ c ∈ d, isD c = true) ∧ (∀ c, r.head? = some c → isD c = false) := by
  refine ⟨t.takeWhile isD, t.dropWhile isD, (List.takeWhile_append_dropWhile).symm, rfl, fun c hc => ?_, fun c hc => ?_⟩
  · exact tw_all t c hc
  · have := List.head?_dropWhile_not isD t
    rw [hc] at this
    simpa using this
theorem searchS_eq (s : List Nat) : searchS s = markL s := by
  cases s with
  | nil => rfl
  | cons c t =>
    by_cases hc : c = 42
    · subst hc
      obtain ⟨d, r, ht, hd, hda, hr⟩ := split_digits t
      subst ht
      unfold searchS
      simp only [List.drop_succ_cons, List.drop_zero, hd, List.head?_cons, beq_self_eq_true, Bool.true_and]
      cases d with
      | nil =>
        simp only [List.length_nil, Nat.lt_irrefl, decide_false, Bool.false_eq_true, if_false, List.getElem?_cons_zero, beq_self_eq_true, if_true, List.nil_append]
        cases r with
        | nil => rfl
        | cons u v =>
          have hu : isD u = false := hr u rfl
          rw [if_neg (by simp)]
          symm
          unfold markL
          simp only
          by_cases hl : ((42 :: u :: v).getLast? == some 42) = true
          · simp only [hl, if_true]
            cases v with
            | nil => simp
            | cons w v' => simp [List.dropLast, hu]
          · have hl' : ((42 :: u :: v).getLast? == some 42) = false := by simpa using hl
            simp only [hl', Bool.false_eq_true, if_false]
            rw [if_neg (by simp), if_neg (by simp), if_neg (by simp), if_pos (by simp [hu])]
      | cons d0 d' =>
        simp only [List.length_cons, Nat.zero_lt_succ, decide_true, if_true]
        have hd0 : isD d0 = true := hda d0 (by simp)
        have hget : (42 :: ((d0 :: d') ++ r))[1 + (d'.length + 1)]? = r.head? := by
          rw [show 1 + (d'.length + 1) = (d0 :: d').length + 1 from by simp; omega, List.getElem?_cons_succ, List.getElem?_append_right (Nat.le_refl _), Nat.sub_self, List.head?_eq_getElem?]
        rw [hget]
        have hdl : ∀ c, (42 :: (d0 :: d')).getLast? = some c → isD c = true := fun c h => by
          rw [List.getLast?_cons_cons] at h
          exact hda c (List.mem_of_getLast? h)
        have hany : (d0 :: d').any (fun c => !isD c) = false := by
          rw [List.any_eq_false]
          intro c h
          simp [hda c h]
        cases r with
        | nil =>
          rw [show (([] : List Nat).head? == some 42) = false from rfl]
          simp only [List.append_nil, Bool.false_eq_true, if_false]
          have hlast : ((42 :: d0 :: d').getLast? == some 42) = false := by
            rw [beq_eq_false_iff_ne]
            intro h
            have := hdl 42 h
            rw [isD_42] at this
            cases this
          rw [if_pos (by simp; omega)]
          unfold markL
          simp only [hlast, Bool.false_eq_true, if_false]
          rw [if_neg (by simp), if_neg (by simp), if_neg (by simp)]
          simp only [List.tail_cons, hany, Bool.false_eq_true, if_false]
        | cons u v =>
          have hu : isD u = false := hr u rfl
          by_cases hend : u = 42 ∧ v = []
          · obtain ⟨rfl, rfl⟩ := hend
            rw [show (([42] : List Nat).head? == some 42) = true from rfl]
            simp only [if_true]
            rw [if_pos (by simp; omega)]
            unfold markL
            have hlast : ((42 :: (d0 :: d' ++ [42])).getLast? == some 42) = true := by
              rw [← List.cons_append, List.getLast?_concat]; rfl
            simp only [hlast, if_true]
            have hdrop : (42 :: (d0 :: d' ++ [42])).dropLast = 42 :: d0 :: d' := by
              rw [← List.cons_append, List.dropLast_concat]
            rw [hdrop, if_neg (by simp), if_neg (by simp), if_neg (by simp)]
            simp only [List.tail_cons, hany, Bool.false_eq_true, if_false]
          · have hne : (if (if ((u :: v).head? == some 42) = true then 1 + (d'.length + 1) + 1 else 1 + (d'.length + 1)) = (42 :: (d0 :: d' ++ u :: v)).length then some (some (d0 :: d'), (u :: v).head? == some 42) else none) = none := by
              by_cases hq : u = 42
              · subst hq
                rw [show ((42 :: v).head? == some 42) = true from rfl]
                simp only [if_true]
                rw [if_neg]
                intro h
                simp at h
                exact hend ⟨rfl, List.length_eq_zero_iff.mp (by omega)⟩
              · rw [show ((u :: v).head? == some 42) = false from by simp [hq]]
                simp only [Bool.false_eq_true, if_false]
                rw [if_neg]
                intro h
                simp at h
                omega
            refine hne.trans ?_
            symm
            unfold markL
            simp only
            by_cases hl : ((42 :: (d0 :: d' ++ u :: v)).getLast? == some 42) = true
            · simp only [hl, if_true]
              have hv : v ≠ [] := by
                rintro rfl
                apply hend
                refine ⟨?_, rfl⟩
                rw [← List.cons_append, List.getLast?_concat] at hl
                simpa using hl
              obtain ⟨w, v', rfl⟩ : ∃ w v', v = w :: v' := by cases v with | nil => exact absurd rfl hv | cons w v' => exact ⟨w, v', rfl⟩
              have hdrop : (42 :: (d0 :: d' ++ u :: w :: v')).dropLast = 42 :: (d0 :: d' ++ u :: (w :: v').dropLast) := by
                rw [← List.cons_append, List.dropLast_append_of_ne_nil (by simp), List.dropLast_cons_of_ne_nil (by simp)]
                rfl
              rw [hdrop, if_neg (by simp), if_neg (by simp), if_neg (by simp), if_pos (by simp [hu])]
            · have hl' : ((42 :: (d0 :: d' ++ u :: v)).getLast? == some 42) = false := by simpa using hl
              simp only [hl', Bool.false_eq_true, if_false]
              rw [if_neg (by simp), if_neg (by simp), if_neg (by simp), if_pos (by simp [hu])]
    · have hs : searchS (c :: t) = none := by
        unfold searchS
        have h1 : ((c :: t).head? == some 42) = false := by simp [hc]
        simp [h1, hc]
      rw [hs]
      symm
      unfold markL
      simp only
      by_cases hl : ((c :: t).getLast? == some 42) = true
      · simp only [hl, if_true]
        cases t with
        | nil => simp at hl; exact absurd hl hc
        | cons u v => simp [List.dropLast, hc]
      · have hl' : ((c :: t).getLast? == some 42) = false := by simpa using hl
        simp only [hl', Bool.false_eq_true, if_false]
        rw [if_neg (by simp), if_pos (by simp [hc])]

/-! the walk's facts as facts of the plain law -/
theorem len_cps (x : PySem.Str) : x.cps.toList.length = x.length := by simp [Str.length]
theorem at_star {x : PySem.Str} {i : Int} (h0 : 0 ≤ i) (h1 : i ≤ x.length) : (Txt.slice x (some i) (some (i + 1)) == PySem.Str.ofString "*") = (x.cps.toList[i.toNat]? == some 42) := by
  rw [str_beq, star_cps, slice_ab h0 h1 (by omega)]
  have e : (i + 1).toNat - i.toNat = 1 := by omega
  rw [e]
  have hl := len_cps x
  by_cases hlt : i.toNat < x.cps.toList.length
  · rw [List.drop_eq_getElem_cons hlt, List.getElem?_eq_getElem hlt]
    simp
  · rw [List.drop_of_length_le (by omega), List.getElem?_eq_none (by omega)]
    rfl
theorem star_lt {x : PySem.Str} {i : Int} (h0 : 0 ≤ i) (h1 : i ≤ x.length) (h : (Txt.slice x (some i) (some (i + 1)) == PySem.Str.ofString "*") = true) : i < x.length := by
  rw [at_star h0 h1] at h
  have hl := len_cps x
  by_cases hlt : i < x.length
  · exact hlt
  · rw [List.getElem?_eq_none (by omega)] at h
    cases h
theorem dig_item {x : PySem.Str} {i : Int} {b : Bool} (h0 : 0 ≤ i) (h1 : i < x.length) (h : (occurrences (PySem.Str.ofString "0123456789") (Txt.item x i) 0 (PySem.Str.ofString "0123456789").length 1).isEmpty = b) : isD (x.cps.toList.getD i.toNat 0) = !b := by
  have e : Txt.item x i = ⟨#[x.cps.toList.getD i.toNat 0]⟩ := by
    have q := item_at h0 h1
    cases hh : Txt.item x i with
    | mk c =>
      rw [hh] at q
      congr 1
      exact Array.toList_inj.mp q
  rw [e, in_digits] at h
  rw [← h, Bool.not_not]
section
variable {x : PySem.Str} {k st : Int}
theorem while_start (h0 : 0 ≤ k) (h1 : k ≤ x.length) (h : (Txt.slice x (some k) (some (k + 1)) == PySem.Str.ofString "*") = true) :
    k + 1 ≤ k + 1 ∧ k + 1 ≤ (x.length : Int) ∧ digEnd x.cps.toList (k.toNat + 1) = digEnd x.cps.toList (k + 1).toNat := by
  have := star_lt h0 h1 h
  exact ⟨Int.le_refl _, by omega, by rw [show (k + 1).toNat = k.toNat + 1 from by omega]⟩
theorem while_turn (hr : digEnd x.cps.toList (k.toNat + 1) = digEnd x.cps.toList st.toNat) (h0 : 0 ≤ k) (h1 : k + 1 ≤ st) (h2 : st < x.length)
    (h : (occurrences (PySem.Str.ofString "0123456789") (Txt.item x st) 0 (PySem.Str.ofString "0123456789").length 1).isEmpty = false) :
    k + 1 ≤ st + 1 ∧ st + 1 ≤ (x.length : Int) ∧ digEnd x.cps.toList (k.toNat + 1) = digEnd x.cps.toList (st + 1).toNat := by
  refine ⟨by omega, by omega, ?_⟩
  rw [hr, digEnd_step (by rw [len_cps]; omega) (dig_item (by omega) h2 h), show (st + 1).toNat = st.toNat + 1 from by omega]
theorem while_end (hr : digEnd x.cps.toList (k.toNat + 1) = digEnd x.cps.toList st.toNat) (h0 : 0 ≤ k) (h1 : k + 1 ≤ st) (h2 : st ≤ x.length)
    (h : (x.length : Int) ≤ st ∨ (occurrences (PySem.Str.ofString "0123456789") (Txt.item x st) 0 (PySem.Str.ofString "0123456789").length 1).isEmpty = true) :
    digEnd x.cps.toList (k.toNat + 1) = st.toNat := by
  rw [hr]
  apply digEnd_stop
  by_cases hl : (x.length : Int) ≤ st
  · left; rw [len_cps]; omega
  · right; exact dig_item (by omega) (by omega) (h.resolve_left hl)
theorem fin_i (h0 : 0 ≤ k) (h1 : k ≤ x.length) (h : (Txt.slice x (some k) (some (k + 1)) == PySem.Str.ofString "*") = false) :
    searchAt x.cps.toList k.toNat = if k = x.length then some (none, false) else none := by
  rw [at_star h0 h1] at h
  have hl := len_cps x
  unfold searchAt
  simp only [h, Bool.false_and, Bool.false_eq_true, if_false]
  by_cases he : k = x.length
  · rw [if_pos he, if_pos (by omega)]
  · rw [if_neg he, if_neg (by omega)]
theorem fin_ii (hr : digEnd x.cps.toList (k.toNat + 1) = digEnd x.cps.toList st.toNat) (h0 : 0 ≤ k) (h1 : k ≤ x.length) (h : (Txt.slice x (some k) (some (k + 1)) == PySem.Str.ofString "*") = true)
    (h2 : k + 1 ≤ st) (h3 : st ≤ x.length) (he : (x.length : Int) ≤ st ∨ (occurrences (PySem.Str.ofString "0123456789") (Txt.item x st) 0 (PySem.Str.ofString "0123456789").length 1).isEmpty = true) (h4 : ¬ k + 1 < st) :
    searchAt x.cps.toList k.toNat = if k + 1 = x.length then some (none, true) else none := by
  have hd := while_end hr h0 h2 h3 he
  rw [at_star h0 h1] at h
  have hl := len_cps x
  unfold searchAt
  have hn : decide (k.toNat + 1 < st.toNat) = false := by simp; omega
  simp only [hd, hn, Bool.and_false, Bool.false_eq_true, if_false, h, if_true]
  by_cases he : k + 1 = x.length
  · rw [if_pos he, if_pos (by omega)]
  · rw [if_neg he, if_neg (by omega)]
theorem fin_iii (hr : digEnd x.cps.toList (k.toNat + 1) = digEnd x.cps.toList st.toNat) (h0 : 0 ≤ k) (h1 : k ≤ x.length) (h : (Txt.slice x (some k) (some (k + 1)) == PySem.Str.ofString "*") = true)
    (h2 : k + 1 ≤ st) (h3 : st ≤ x.length) (he : (x.length : Int) ≤ st ∨ (occurrences (PySem.Str.ofString "0123456789") (Txt.item x st) 0 (PySem.Str.ofString "0123456789").length 1).isEmpty = true) (h4 : k + 1 < st)
    {b : Bool} (hs : (Txt.slice x (some st) (some (st + 1)) == PySem.Str.ofString "*") = b) :
    searchAt x.cps.toList k.toNat = if (if b = true then st + 1 else st) = x.length then some (some (Txt.slice x (some (k + 1)) (some st)).cps.toList, b) else none := by
  have hd := while_end hr h0 h2 h3 he
  rw [at_star h0 h1] at h
  rw [at_star (by omega) h3] at hs
  have hl := len_cps x
  rw [slice_ab (by omega) (by omega) (by omega), show (k + 1).toNat = k.toNat + 1 from by omega]
  unfold searchAt
  have hn : decide (k.toNat + 1 < st.toNat) = true := by simp; omega
  simp only [hd, hn, h, Bool.and_true, if_true, hs]
  cases b with
  | true =>
    simp only [if_true]
    by_cases he : st + 1 = x.length
    · rw [if_pos he, if_pos (by omega)]
    · rw [if_neg he, if_neg (by omega)]
  | false =>
    simp only [Bool.false_eq_true, if_false]
    by_cases he : st = x.length
    · rw [if_pos he, if_pos (by omega)]
    · rw [if_neg he, if_neg (by omega)]
theorem turn_none {pre : List Int} (hkk : k = 0 + (pre.length : Int)) (hpre : ∀ j < pre.length, searchAt x.cps.toList j = none) (h : searchAt x.cps.toList k.toNat = none) : ∀ j < (pre ++ [k]).length, searchAt x.cps.toList j = none := by
  intro j hj
  rw [List.length_append, List.length_singleton] at hj
  by_cases e : j = pre.length
  · rw [e, show pre.length = k.toNat from by omega]; exact h
  · exact hpre j (by omega)
end
def IsNum : Value → Option (List Nat) → Prop
  | v, none => v = .none
  | v, some l => ∃ y t, v = .str y t ∧ y.cps.toList = l
def IsStar : Value → Bool → Prop
  | v, false => v = .none
  | v, true => ∃ t, v = .str (PySem.Str.ofString "*") t
theorem search_last (l : List Nat) : searchAt l l.length ≠ none := by
  rw [searchAt_eq (Nat.le_refl _), List.drop_length]
  decide
end Mine
namespace Mine
def notDig : Str → Bool := fun a => !!(Builtin.Str.occurrences (Str.ofString "0123456789") a 0 (Str.ofString "0123456789").length 1).isEmpty
def ov : Option Str → Tok → Value
  | none, _ => .none
  | some y, t => .str y t
def markOf (x : Str) : Option (Option Str × Option Str) :=
  let st : Option Str := if Txt.slice x (some (-1)) none == Str.ofString "*" then some (Str.ofString "*") else none
  let rest := if Txt.slice x (some (-1)) none == Str.ofString "*" then Txt.slice x none (some (-1)) else x
  if rest == Str.ofString "" then some (none, st)
  else if Txt.item rest 0 != Str.ofString "*" then none
  else if rest == Str.ofString "*" then none
  else if decide (0 < (((signs (Txt.slice rest (some 1) none)).filter notDig).map PyData.str).length) then none
  else some (some (Txt.slice rest (some 1) none), st)
theorem mk_len {y : Str} {p : Str → Bool} (h : y.length ≤ 9) : (((signs y).filter p).map PyData.str).length ≤ 2 ^ 20 := by
  rw [List.length_map]
  have := List.length_filter_le p (signs y)
  rw [signs_length] at this
  omega
theorem last_star (x : Str) : (Txt.slice x (some (-1)) none == Str.ofString "*") = (x.cps.toList.getLast? == some 42) := by
  rw [str_beq, star_cps, slice_m1, ← len_cps]
  generalize x.cps.toList = l
  rcases List.eq_nil_or_concat l with rfl | ⟨a, b, rfl⟩
  · rfl
  · rw [List.concat_eq_append, List.getLast?_concat, List.length_append, List.length_singleton, Nat.add_sub_cancel, List.drop_append_of_le_length (Nat.le_refl _), List.drop_length, List.nil_append, Bool.eq_iff_iff]
    simp
theorem is_empty (r : Str) : (r == Str.ofString "") = decide (r.cps.toList = []) := by
  rw [str_beq, empty_cps, Bool.eq_iff_iff]
  simp
theorem is_star (r : Str) : (r == Str.ofString "*") = decide (r.cps.toList = [42]) := by
  rw [str_beq, star_cps, Bool.eq_iff_iff]
  simp
theorem head_star {r : Str} (h : r.cps.toList ≠ []) : (Txt.item r 0 != Str.ofString "*") = decide (r.cps.toList.head? ≠ some 42) := by
  have hl := len_cps r
  have hp : 0 < r.cps.toList.length := List.length_pos_iff.mpr h
  rw [str_bne, star_cps, item_at (Int.le_refl _) (by omega)]
  show ([r.cps.toList.getD 0 0] != [42]) = _
  cases hc : r.cps.toList with
  | nil => exact absurd hc h
  | cons c t => rw [Bool.eq_iff_iff]; simp
theorem bad_signs (r : Str) : decide (0 < (((signs (Txt.slice r (some 1) none)).filter notDig).map PyData.str).length) = r.cps.toList.tail.any (fun c => !isD c) := by
  rw [List.length_map]
  unfold signs
  rw [slice_a (by omega), show (1 : Int).toNat = 1 from rfl, List.drop_one, List.filter_map, List.length_map]
  have e : (notDig ∘ fun n : Nat => (⟨#[n]⟩ : Str)) = fun c => !isD c := by
    funext c
    show (!!(Builtin.Str.occurrences (Str.ofString "0123456789") ⟨#[c]⟩ 0 (Str.ofString "0123456789").length 1).isEmpty) = _
    rw [in_digits, Bool.not_not]
  rw [e, Bool.eq_iff_iff, decide_eq_true_eq, List.length_pos_iff, List.any_eq_true]
  constructor
  · intro h
    obtain ⟨c, hc⟩ := List.exists_mem_of_ne_nil _ h
    rw [List.mem_filter] at hc
    exact ⟨c, hc.1, hc.2⟩
  · rintro ⟨c, h1, h2⟩ h
    have : c ∈ r.cps.toList.tail.filter (fun c => !isD c) := List.mem_filter.mpr ⟨h1, h2⟩
    rw [h] at this
    cases this
theorem markOf_eq (x : Str) : markL x.cps.toList = (markOf x).map (fun r => (r.1.map (fun y => y.cps.toList), r.2.isSome)) := by
  unfold markL markOf
  simp only [last_star]
  have main : ∀ (r : Str) (b : Bool), (if r.cps.toList = [] then some (none, b)
      else if r.cps.toList.head? ≠ some 42 then none
      else if r.cps.toList = [42] then none
      else if r.cps.toList.tail.any (fun c => !isD c) = true then none
      else some (some r.cps.toList.tail, b)) =
      Option.map (fun r : Option Str × Option Str => (r.1.map (fun y => y.cps.toList), r.2.isSome)) (if (r == Str.ofString "") = true then some (none, if b = true then some (Str.ofString "*") else none)
      else if (Txt.item r 0 != Str.ofString "*") = true then none
      else if (r == Str.ofString "*") = true then none
      else if decide (0 < (((signs (Txt.slice r (some 1) none)).filter notDig).map PyData.str).length) = true then none
      else some (some (Txt.slice r (some 1) none), if b = true then some (Str.ofString "*") else none)) := by
    intro r b
    rw [is_empty, is_star, bad_signs]
    by_cases h1 : r.cps.toList = []
    · rw [if_pos h1, if_pos (show decide (r.cps.toList = []) = true from decide_eq_true h1)]
      cases b <;> rfl
    · rw [if_neg h1, if_neg (show ¬ decide (r.cps.toList = []) = true from fun h => h1 (of_decide_eq_true h)), head_star h1]
      by_cases h2 : r.cps.toList.head? ≠ some 42
      · rw [if_pos h2, if_pos (show decide (r.cps.toList.head? ≠ some 42) = true from decide_eq_true h2)]; rfl
      · rw [if_neg h2, if_neg (show ¬ decide (r.cps.toList.head? ≠ some 42) = true from fun h => h2 (of_decide_eq_true h))]
        by_cases h3 : r.cps.toList = [42]
        · rw [if_pos h3, if_pos (show decide (r.cps.toList = [42]) = true from decide_eq_true h3)]; rfl
        · rw [if_neg h3, if_neg (show ¬ decide (r.cps.toList = [42]) = true from fun h => h3 (of_decide_eq_true h))]
          by_cases h4 : r.cps.toList.tail.any (fun c => !isD c) = true
          · rw [if_pos h4, if_pos h4]; rfl
          · rw [if_neg h4, if_neg h4]
            have hs : (Txt.slice r (some 1) none).cps.toList = r.cps.toList.tail := by rw [slice_a (by omega), show (1 : Int).toNat = 1 from rfl, List.drop_one]
            cases b <;> simp [hs]
  cases hb : (x.cps.toList.getLast? == some 42) with
  | true =>
    simp only [if_true]
    have q := main (Txt.slice x none (some (-1))) true
    rw [slice_to_m1] at q
    simpa only [if_true] using q
  | false =>
    simp only [Bool.false_eq_true, if_false]
    have q := main x false
    simpa only [Bool.false_eq_true, if_false] using q
theorem markOf_star {x : Str} {v1 v2 : Option Str} (h : markOf x = some (v1, v2)) : v2 = none ∨ v2 = some (Str.ofString "*") := by
  revert h
  unfold markOf
  dsimp only
  (repeat' split) <;> intro h <;> first
    | (cases h; done)
    | (have e := congrArg Prod.snd (Option.some.inj h); dsimp only at e; rw [← e]; simp)
theorem mark_none {x : Str} (h : markOf x = none) : markL x.cps.toList = none := by rw [markOf_eq, h]; rfl
theorem mark_some {x : Str} {v1 v2 : Option Str} (h : markOf x = some (v1, v2)) : ∃ n b, markL x.cps.toList = some (n, b) ∧ (∀ t, IsNum (ov v1 t) n) ∧ (∀ t, IsStar (ov v2 t) b) := by
  refine ⟨v1.map (fun y => y.cps.toList), v2.isSome, by rw [markOf_eq, h]; rfl, fun t => ?_, fun t => ?_⟩
  · cases v1 with
    | none => rfl
    | some y => exact ⟨y, t, rfl, rfl⟩
  · rcases markOf_star h with rfl | rfl
    · rfl
    · exact ⟨t, rfl⟩
end Mine
namespace Mine
section
variable {prog : Program} {w : World} {A : Around} {h₀ : Heap} {L : Addr} {m : Str → Option Value} {env : Env} {ct elt : Expr} {x : Str} {scope : Scope} {cl : List (Str × Addr)} {s : Shared} {Fin : List Value → List (Addr × Obj) → Prop}
def NameEnd (led : Int → Tok → List (Addr × Obj)) (a1 : Int) (y : Value) (news' : List (Addr × Obj)) : Prop := ∃ z u t', y = .str z u ∧ z.length = 1 ∧ news' = led a1 t'
theorem names_rest {n : Nat} (led : Int → Tok → List (Addr × Obj)) (a0 : Int) (t0 : Tok)
    (turn : ∀ (i : Nat) t I oI C oC D m₂ ys h tk (E' : Value → Shared → Prop), i < n → LCg.NsObj oC m₂ → Fr h₀ L h m → News h₀ L h ((I, oI) :: (C, oC) :: (D, LCg.lst ys) :: led (a0 + i) t) → LCg.Off3 I C D (led (a0 + i) t) → ((@Ne Nat I C) ∧ (@Ne Nat I D) ∧ (@Ne Nat C D)) →
      wpAny (model prog w) A (eval elt (compEnvC scope cl C env)) (LCg.CompEnd h₀ L m { s with heap := h, toks := tk } I oI C oC D (LCg.lst ys) (fun _ => True) (fun y news' => NameEnd led (a0 + i + 1) y news')) E' { s with heap := h, toks := tk })
    (fin : ∀ ys zs t, StrsAre ys zs → (∀ z ∈ zs, z.length = 1) → zs.length = n → Fin ys (led (a0 + n) t)) :
    LCg.CompRest prog w A h₀ L m env elt x scope cl s (fun _ => True) (fun i v => ∃ t, v = .int (0 + (i : Int)) t) Fin n 0 [] (led a0 t0) := by
  have key : ∀ (j i : Nat) (ys : List Value) (zs : List Str) (t : Tok), i + j = n → StrsAre ys zs → (∀ z ∈ zs, z.length = 1) → zs.length = i →
      LCg.CompRest prog w A h₀ L m env elt x scope cl s (fun _ => True) (fun i v => ∃ t, v = .int (0 + (i : Int)) t) Fin j i ys (led (a0 + i) t) := by
    intro j
    induction j with
    | zero =>
      intro i ys zs t hi hy h1 hl
      have e : i = n := by omega
      subst e
      exact LCg.CompRest.zero (fin ys zs t hy h1 hl)
    | succ j ih =>
      intro i ys zs t hi hy h1 hl
      refine LCg.CompRest.succ ?_
      intro v I oI C oC D m₂ h tk E' hv hC hx F N off ne
      refine wpAny_mono (turn i t I oI C oC D m₂ ys h tk E' (by omega) hC F N off ne) (fun y s₂ hq => ?_) fun _ _ e => e
      obtain ⟨h', tk', nw, e, F', N', off', hS, z, u, t', hy', hz, hn⟩ := hq
      rw [hn] at N' off'
      refine ⟨h', tk', _, e, F', N', off', trivial, ?_⟩
      rw [hy']
      have q := ih (i + 1) (ys ++ [.str z u]) (zs ++ [z]) t' (by omega) (kct_snoc hy) (fun y hy => by
        rcases List.mem_append.mp hy with h | h
        · exact h1 y h
        · rw [List.mem_singleton.mp h]; exact hz) (by rw [List.length_append, List.length_singleton, hl])
      have e1 : a0 + ((i + 1 : Nat) : Int) = a0 + i + 1 := by omega
      rw [e1] at q
      exact q
  have q := key n 0 [] [] t0 (by omega) .nil (fun _ h => nomatch h) rfl
  have e1 : a0 + ((0 : Nat) : Int) = a0 := by omega
  rw [e1] at q
  exact q
def PlaceYes (led : List (Addr × Obj)) (b : Bool) (i : Nat) (y : Value) (news' : List (Addr × Obj)) : Prop := b = true ∧ (∃ t, y = .int (i : Int) t) ∧ news' = led
def PlaceNo (led : List (Addr × Obj)) (b : Bool) (news' : List (Addr × Obj)) : Prop := b = false ∧ news' = led
theorem places_rest {n : Nat} (g : Nat → Bool) {led : List (Addr × Obj)}
    (turn : ∀ (i : Nat) t I oI C oC D m₂ ys h tk (E' : Value → Shared → Prop), i < n → LCg.NsObj oC m₂ → m₂ x = some (.int (i : Int) t) → Fr h₀ L h m → News h₀ L h ((I, oI) :: (C, oC) :: (D, LCg.lst ys) :: led) → LCg.Off3 I C D led → ((@Ne Nat I C) ∧ (@Ne Nat I D) ∧ (@Ne Nat C D)) →
      wpAny (model prog w) A (isTrue ct (compEnvC scope cl C env) (eval ct (compEnvC scope cl C env))) (fun ok s' => if ok = true then
        wpAny (model prog w) A (eval elt (compEnvC scope cl C env)) (LCg.CompEnd h₀ L m { s with heap := h, toks := tk } I oI C oC D (LCg.lst ys) (fun _ => True) (fun y news' => PlaceYes led (g i) i y news')) E' s'
        else LCg.CompEnd h₀ L m { s with heap := h, toks := tk } I oI C oC D (LCg.lst ys) (fun _ => True) (fun _ news' => PlaceNo led (g i) news') Value.none s') E' { s with heap := h, toks := tk })
    (fin : ∀ ys, IntsAre ys (((List.range n).filter g).map (fun i : Nat => (i : Int))) → Fin ys led) :
    LCt.CompRestT prog w A h₀ L m env ct elt x scope cl s (fun _ => True) (fun i v => ∃ t, v = .int (0 + (i : Int)) t) Fin n 0 [] led := by
  have key : ∀ (j i : Nat) (ys : List Value), i + j = n → IntsAre ys (((List.range i).filter g).map (fun i : Nat => (i : Int))) →
      LCt.CompRestT prog w A h₀ L m env ct elt x scope cl s (fun _ => True) (fun i v => ∃ t, v = .int (0 + (i : Int)) t) Fin j i ys led := by
    intro j
    induction j with
    | zero =>
      intro i ys hi hy
      have e : i = n := by omega
      subst e
      exact LCt.CompRestT.zero (fin ys hy)
    | succ j ih =>
      intro i ys hi hy
      refine LCt.CompRestT.succ ?_
      intro v I oI C oC D m₂ h tk E' hv hC hx F N off ne
      obtain ⟨t, rfl⟩ := hv
      rw [Int.zero_add] at hx
      refine wpAny_mono (turn i t I oI C oC D m₂ ys h tk E' (by omega) hC hx F N off ne) (fun ok s₂ hq => ?_) fun _ _ e => e
      cases ok with
      | true =>
        simp only [if_true] at hq ⊢
        refine wpAny_mono hq (fun y s₃ hq => ?_) fun _ _ e => e
        obtain ⟨h', tk', nw, e, F', N', off', hS, hb, ⟨u, hy'⟩, hn⟩ := hq
        rw [hn] at N' off'
        refine ⟨h', tk', _, e, F', N', off', trivial, ?_⟩
        rw [hy']
        refine ih (i + 1) _ (by omega) ?_
        rw [List.range_succ, List.filter_append, List.map_append]
        have e1 : ([i].filter g).map (fun i : Nat => (i : Int)) = [(i : Int)] := by simp [hb]
        rw [e1]
        exact IntsAre.append hy (.cons _ u .nil)
      | false =>
        simp only [Bool.false_eq_true, if_false] at hq ⊢
        obtain ⟨h', tk', nw, e, F', N', off', hS, hb, hn⟩ := hq
        rw [hn] at N' off'
        refine ⟨h', tk', _, e, F', N', off', trivial, ?_⟩
        refine ih (i + 1) _ (by omega) ?_
        rw [List.range_succ, List.filter_append, List.map_append]
        have e1 : ([i].filter g).map (fun i : Nat => (i : Int)) = [] := by simp [hb]
        rw [e1, List.append_nil]
        exact hy
  exact key n 0 [] (by omega) .nil
end
/-- the first place that holds -/
theorem first_place {n k : Nat} {g : Nat → Bool} (hk : k < n) (hg : g k = true) (hj : ∀ j < k, g j = false) : ∃ r, ((List.range n).filter g).map (fun i : Nat => (i : Int)) = (k : Int) :: r := by
  have e : List.range n = List.range k ++ k :: List.range' (k + 1) (n - k - 1) := by
    obtain ⟨d, rfl⟩ : ∃ d, n = k + (d + 1) := ⟨n - k - 1, by omega⟩
    rw [List.range_eq_range', ← List.range'_append_1, Nat.zero_add, List.range'_succ, List.range_eq_range']
    congr 2
    congr 1
    omega
  have h0 : (List.range k).filter g = [] := by
    rw [List.filter_eq_nil_iff]
    intro a ha
    rw [hj a (List.mem_range.mp ha)]
    decide
  rw [e, List.filter_append, h0, List.nil_append, List.filter_cons, if_pos hg]
  exact ⟨_, rfl⟩
end Mine
namespace Mine
theorem next_ct {prog : Program} {w : World} {p : Program} {loose : List Str} {mean : ExcName → Option Value} {mg mb : Str → Option Value}
    {dp un : Nat} {gd : Option (List Code)} {cn : Str} {cs : Scope} {a : Addr} {ccd : Value} {cl : List (Str × Addr)} {outer : List Env} {A₀ : Around} {base h₀ : Heap} {L : Addr} {m : Str → Option Value} {s : Shared} {Q E : Value → Shared → Prop}
    {st l : Addr} {at' many : Int} {ta tm : Tok} {n1 n2 : Nat} {vs : List Value} {ns : List Int} {own : List (Addr × Obj)}
    (B : Below A₀ base outer h₀) (F : Fr h₀ L s.heap m) (X : (hd.heap_39 w.params).In h₀)
    (N : News h₀ L s.heap ((st, listOf #[.ref l, .int at' ta] n1) :: (l, listOf vs.toArray n2) :: own)) (T : Top p loose mean mg mb h₀) (hk : cs.kind = .function)
    (hoff : OwnOff own [st]) (hne : @Ne Nat st l)
    (hi : IntsAre vs ns) (hl0 : 0 < ns.length) (hl1 : ns.length ≤ 27) (hns : ∀ x ∈ ns, 0 ≤ x ∧ x < 1000003) (ha0 : 0 ≤ at') (ha1 : at' < 1000) (hm0 : 0 < many) (hm1 : many ≤ 100)
    (hdp : dp + 1 < recursionLimit) (hun : un + 8 < cLine)
    (ret : ∀ t1 t2 r h' tk', 0 ≤ r → r < many → Fr h₀ L h' m → News h₀ L h' ((st, listOf #[.ref l, .int (at' + 1) t1] n1) :: (l, listOf vs.toArray n2) :: own) → Q (.int r t2) { s with heap := h', toks := tk' }) :
    wpAny (model prog w) (ktrTop dp un gd cn cs L a ccd cl outer) (call (.ref 99) [.ref st, .int many tm]) Q E s := by
  have hlz : (0 : Int) < (ns.length : Int) := by omega
  have hlz2 : (ns.length : Int) ≠ 0 := by omega
  have hq0 : 0 ≤ at'.fdiv ns.length := Int.fdiv_nonneg ha0 (by omega)
  have hq1 : at'.fdiv ns.length ≤ 1000 := by
    rw [Int.fdiv_eq_ediv_of_nonneg _ (by omega)]
    have := Int.ediv_le_self (a := at') (ns.length : Int) ha0
    omega
  have hq2 : 1 + at'.fdiv ns.length ≠ 0 := by omega
  have hr0 : 0 ≤ at'.fmod ns.length := Int.fmod_nonneg ha0 (by omega)
  have hr1 : at'.fmod ns.length < ns.length := Int.fmod_lt_of_pos _ hlz
  have hv : 0 ≤ ns.getD (at'.fmod ns.length).toNat 0 ∧ ns.getD (at'.fmod ns.length).toNat 0 < 1000003 := by
    have hlt : (at'.fmod ns.length).toNat < ns.length := by omega
    rw [List.getD_eq_getElem?_getD, List.getElem?_eq_getElem hlt]
    exact hns _ (List.getElem_mem hlt)
  obtain ⟨hv0, hv1⟩ := hv
  have hd0 : 0 ≤ (ns.getD (at'.fmod ns.length).toNat 0).fdiv (1 + at'.fdiv ns.length) := Int.fdiv_nonneg hv0 (by omega)
  have hd1 : (ns.getD (at'.fmod ns.length).toNat 0).fdiv (1 + at'.fdiv ns.length) < 1000003 := by
    rw [Int.fdiv_eq_ediv_of_nonneg _ (by omega)]
    have := Int.ediv_le_self (a := ns.getD (at'.fmod ns.length).toNat 0) (1 + at'.fdiv ns.length) hv0
    omega
  have hmz : many ≠ 0 := by omega
  refine wpAny_call ?_
  k_dflt cell_enter
  k_steps
  all_goals (
    rename Fr h₀ L _ m => F9
    rename News h₀ L _ _ => N9
    exact ret _ _ _ _ _ (by rw [Int.fmod_eq_emod_of_nonneg _ (by omega)]; exact Int.emod_nonneg _ hmz) (Int.fmod_lt_of_pos _ hm0) F9 (cb_drop N9 (fun p hp => List.mem_cons_of_mem _ hp)))
theorem next_use {prog : Program} {w : World} {p : Program} {loose : List Str} {mean : ExcName → Option Value} {mg mb : Str → Option Value}
    {dp un : Nat} {gd : Option (List Code)} {cn : Str} {cs : Scope} {a : Addr} {ccd : Value} {cl : List (Str × Addr)} {outer : List Env} {A₀ : Around} {base h₀ : Heap} {L : Addr} {m : Str → Option Value} {s : Shared} {Q E : Value → Shared → Prop}
    {st l : Addr} {at' many : Int} {ta tm : Tok} {n1 n2 : Nat} {vs : List Value} {ns : List Int} {news : List (Addr × Obj)} {g : Obj → List (Addr × Obj)}
    (B : Below A₀ base outer h₀) (F : Fr h₀ L s.heap m) (X : (hd.heap_39 w.params).In h₀)
    (N : News h₀ L s.heap news) (T : Top p loose mean mg mb h₀) (hk : cs.kind = .function)
    (U : UpdF st (listOf #[.ref l, .int at' ta] n1) news g) (hm : (l, listOf vs.toArray n2) ∈ news) (hne : @Ne Nat st l)
    (hi : IntsAre vs ns) (hl0 : 0 < ns.length) (hl1 : ns.length ≤ 27) (hns : ∀ x ∈ ns, 0 ≤ x ∧ x < 1000003) (ha0 : 0 ≤ at') (ha1 : at' < 1000) (hm0 : 0 < many) (hm1 : many ≤ 100)
    (hdp : dp + 1 < recursionLimit) (hun : un + 8 < cLine)
    (ret : ∀ t1 t2 r h' tk', 0 ≤ r → r < many → Fr h₀ L h' m → News h₀ L h' (g (listOf #[.ref l, .int (at' + 1) t1] n1)) → Q (.int r t2) { s with heap := h', toks := tk' }) :
    wpAny (model prog w) (ktrTop dp un gd cn cs L a ccd cl outer) (call (.ref 99) [.ref st, .int many tm]) Q E s := by
  obtain ⟨pre, post, rfl, hg, h1, h2⟩ := U.split
  refine next_ct (own := pre ++ post) (ta := ta) (n1 := n1) (n2 := n2) B F X (cb_drop N fun p hp => ?_) T hk (fun p hp b hb => ?_) hne hi hl0 hl1 hns ha0 ha1 hm0 hm1 hdp hun fun t1 t2 r h' tk' hr0 hr1 F' N' => ret t1 t2 r h' tk' hr0 hr1 F' ?_
  · rcases List.mem_cons.mp hp with rfl | hp
    · exact List.mem_append_right _ (.head _)
    · rcases List.mem_cons.mp hp with rfl | hp
      · exact hm
      · rcases List.mem_append.mp hp with h | h
        · exact List.mem_append_left _ h
        · exact List.mem_append_right _ (.tail _ h)
  · rw [List.mem_singleton.mp hb]
    rcases List.mem_append.mp hp with h | h
    · exact h1 p h
    · exact h2 p h
  · rw [hg]
    refine cb_drop N' fun p hp => ?_
    rcases List.mem_append.mp hp with h | h
    · exact .tail _ (.tail _ (List.mem_append_left _ h))
    · rcases List.mem_cons.mp h with rfl | h
      · exact .head _
      · exact .tail _ (.tail _ (List.mem_append_right _ h))
end Mine
namespace Mine
theorem cut9 {a b : Prop} (h : a) (k : a → b) : b := k h
theorem allLt_mem {d : Addr} : ∀ {l : List (Addr × Obj)}, AllLt d l → ∀ p ∈ l, p.1 < d
  | [], _, _, h => nomatch h
  | q :: r, h, p, hp => by
    rcases List.mem_cons.mp hp with rfl | hp
    · exact h.1
    · exact allLt_mem h.2 p hp
theorem allLt_and {a : Prop} {d : Addr} {l : List (Addr × Obj)} (h : a ∧ AllLt d l) : ∀ p ∈ l, p.1 < d := allLt_mem h.2
local macro_rules | `(tactic| walk_at "truthy ref") => `(tactic| (k_here; (with_reducible show wpAny _ _ (truthy (Value.ref _)) _ _ _); (with_reducible rename CarriedAll _ _ => cA9); (with_unfolding_all refine truthy_list_made (by assumption) cA9 (mk_len (by omega)) ?_)))
theorem mark_ct {prog : Program} {w : World} {p : Program} {loose : List Str} {mean : ExcName → Option Value} {mg mb : Str → Option Value}
    {dp un : Nat} {gd : Option (List Code)} {cn : Str} {cs : Scope} {a : Addr} {ccd : Value} {cl : List (Str × Addr)} {outer : List Env} {A₀ : Around} {base h₀ : Heap} {L : Addr} {m : Str → Option Value} {s : Shared} {Q E : Value → Shared → Prop}
    {x : Str} {tx : Tok} {news : List (Addr × Obj)}
    (B : Below A₀ base outer h₀) (F : Fr h₀ L s.heap m) (X : (hd.heap_39 w.params).In h₀)
    (N : News h₀ L s.heap news) (T : Top p loose mean mg mb h₀) (hk : cs.kind = .function)
    (hx : x.length ≤ 9)
    (hdp : dp + 1 < recursionLimit) (hun : un + 8 < cLine)
    (ret0 : markOf x = none → ∀ h' tk', Fr h₀ L h' m → News h₀ L h' news → Q .none { s with heap := h', toks := tk' })
    (ret1 : ∀ v1 v2, markOf x = some (v1, v2) → ∀ q t1 t2 h' tk', Fr h₀ L h' m → News h₀ L h' ((q, listOf #[ov v1 t1, ov v2 t2] 0) :: news) → (∀ p ∈ news, p.1 < q) → Q (.ref q) { s with heap := h', toks := tk' }) :
    wpAny (model prog w) (ktrTop dp un gd cn cs L a ccd cl outer) (call (.ref 109) [.str x tx]) Q E s := by
  refine wpAny_call ?_
  k_dflt cell_enter
  k_steps
  all_goals (
    rename Fr h₀ L _ m => F9
    rename News h₀ L _ _ => N9
    first
      | exact ret0 (by (clear ret0 ret1; (repeat (rename News _ _ _ _ => nn; clear nn)); (repeat (rename Fr _ _ _ _ => nn; clear nn)); (repeat (rename Below _ _ _ _ => nn; clear nn)); (repeat (rename CarriedAll _ _ => nn; clear nn)); (repeat (rename Heap.In _ _ => nn; clear nn)); (repeat (rename Top _ _ _ _ _ _ => nn; clear nn))); unfold markOf; delta notDig; simp only [*, decide_true, decide_false, if_true, if_false, Bool.false_eq_true]; done) _ _ F9 (cb_drop N9 (fun p hp => by simp [hp]))
      | exact ret1 none (some (Str.ofString "*")) (by (clear ret0 ret1; (repeat (rename News _ _ _ _ => nn; clear nn)); (repeat (rename Fr _ _ _ _ => nn; clear nn)); (repeat (rename Below _ _ _ _ => nn; clear nn)); (repeat (rename CarriedAll _ _ => nn; clear nn)); (repeat (rename Heap.In _ _ => nn; clear nn)); (repeat (rename Top _ _ _ _ _ _ => nn; clear nn))); unfold markOf; delta notDig; simp only [*, decide_true, decide_false, if_true, if_false, Bool.false_eq_true]; done) _ 0 _ _ _ F9 N9 (by assumption)
      | exact ret1 none none (by (clear ret0 ret1; (repeat (rename News _ _ _ _ => nn; clear nn)); (repeat (rename Fr _ _ _ _ => nn; clear nn)); (repeat (rename Below _ _ _ _ => nn; clear nn)); (repeat (rename CarriedAll _ _ => nn; clear nn)); (repeat (rename Heap.In _ _ => nn; clear nn)); (repeat (rename Top _ _ _ _ _ _ => nn; clear nn))); unfold markOf; delta notDig; simp only [*, decide_true, decide_false, if_true, if_false, Bool.false_eq_true]; done) _ 0 0 _ _ F9 N9 (by assumption)
      | (refine cut9 (a := markOf x = some ((some (Txt.slice (Txt.slice x none (some (-1))) (some 1) none)), (some (Str.ofString "*")))) ?_ fun e9 => ?_; (focus (((clear ret0 ret1; (repeat (rename News _ _ _ _ => nn; clear nn)); (repeat (rename Fr _ _ _ _ => nn; clear nn)); (repeat (rename Below _ _ _ _ => nn; clear nn)); (repeat (rename CarriedAll _ _ => nn; clear nn)); (repeat (rename Heap.In _ _ => nn; clear nn)); (repeat (rename Top _ _ _ _ _ _ => nn; clear nn))); unfold markOf; delta notDig; simp only [*, decide_true, decide_false, if_true, if_false, Bool.false_eq_true])); done); exact ret1 (some (Txt.slice (Txt.slice x none (some (-1))) (some 1) none)) (some (Str.ofString "*")) e9 _ _ _ _ _ F9 (cb_drop N9 (fun p hp => by rcases List.mem_cons.mp hp with rfl | hp; exact .head _; exact .tail _ (.tail _ hp))) (allLt_and (by assumption)))
      | (refine cut9 (a := markOf x = some ((some (Txt.slice x (some 1) none)), none)) ?_ fun e9 => ?_; (focus (((clear ret0 ret1; (repeat (rename News _ _ _ _ => nn; clear nn)); (repeat (rename Fr _ _ _ _ => nn; clear nn)); (repeat (rename Below _ _ _ _ => nn; clear nn)); (repeat (rename CarriedAll _ _ => nn; clear nn)); (repeat (rename Heap.In _ _ => nn; clear nn)); (repeat (rename Top _ _ _ _ _ _ => nn; clear nn))); unfold markOf; delta notDig; simp only [*, decide_true, decide_false, if_true, if_false, Bool.false_eq_true])); done); exact ret1 (some (Txt.slice x (some 1) none)) none e9 _ _ 0 _ _ F9 (cb_drop N9 (fun p hp => by rcases List.mem_cons.mp hp with rfl | hp; exact .head _; exact .tail _ (.tail _ hp))) (allLt_and (by assumption))))
theorem mark_ct2 {prog : Program} {w : World} {p : Program} {loose : List Str} {mean : ExcName → Option Value} {mg mb : Str → Option Value}
    {dp un : Nat} {gd : Option (List Code)} {cn : Str} {cs : Scope} {a : Addr} {ccd : Value} {cl : List (Str × Addr)} {outer : List Env} {A₀ : Around} {base h₀ : Heap} {L : Addr} {m : Str → Option Value} {s : Shared} {Q E : Value → Shared → Prop}
    {x : Str} {tx : Tok} {news : List (Addr × Obj)}
    (B : Below A₀ base outer h₀) (F : Fr h₀ L s.heap m) (X : (hd.heap_39 w.params).In h₀)
    (N : News h₀ L s.heap news) (T : Top p loose mean mg mb h₀) (hk : cs.kind = .function)
    (hx : x.length ≤ 9) (hdp : dp + 1 < recursionLimit) (hun : un + 8 < cLine)
    (ret0 : markL x.cps.toList = none → ∀ h' tk', Fr h₀ L h' m → News h₀ L h' news → Q .none { s with heap := h', toks := tk' })
    (ret1 : ∀ n b, markL x.cps.toList = some (n, b) → ∀ q v1 v2 h' tk', IsNum v1 n → IsStar v2 b → Fr h₀ L h' m → News h₀ L h' ((q, listOf #[v1, v2] 0) :: news) → (∀ p ∈ news, p.1 < q) → Q (.ref q) { s with heap := h', toks := tk' }) :
    wpAny (model prog w) (ktrTop dp un gd cn cs L a ccd cl outer) (call (.ref 109) [.str x tx]) Q E s :=
  mark_ct B F X N T hk hx hdp hun (fun h => ret0 (mark_none h)) fun v1 v2 h q t1 t2 h' tk' F' N' hq =>
    let ⟨n, b, e, hn, hb⟩ := mark_some h
    ret1 n b e q _ _ h' tk' (hn t1) (hb t2) F' N' hq
end Mine
namespace Mine
local macro_rules | `(tactic| walk_at "exec For Name Call cons nil") => `(tactic| (k_here; (rename Fr _ _ _ _ => lF'); (with_unfolding_all refine' For_invVF lF' ?k1 ?k2 ?_; (case k1 => exact rfl); (case k2 => exact rfl); k_whole)))
local macro_rules | `(tactic| walk_at "pyIter ref") => `(tactic| k_extra "pyIter ref")
local macro_rules | `(tactic| walk_at "exec While") => `(tactic| k_extra "exec While")
local macro_rules | `(tactic| walk_at "KswEnd") => `(tactic| k_extra "KswEnd")
local macro_rules | `(tactic| walk_at "InvEndN") => `(tactic| k_extra "InvEndN")
local macro_rules | `(tactic| k_room) => `(tactic| ktr_room)
abbrev foundObjs (P : Params) (o dx pl : Addr) (k e : Int) (t1 t2 t3 t4 t5 tg : Tok) (g : Str) (nv bv : Value) : List (Addr × Obj) :=
  [(o, instObj 67 dx),
   (dx, dictOf [⟨PyData.keyHash P (Str.ofString "_start"), .str (Str.ofString "_start") t1, .int k t4⟩, ⟨PyData.keyHash P (Str.ofString "_end"), .str (Str.ofString "_end") t2, .int e t5⟩, ⟨PyData.keyHash P (Str.ofString "_parts"), .str (Str.ofString "_parts") t3, .ref pl⟩] 3),
   (pl, listOf #[.str g tg, nv, bv] 0)]
theorem found_drop {h₀ h : Heap} {L : Addr} {A news own : List (Addr × Obj)} (N : News h₀ L h (A ++ (news ++ own))) : News h₀ L h (A ++ news) :=
  cb_drop N fun p hp => (List.mem_append.mp hp).elim (fun h => List.mem_append.mpr (.inl h)) fun h => List.mem_append.mpr (.inr (List.mem_append.mpr (.inl h)))
theorem search_ct {prog : Program} {w : World} {p : Program} {loose : List Str} {mean : ExcName → Option Value} {mg mb : Str → Option Value}
    {dp un : Nat} {gd : Option (List Code)} {cn : Str} {cs : Scope} {a : Addr} {ccd : Value} {cl : List (Str × Addr)} {outer : List Env} {A₀ : Around} {base h₀ : Heap} {L : Addr} {m : Str → Option Value} {s : Shared} {Q E : Value → Shared → Prop}
    {x : Str} {tx : Tok} {sf : Addr} {news : List (Addr × Obj)}
    (B : Below A₀ base outer h₀) (F : Fr h₀ L s.heap m) (X : (hd.heap_39 w.params).In h₀)
    (N : News h₀ L s.heap news) (T : Top p loose mean mg mb h₀) (hk : cs.kind = .function)
    (hx : x.length ≤ 9)
    (hdp : dp + 10 < recursionLimit) (hun : un + 80 < cLine)
    (ret : ∀ (ki : Int) n b, 0 ≤ ki → ki ≤ x.length → searchAt x.cps.toList ki.toNat = some (n, b) → (∀ j < ki.toNat, searchAt x.cps.toList j = none) →
      ∀ o dx pl t1 t2 t3 t4 t5 tg nv bv h' tk', IsNum nv n → IsStar bv b → Fr h₀ L h' m → News h₀ L h' (foundObjs w.params o dx pl ki x.length t1 t2 t3 t4 t5 tg (Txt.slice x (some ki) (some x.length)) nv bv ++ news) →
        (∀ p ∈ news, p.1 < pl) → @LT.lt Nat _ pl dx → @LT.lt Nat _ dx o → Q (.ref o) { s with heap := h', toks := tk' }) :
    wpAny (model prog w) (ktrTop dp un gd cn cs L a ccd cl outer) (call (.ref 85) [.ref sf, .str x tx]) Q E s := by
  k_with_none
  k_with "pyIter ref" => (
      rename Fr _ _ _ _ => lF'
      rename News _ _ _ _ => lN'
      rename IsRange _ _ _ _ _ _ _ _ => rgX
      with_unfolding_all (refine' kst_range (σ := Unit) (fun _ => news) (fun _ => []) (fun _ => True) [Str.ofString "place", Str.ofString "end", Str.ofString "number", Str.ofString "star", Str.ofString "stop"] (fun pre _ => ∀ j < pre.length, searchAt x.cps.toList j = none) () (by rfl) rgX (by first | exact small_one (by omega) (by omega) (by omega) (by omega) | decide) (by first | exact rangeSize_nat _ _ | rfl) lF' lN' trivial (fun _ h => nomatch h) (fun _ h => absurd h (Nat.not_lt_zero _)) ?_ ?_)
      all_goals (try clear lF' lN' rgX)
      all_goals (dsimp only [List.nil_append])
      rotate_left
      intro _ u hh tk _ hpre F' N'
      rotate_right
      intro _ pre kk tkk u hh tk own hkk hlt hoff _ hpre F' N'
      have hk0 : 0 ≤ kk := by omega
      have hk1 : kk ≤ (x.length : Int) := by omega
      all_goals (try k_fold))
  k_with "exec While" => k_while (fun _ (st : Int) => kk + 1 ≤ st ∧ st ≤ (x.length : Int) ∧ digEnd x.cps.toList (kk.toNat + 1) = digEnd x.cps.toList st.toNat) (fun _ st => x.length - st.toNat) "stop"
  k_with "KswEnd" => k_dflt (
      rename News _ _ _ _ => nE'
      refine ksw_end ⟨_, _⟩ (by assumption) nE' (fun _ h => h) trivial (by kst_all) (by intro z h2 h3; have hz := h2 _ (List.Mem.head _); (try dsimp only at hz); simp only [kstB, if_neg hz, List.contains_nil, Bool.false_eq_true, if_false]) (while_turn (by assumption) hk0 (by assumption) (by assumption) (by assumption)) (by (try dsimp only); omega))
  k_with "InvEndN" => k_dflt (
      rename News _ _ _ _ => nE'
      refine kst_end () (by assumption) nE' (fun p hp => by simp [hp]) (fun p hp => by simp [hp]) rfl trivial (fun _ h => nomatch h) (by intro z h1 h2 h3; have h4 := h3; simp only [List.contains_cons, List.contains_nil, Bool.or_false, Bool.or_eq_false_iff, beq_eq_false_iff_ne, ne_eq] at h4; obtain ⟨q1, q2, q3, q4, q5⟩ := h4; simp only [kstB, q1, q2, q3, q4, q5, h3, Bool.false_eq_true, if_false, List.contains_nil]) (turn_none hkk hpre ?_)
      first
        | exact (fin_i hk0 hk1 (by assumption)).trans (if_neg (by assumption))
        | exact (fin_iii (by assumption) hk0 hk1 (by assumption) (by assumption) (by assumption) (by first | exact Or.inl (by omega) | exact Or.inr (by assumption)) (by assumption) (b := true) (by assumption)).trans (if_neg (by simp only [if_true]; assumption))
        | exact (fin_iii (by assumption) hk0 hk1 (by assumption) (by assumption) (by assumption) (by first | exact Or.inl (by omega) | exact Or.inr (by assumption)) (by assumption) (b := false) (by assumption)).trans (if_neg (by simp only [Bool.false_eq_true, if_false]; assumption))
        | exact (fin_ii (by assumption) hk0 hk1 (by assumption) (by assumption) (by assumption) (by first | exact Or.inl (by omega) | exact Or.inr (by assumption)) (by omega)).trans (if_neg (by assumption)))
  k_with "state" => exact while_start hk0 hk1 (by assumption)
  refine wpAny_call ?_
  k_dflt cell_enter
  k_steps
  rotate_right
  · exact absurd (hpre x.cps.toList.length (by rw [rangeKs_length, len_cps]; omega)) (search_last _)
  all_goals (
    rename Fr h₀ L _ m => F9
    rename News h₀ L _ _ => N9
    rename (_ = (x.length : Int)) => e9
    have hpj : ∀ j < kk.toNat, searchAt x.cps.toList j = none := fun j hj => hpre j (by omega)
    first
      | (have hS := (fin_i hk0 hk1 (by assumption)).trans (if_pos e9)
         rw [e9] at N9 hpj hS
         exact ret x.length none false (by omega) (by omega) hS hpj _ _ _ _ _ _ _ _ _ .none .none _ _ rfl rfl F9 (found_drop N9) (fun p hp => (by assumption : ∀ p ∈ news ++ own, p.1 < _) p (List.mem_append_left _ hp)) (And.left (by assumption)) (by assumption))
      | (have hS := (fin_iii (by assumption) hk0 hk1 (by assumption) (by assumption) (by assumption) (by first | exact Or.inl (by omega) | exact Or.inr (by assumption)) (by assumption) (b := true) (by assumption)).trans (if_pos (by simp only [if_true]; exact e9))
         rw [e9] at N9
         exact ret kk _ true hk0 hk1 hS hpj _ _ _ _ _ _ _ _ _ (.str _ _) (.str _ _) _ _ ⟨_, _, rfl, rfl⟩ ⟨_, rfl⟩ F9 (found_drop N9) (fun p hp => (by assumption : ∀ p ∈ news ++ own, p.1 < _) p (List.mem_append_left _ hp)) (And.left (by assumption)) (by assumption))
      | (have hS := (fin_iii (by assumption) hk0 hk1 (by assumption) (by assumption) (by assumption) (by first | exact Or.inl (by omega) | exact Or.inr (by assumption)) (by assumption) (b := false) (by assumption)).trans (if_pos (by simp only [Bool.false_eq_true, if_false]; exact e9))
         rw [e9] at N9 hS
         exact ret kk _ false hk0 hk1 hS hpj _ _ _ _ _ _ _ _ _ (.str _ _) .none _ _ ⟨_, _, rfl, rfl⟩ rfl F9 (found_drop N9) (fun p hp => (by assumption : ∀ p ∈ news ++ own, p.1 < _) p (List.mem_append_left _ hp)) (And.left (by assumption)) (by assumption))
      | (have hS := (fin_ii (by assumption) hk0 hk1 (by assumption) (by assumption) (by assumption) (by first | exact Or.inl (by omega) | exact Or.inr (by assumption)) (by omega)).trans (if_pos e9)
         rw [e9] at N9
         exact ret kk none true hk0 hk1 hS hpj _ _ _ _ _ _ _ _ _ .none (.str _ _) _ _ rfl ⟨_, rfl⟩ F9 (found_drop N9) (fun p hp => (by assumption : ∀ p ∈ news ++ own, p.1 < _) p (List.mem_append_left _ hp)) (And.left (by assumption)) (by assumption)))
end Mine
namespace Mine
section
variable {prog : Program} {w : World} {p : Program} {loose : List Str} {mean : ExcName → Option Value} {mg mb : Str → Option Value}
    {dp un : Nat} {gd : Option (List Code)} {cn : Str} {cs : Scope} {a : Addr} {ccd : Value} {cl : List (Str × Addr)} {outer : List Env} {A₀ : Around} {base h₀ : Heap} {L : Addr} {m : Str → Option Value} {s : Shared} {Q E : Value → Shared → Prop}
    {o dx pl : Addr} {k e : Int} {t1 t2 t3 t4 t5 ta : Tok} {v0 v1 v2 : Value} {news : List (Addr × Obj)}
abbrev foundDict (P : Params) (pl : Addr) (k e : Int) (t1 t2 t3 t4 t5 : Tok) : Obj :=
  dictOf [⟨PyData.keyHash P (Str.ofString "_start"), .str (Str.ofString "_start") t1, .int k t4⟩, ⟨PyData.keyHash P (Str.ofString "_end"), .str (Str.ofString "_end") t2, .int e t5⟩, ⟨PyData.keyHash P (Str.ofString "_parts"), .str (Str.ofString "_parts") t3, .ref pl⟩] 3
local macro_rules | `(tactic| walk_at "subscriptTail") => `(tactic| k_extra "subscriptTail")
theorem start_c (B : Below A₀ base outer h₀) (F : Fr h₀ L s.heap m) (X : (hd.heap_39 w.params).In h₀)
    (N : News h₀ L s.heap news) (T : Top p loose mean mg mb h₀) (hk : cs.kind = .function)
    (h1 : (o, instObj 67 dx) ∈ news) (h2 : (dx, foundDict w.params pl k e t1 t2 t3 t4 t5) ∈ news)
    (hdp : dp + 1 < recursionLimit) (hun : un + 8 < cLine)
    (ret : ∀ h' tk', Fr h₀ L h' m → News h₀ L h' news → Q (.int k t4) { s with heap := h', toks := tk' }) :
    wpAny (model prog w) (ktrTop dp un gd cn cs L a ccd cl outer) (call (.ref 42) [.ref o]) Q E s := by
  refine wpAny_call ?_
  k_dflt cell_enter
  k_steps
  all_goals (
    rename Fr h₀ L _ m => F9
    rename News h₀ L _ _ => N9
    exact ret _ _ F9 N9)
theorem end_c (B : Below A₀ base outer h₀) (F : Fr h₀ L s.heap m) (X : (hd.heap_39 w.params).In h₀)
    (N : News h₀ L s.heap news) (T : Top p loose mean mg mb h₀) (hk : cs.kind = .function)
    (h1 : (o, instObj 67 dx) ∈ news) (h2 : (dx, foundDict w.params pl k e t1 t2 t3 t4 t5) ∈ news)
    (hdp : dp + 1 < recursionLimit) (hun : un + 8 < cLine)
    (ret : ∀ h' tk', Fr h₀ L h' m → News h₀ L h' news → Q (.int e t5) { s with heap := h', toks := tk' }) :
    wpAny (model prog w) (ktrTop dp un gd cn cs L a ccd cl outer) (call (.ref 49) [.ref o]) Q E s := by
  refine wpAny_call ?_
  k_dflt cell_enter
  k_steps
  all_goals (
    rename Fr h₀ L _ m => F9
    rename News h₀ L _ _ => N9
    exact ret _ _ F9 N9)
theorem group0_c (B : Below A₀ base outer h₀) (F : Fr h₀ L s.heap m) (X : (hd.heap_39 w.params).In h₀)
    (N : News h₀ L s.heap news) (T : Top p loose mean mg mb h₀) (hk : cs.kind = .function)
    (h1 : (o, instObj 67 dx) ∈ news) (h2 : (dx, foundDict w.params pl k e t1 t2 t3 t4 t5) ∈ news) (h3 : (pl, listOf #[v0, v1, v2] 0) ∈ news)
    (hdp : dp + 1 < recursionLimit) (hun : un + 8 < cLine)
    (ret : ∀ h' tk', Fr h₀ L h' m → News h₀ L h' news → Q v0 { s with heap := h', toks := tk' }) :
    wpAny (model prog w) (ktrTop dp un gd cn cs L a ccd cl outer) (call (.ref 57) [.ref o, .int 0 ta]) Q E s := by
  k_with_none
  k_with "subscriptTail" => k_dflt (refine item_litK (News.isList (by k_asm) h3) (by decide) (by decide) (by rfl) ?_ (by with_unfolding_all rfl))
  refine wpAny_call ?_
  k_dflt (refine' code_def ?k1 ?k2 ?k3 ?k4 ?k5 ?kA ?kF ?kK ?k6 ?k7 ?k8 ?k9 ?kB ?_ ?c2 ?c3 ?c4 ?c5; (case kA => exact rfl); (case kF => exact rfl); (case kK => assumption); (case k1 => k_asm); (case k2 => k_asm); (case k3 => k_asm); (case k4 => k_asm); (case k5 => k_asm); (case k6 => k_is); (case k7 => k_is); (case k8 => ktr_room); (case k9 => exact binds_K (by k_in) rfl (by k_is) rfl rfl rfl); (case c5 => decide); (case kB => exact locs rfl); (case c2 => exact rfl); (case c3 => exact rfl); (case c4 => exact rfl); k_whole; intro g' L' h' FG' F' N' B' X' T'; (try dsimp only); (try k_lift B'); (try k_fold))
  k_steps
  all_goals (
    rename Fr h₀ L _ m => F9
    rename News h₀ L _ _ => N9
    exact ret _ _ F9 N9)
theorem group1_c (B : Below A₀ base outer h₀) (F : Fr h₀ L s.heap m) (X : (hd.heap_39 w.params).In h₀)
    (N : News h₀ L s.heap news) (T : Top p loose mean mg mb h₀) (hk : cs.kind = .function)
    (h1 : (o, instObj 67 dx) ∈ news) (h2 : (dx, foundDict w.params pl k e t1 t2 t3 t4 t5) ∈ news) (h3 : (pl, listOf #[v0, v1, v2] 0) ∈ news)
    (hdp : dp + 1 < recursionLimit) (hun : un + 8 < cLine)
    (ret : ∀ h' tk', Fr h₀ L h' m → News h₀ L h' news → Q v1 { s with heap := h', toks := tk' }) :
    wpAny (model prog w) (ktrTop dp un gd cn cs L a ccd cl outer) (call (.ref 57) [.ref o, .int 1 ta]) Q E s := by
  k_with_none
  k_with "subscriptTail" => k_dflt (refine item_litK (News.isList (by k_asm) h3) (by decide) (by decide) (by rfl) ?_ (by with_unfolding_all rfl))
  refine wpAny_call ?_
  k_dflt (refine' code_def ?k1 ?k2 ?k3 ?k4 ?k5 ?kA ?kF ?kK ?k6 ?k7 ?k8 ?k9 ?kB ?_ ?c2 ?c3 ?c4 ?c5; (case kA => exact rfl); (case kF => exact rfl); (case kK => assumption); (case k1 => k_asm); (case k2 => k_asm); (case k3 => k_asm); (case k4 => k_asm); (case k5 => k_asm); (case k6 => k_is); (case k7 => k_is); (case k8 => ktr_room); (case k9 => exact binds_K (by k_in) rfl (by k_is) rfl rfl rfl); (case c5 => decide); (case kB => exact locs rfl); (case c2 => exact rfl); (case c3 => exact rfl); (case c4 => exact rfl); k_whole; intro g' L' h' FG' F' N' B' X' T'; (try dsimp only); (try k_lift B'); (try k_fold))
  k_steps
  all_goals (
    rename Fr h₀ L _ m => F9
    rename News h₀ L _ _ => N9
    exact ret _ _ F9 N9)
theorem group2_c (B : Below A₀ base outer h₀) (F : Fr h₀ L s.heap m) (X : (hd.heap_39 w.params).In h₀)
    (N : News h₀ L s.heap news) (T : Top p loose mean mg mb h₀) (hk : cs.kind = .function)
    (h1 : (o, instObj 67 dx) ∈ news) (h2 : (dx, foundDict w.params pl k e t1 t2 t3 t4 t5) ∈ news) (h3 : (pl, listOf #[v0, v1, v2] 0) ∈ news)
    (hdp : dp + 1 < recursionLimit) (hun : un + 8 < cLine)
    (ret : ∀ h' tk', Fr h₀ L h' m → News h₀ L h' news → Q v2 { s with heap := h', toks := tk' }) :
    wpAny (model prog w) (ktrTop dp un gd cn cs L a ccd cl outer) (call (.ref 57) [.ref o, .int 2 ta]) Q E s := by
  k_with_none
  k_with "subscriptTail" => k_dflt (refine item_litK (News.isList (by k_asm) h3) (by decide) (by decide) (by rfl) ?_ (by with_unfolding_all rfl))
  refine wpAny_call ?_
  k_dflt (refine' code_def ?k1 ?k2 ?k3 ?k4 ?k5 ?kA ?kF ?kK ?k6 ?k7 ?k8 ?k9 ?kB ?_ ?c2 ?c3 ?c4 ?c5; (case kA => exact rfl); (case kF => exact rfl); (case kK => assumption); (case k1 => k_asm); (case k2 => k_asm); (case k3 => k_asm); (case k4 => k_asm); (case k5 => k_asm); (case k6 => k_is); (case k7 => k_is); (case k8 => ktr_room); (case k9 => exact binds_K (by k_in) rfl (by k_is) rfl rfl rfl); (case c5 => decide); (case kB => exact locs rfl); (case c2 => exact rfl); (case c3 => exact rfl); (case c4 => exact rfl); k_whole; intro g' L' h' FG' F' N' B' X' T'; (try dsimp only); (try k_lift B'); (try k_fold))
  k_steps
  all_goals (
    rename Fr h₀ L _ m => F9
    rename News h₀ L _ _ => N9
    exact ret _ _ F9 N9)
end
end Mine
namespace Mine
theorem markL_digits {l n : List Nat} {b : Bool} (h : markL l = some (some n, b)) : ∀ c ∈ n, isD c = true := by
  unfold markL at h
  dsimp only at h
  generalize (if (l.getLast? == some 42) = true then l.dropLast else l) = r at h
  by_cases h1 : r = []
  · rw [if_pos h1] at h; cases h
  · rw [if_neg h1] at h
    by_cases h2 : r.head? ≠ some 42
    · rw [if_pos h2] at h; cases h
    · rw [if_neg h2] at h
      by_cases h3 : r = [42]
      · rw [if_pos h3] at h; cases h
      · rw [if_neg h3] at h
        by_cases h4 : r.tail.any (fun c => !isD c) = true
        · rw [if_pos h4] at h; cases h
        · rw [if_neg h4] at h
          cases h
          intro c hc
          cases hd : isD c with
          | true => rfl
          | false => exact absurd (List.any_eq_true.mpr ⟨c, hc, by rw [hd]; rfl⟩) h4
def Plainly (y : Str) : Prop := (y.cps.all (· < 0x110000)) = true
theorem plainly_star : Plainly (Str.ofString "*") := by
  have e : Str.ofString "*" = ⟨#[42]⟩ := by decide +kernel
  rw [e]; unfold Plainly; simp
/-- one value, but for its token -/
def Twin (v u : Value) : Prop := (v = .none ∧ u = .none) ∨ ∃ y t t', v = .str y t ∧ u = .str y t' ∧ Plainly y
theorem num_twin {v u : Value} {l : List Nat} {r : Option (List Nat) × Bool} (hM : markL l = some r) (h : IsNum v r.1) (h' : IsNum u r.1) : Twin v u := by
  obtain ⟨n, b⟩ := r
  cases n with
  | none => cases h; cases h'; exact .inl ⟨rfl, rfl⟩
  | some n =>
    obtain ⟨y, t, rfl, hy1⟩ := h
    obtain ⟨y', t', rfl, hy⟩ := h'
    have e : y' = y := by cases y; cases y'; congr 1; exact Array.toList_inj.mp (hy.trans hy1.symm)
    subst e
    refine .inr ⟨_, _, _, rfl, rfl, ?_⟩
    unfold Plainly
    rw [← Array.all_toList, hy, List.all_eq_true]
    intro c hc
    have := markL_digits hM c hc
    unfold isD at this
    simp at this ⊢
    omega
theorem star_twin {v u : Value} {b : Bool} (h : IsStar v b) (h' : IsStar u b) : Twin v u := by
  cases b with
  | false => cases h; cases h'; exact .inl ⟨rfl, rfl⟩
  | true =>
    obtain ⟨t, rfl⟩ := h
    obtain ⟨t', rfl⟩ := h'
    exact .inr ⟨_, _, _, rfl, rfl, plainly_star⟩
theorem carried_twin {v u : Value} (h : Twin v u) : ∃ d, Carried v d ∧ Carried u d ∧ PyData.canLay0 d = true ∧ PyData.depth d = 0 ∧ PyData.eqv d d = true := by
  rcases h with ⟨rfl, rfl⟩ | ⟨y, t, t', rfl, rfl, hy⟩
  · exact ⟨_, .none, .none, rfl, rfl, rfl⟩
  · exact ⟨.str y, .str _ _, .str _ _, hy, rfl, by simp [PyData.eqv]⟩
theorem ne_twins {prog : Program} {w : World} {A : Around} {E : Value → Shared → Prop} {s : Shared} {a b : Addr} {p e : Int} {t1 t2 t3 t4 : Tok} {v2 v3 u2 u3 : Value} {Q : Value → Shared → Prop}
    (ha : s.heap.IsList a #[.int p t1, .int e t2, v2, v3]) (hb : s.heap.IsList b #[.int p t3, .int e t4, u2, u3]) (h2 : Twin v2 u2) (h3 : Twin v3 u3) (hu : A.units + 64 < cLine) (h : Q (.bool false) s) :
    wpAny (model prog w) A (compareOp .NotEq (.ref a) (.ref b)) Q E s := by
  obtain ⟨d2, a2, b2, c2, e2, f2⟩ := carried_twin h2
  obtain ⟨d3, a3, b3, c3, e3, f3⟩ := carried_twin h3
  have hs : SeqAt.shaped (.list [.int p, .int e, d2, d3]) = true := by
    unfold SeqAt.shaped
    simp [PyData.canLay0, PyData.canLayAll0, PyData.depth, PyData.depthAll, c2, c3, e2, e3]
  have he : PyData.eqv (.list [.int p, .int e, d2, d3]) (.list [.int p, .int e, d2, d3]) = true := by
    simp [PyData.eqv, PyData.eqvAll, f2, f3]
  refine ne_dataH (reads_newData (ys := [_, _, _, _]) ha (.cons (.int _ _) (.cons (.int _ _) (.cons a2 (.cons a3 .nil))))) (reads_newData (ys := [_, _, _, _]) hb (.cons (.int _ _) (.cons (.int _ _) (.cons b2 (.cons b3 .nil))))) hs hs hu ?_
  rw [he]
  exact h
end Mine
namespace Mine
/-- the first place at which an end is a mark -/
def First (x : Str) (p : Nat) : Prop := p ≤ x.length ∧ (markL (x.cps.toList.drop p)).isSome = true ∧ ∀ j < p, (markL (x.cps.toList.drop j)).isSome = false
theorem exists_min (g : Nat → Bool) : ∀ n, g n = true → ∃ p, p ≤ n ∧ g p = true ∧ ∀ j < p, g j = false := by
  intro n
  induction n using Nat.strongRecOn with
  | ind n ih =>
    intro h
    by_cases hq : ∃ j, j < n ∧ g j = true
    · obtain ⟨j, hj, hg⟩ := hq
      obtain ⟨p, h1, h2, h3⟩ := ih j hj hg
      exact ⟨p, by omega, h2, h3⟩
    · refine ⟨n, Nat.le_refl _, h, fun j hj => ?_⟩
      cases hg : g j with
      | false => rfl
      | true => exact absurd ⟨j, hj, hg⟩ hq
theorem exists_first (x : Str) : ∃ p, First x p := by
  obtain ⟨p, h1, h2, h3⟩ := exists_min (fun i => (markL (x.cps.toList.drop i)).isSome) x.length (by
    show (markL (x.cps.toList.drop x.length)).isSome = true
    rw [← len_cps, List.drop_length]; rfl)
  exact ⟨p, h1, h2, h3⟩
theorem first_same {x : Str} {p : Nat} {ki : Int} {r : Option (List Nat) × Bool} (h : First x p) (h0 : 0 ≤ ki) (h1 : ki ≤ x.length) (hs : searchAt x.cps.toList ki.toNat = some r) (hj : ∀ j < ki.toNat, searchAt x.cps.toList j = none) :
    ki = (p : Int) ∧ markL (x.cps.toList.drop p) = some r := by
  obtain ⟨a, b, c⟩ := h
  have hl := len_cps x
  rw [searchAt_eq (by omega), searchS_eq] at hs
  have e : ki.toNat = p := by
    rcases Nat.lt_trichotomy ki.toNat p with q | q | q
    · have := c _ q; rw [hs] at this; cases this
    · exact q
    · have := hj _ q; rw [searchAt_eq (by omega), searchS_eq] at this; rw [this] at b; cases b
  rw [e] at hs
  exact ⟨by omega, hs⟩
theorem astar_cps : (Str.ofString "a*").cps.toList = [97, 42] := by decide +kernel
theorem astar_len : (Str.ofString "a*").length = 2 := by decide +kernel
theorem first_astar : First (Str.ofString "a*") 1 := by
  unfold First
  rw [astar_cps, astar_len]
  decide
theorem places_first {x : Str} {p : Nat} (h : First x p) {ys : List Value} (hy : IntsAre ys (((List.range ((x.length : Int) + 1 - 0).toNat).filter (fun i => (markL (x.cps.toList.drop i)).isSome)).map (fun i : Nat => (i : Int)))) :
    ∃ t r, ys = .int (p : Int) t :: r := by
  obtain ⟨a, b, c⟩ := h
  obtain ⟨r, e⟩ := first_place (n := ((x.length : Int) + 1 - 0).toNat) (k := p) (g := fun i => (markL (x.cps.toList.drop i)).isSome) (by omega) b c
  rw [e] at hy
  cases hy with
  | cons _ t r => exact ⟨t, _, rfl⟩
theorem str_of_cps {y y' : Str} (h : y.cps.toList = y'.cps.toList) : y = y' := by
  cases y; cases y'; congr 1; exact Array.toList_inj.mp h
section
variable {prog : Program} {w : World} {p : Program} {loose : List Str} {mean : ExcName → Option Value} {mg mb : Str → Option Value}
    {dp un : Nat} {gd : Option (List Code)} {cn : Str} {cs : Scope} {a : Addr} {ccd : Value} {cl : List (Str × Addr)} {outer : List Env} {A₀ : Around} {base h₀ : Heap} {L : Addr} {m : Str → Option Value} {s : Shared} {Q E : Value → Shared → Prop}
    {x : Str} {tx : Tok} {sf : Addr} {news : List (Addr × Obj)}
theorem search_at {k : Nat} (B : Below A₀ base outer h₀) (F : Fr h₀ L s.heap m) (X : (hd.heap_39 w.params).In h₀)
    (N : News h₀ L s.heap news) (T : Top p loose mean mg mb h₀) (hk : cs.kind = .function) (hx : x.length ≤ 9) (hf : First x k)
    (hdp : dp + 10 < recursionLimit) (hun : un + 80 < cLine)
    (ret : ∀ r, markL (x.cps.toList.drop k) = some r → ∀ o dx pl t1 t2 t3 t4 t5 tg nv bv h' tk', IsNum nv r.1 → IsStar bv r.2 → Fr h₀ L h' m → News h₀ L h' (foundObjs w.params o dx pl k x.length t1 t2 t3 t4 t5 tg (Txt.slice x (some k) (some x.length)) nv bv ++ news) →
        (∀ p ∈ news, p.1 < pl) → @LT.lt Nat _ pl dx → @LT.lt Nat _ dx o → Q (.ref o) { s with heap := h', toks := tk' }) :
    wpAny (model prog w) (ktrTop dp un gd cn cs L a ccd cl outer) (call (.ref 85) [.ref sf, .str x tx]) Q E s := by
  refine search_ct B F X N T hk hx hdp hun ?_
  intro ki n b h0 h1 hs hj o dx pl t1 t2 t3 t4 t5 tg nv bv h' tk' hn hb F' N' l1 l2 l3
  obtain ⟨rfl, hm⟩ := first_same hf h0 h1 hs hj
  exact ret (n, b) hm o dx pl t1 t2 t3 t4 t5 tg nv bv h' tk' hn hb F' N' l1 l2 l3
theorem mark_at {r : Option (List Nat) × Bool} (B : Below A₀ base outer h₀) (F : Fr h₀ L s.heap m) (X : (hd.heap_39 w.params).In h₀)
    (N : News h₀ L s.heap news) (T : Top p loose mean mg mb h₀) (hk : cs.kind = .function) (hx : x.length ≤ 9) (hM : markL x.cps.toList = some r)
    (hdp : dp + 1 < recursionLimit) (hun : un + 8 < cLine)
    (ret : ∀ q v1 v2 h' tk', IsNum v1 r.1 → IsStar v2 r.2 → Fr h₀ L h' m → News h₀ L h' ((q, listOf #[v1, v2] 0) :: news) → (∀ p ∈ news, p.1 < q) → Q (.ref q) { s with heap := h', toks := tk' }) :
    wpAny (model prog w) (ktrTop dp un gd cn cs L a ccd cl outer) (call (.ref 109) [.str x tx]) Q E s := by
  refine mark_ct2 B F X N T hk hx hdp hun (fun h => by rw [hM] at h; cases h) fun n b h q v1 v2 h' tk' hn hb F' N' l1 => ?_
  rw [hM] at h
  cases h
  exact ret q v1 v2 h' tk' hn hb F' N' l1
theorem mark_one {k : Int} {z : Nat} {r : Option (List Nat) × Bool} (hk0 : k = (z : Int)) (hM : markL (x.cps.toList.drop z) = some r) (hx : x.length ≤ 9) (B : Below A₀ base outer h₀) (F : Fr h₀ L s.heap m) (X : (hd.heap_39 w.params).In h₀)
    (N : News h₀ L s.heap news) (T : Top p loose mean mg mb h₀) (hk : cs.kind = .function)
    (hdp : dp + 1 < recursionLimit) (hun : un + 8 < cLine)
    (ret : ∀ q v1 v2 h' tk', IsNum v1 r.1 → IsStar v2 r.2 → Fr h₀ L h' m → News h₀ L h' ((q, listOf #[v1, v2] 0) :: news) → (∀ p ∈ news, p.1 < q) → Q (.ref q) { s with heap := h', toks := tk' }) :
    wpAny (model prog w) (ktrTop dp un gd cn cs L a ccd cl outer) (call (.ref 109) [.str (Txt.slice x (some k) none) tx]) Q E s := by
  subst hk0
  exact mark_at (r := r) B F X N T hk (Nat.le_trans (Txt.slice_le _ _ _) hx) (by rw [slice_a (by omega)]; exact hM) hdp hun ret
/-- a mark of an end, in the list of places -/
theorem mark_in {k : Nat} (hx : x.length ≤ 9) (B : Below A₀ base outer h₀) (F : Fr h₀ L s.heap m) (X : (hd.heap_39 w.params).In h₀)
    (N : News h₀ L s.heap news) (T : Top p loose mean mg mb h₀) (hk : cs.kind = .function)
    (hdp : dp + 1 < recursionLimit) (hun : un + 8 < cLine)
    (ret0 : (markL (x.cps.toList.drop k)).isSome = false → ∀ h' tk', Fr h₀ L h' m → News h₀ L h' news → Q .none { s with heap := h', toks := tk' })
    (ret1 : (markL (x.cps.toList.drop k)).isSome = true → ∀ q v1 v2 h' tk', Fr h₀ L h' m → News h₀ L h' ((q, listOf #[v1, v2] 0) :: news) → (∀ p ∈ news, p.1 < q) → Q (.ref q) { s with heap := h', toks := tk' }) :
    wpAny (model prog w) (ktrTop dp un gd cn cs L a ccd cl outer) (call (.ref 109) [.str (Txt.slice x (some (k : Int)) none) tx]) Q E s := by
  have e : (Txt.slice x (some (k : Int)) none).cps.toList = x.cps.toList.drop k := by rw [slice_a (by omega)]; rfl
  refine mark_ct2 B F X N T hk (Nat.le_trans (Txt.slice_le _ _ _) hx) hdp hun (fun h => ?_) fun n b h q v1 v2 h' tk' hn hb F' N' l1 => ?_
  · rw [e] at h
    exact ret0 (by rw [h]; rfl)
  · rw [e] at h
    exact ret1 (by rw [h]; rfl) q v1 v2 h' tk' F' N' l1
theorem name_join {D : Addr} {ys : List Value} {zs : List Str} {A : Around} {t : Tok} (hl : s.heap.IsList D ys.toArray) (hz : StrsAre ys zs) (h1 : ∀ z ∈ zs, z.length = 1) (hn : zs.length ≤ 9)
    (h : ∀ (X : Str) t' k, X.length ≤ 9 → Q (.str X t') { s with toks := k }) : wpAny (model prog w) A (call (.builtin "str.join") [.str (Str.ofString "") t, .ref D]) Q E s := by
  refine KT.join_1 (l := zs) (g := fun z => z) hl (by have := hz.carried; simpa using this) h1 (by omega) fun t' k e => h _ t' k (by rw [e]; exact hn)
end
end Mine
namespace Mine
theorem nums_ok (script : List Int) : 0 < ((script.take 24).map (fun k' => (if k' < 0 then -k' else k').fmod 1000003) ++ [5, 0, 11]).length ∧ ((script.take 24).map (fun k' => (if k' < 0 then -k' else k').fmod 1000003) ++ [5, 0, 11]).length ≤ 27 ∧
    ∀ x ∈ (script.take 24).map (fun k' => (if k' < 0 then -k' else k').fmod 1000003) ++ [5, 0, 11], 0 ≤ x ∧ x < 1000003 := by
  refine ⟨by simp, by simp; omega, fun x hx => ?_⟩
  rcases List.mem_append.mp hx with h | h
  · obtain ⟨k, _, rfl⟩ := List.mem_map.mp h
    have hn : (0 : Int) < 1000003 := by decide
    exact ⟨by rw [Int.fmod_eq_emod_of_nonneg _ (by omega)]; exact Int.emod_nonneg _ (by omega), Int.fmod_lt_of_pos _ hn⟩
  · simp at h
    omega
theorem name_law {P : Prop} {h₀ h : Heap} {L st l a3 a4 a5 nc sc : Addr} {o3 o4 o5 onc osc : Obj} {t0 : Tok} {vs : List Value} {script : List Int}
    (N : News h₀ L h [(st, listOf #[.ref l, .int 0 t0] 0), (l, listOf vs.toArray 0), (a3, o3), (a4, o4), (a5, o5), (nc, onc), (sc, osc)])
    (hI : IntsAre vs ((script.take 24).map (fun k' => (if k' < 0 then -k' else k').fmod 1000003) ++ [5, 0, 11]))
    (k : ∀ st' l' vs' ns t0' onc' osc', st' = st → l' = l → vs' = vs → t0' = t0 → onc' = onc → osc' = osc → News h₀ L h [(st', listOf #[.ref l', .int 0 t0'] 0), (l', listOf vs'.toArray 0), (nc, onc'), (sc, osc')] →
      IntsAre vs' ns → 0 < ns.length → ns.length ≤ 27 → (∀ x ∈ ns, 0 ≤ x ∧ x < 1000003) → P) : P := by
  obtain ⟨h1, h2, h3⟩ := nums_ok script
  exact k st l vs _ t0 onc osc rfl rfl rfl rfl rfl rfl (cb_drop N (by simp)) hI h1 h2 h3
def IsCell (o : Obj) : Prop := ∃ v, o.data = .cell v
theorem slice_full (x : Str) (k : Nat) : Txt.slice x (some (k : Int)) (some (x.length : Int)) = Txt.slice x (some (k : Int)) none := by
  apply str_of_cps
  have hl := len_cps x
  by_cases h : k ≤ x.length
  · rw [slice_ab (by omega) (by omega) (by omega), slice_a (by omega), List.take_of_length_le (by rw [List.length_drop]; omega)]
  · rw [slice_a (by omega), List.drop_of_length_le (by omega)]
    have := Txt.slice_le x (some (k : Int)) (some (x.length : Int))
    rw [slice_to (a := x.length) (b := x.length) (Nat.le_refl _) (Nat.le_refl _)]
    · rw [List.drop_of_length_le (by omega), List.take_nil]
    · unfold Builtin.Str.strSliceIndices
      simp only [show ((1 : Int) > 0) = True from by simp, if_true]
      rw [if_neg (by omega), if_neg (by omega)]
      congr 1 <;> omega
theorem ne_slices {prog : Program} {w : World} {A : Around} {E : Value → Shared → Prop} {s : Shared} {x : Str} {k : Nat} {t u : Tok} {Q : Value → Shared → Prop} (h : Q (.bool false) s) :
    wpAny (model prog w) A (compareOp .NotEq (.str (Txt.slice x (some (k : Int)) (some (x.length : Int))) t) (.str (Txt.slice x (some (k : Int)) none) u)) Q E s := by
  rw [slice_full]
  refine ne_str ?_
  have e : (Txt.slice x (some (k : Int)) none != Txt.slice x (some (k : Int)) none) = false := by simp
  rw [e]
  exact h
theorem search_astar {prog : Program} {w : World} {p : Program} {loose : List Str} {mean : ExcName → Option Value} {mg mb : Str → Option Value}
    {dp un : Nat} {gd : Option (List Code)} {cn : Str} {cs : Scope} {a : Addr} {ccd : Value} {cl : List (Str × Addr)} {outer : List Env} {A₀ : Around} {base h₀ : Heap} {L : Addr} {m : Str → Option Value} {s : Shared} {Q E : Value → Shared → Prop}
    {tx : Tok} {sf : Addr} {news : List (Addr × Obj)} (B : Below A₀ base outer h₀) (F : Fr h₀ L s.heap m) (X : (hd.heap_39 w.params).In h₀)
    (N : News h₀ L s.heap news) (T : Top p loose mean mg mb h₀) (hk : cs.kind = .function)
    (hdp : dp + 10 < recursionLimit) (hun : un + 80 < cLine)
    (ret : ∀ o dx pl t1 t2 t3 t4 t5 tg (g : Str) tb h' tk', Fr h₀ L h' m → News h₀ L h' (foundObjs w.params o dx pl 1 2 t1 t2 t3 t4 t5 tg g .none (.str (Str.ofString "*") tb) ++ news) →
        (∀ p ∈ news, p.1 < pl) → @LT.lt Nat _ pl dx → @LT.lt Nat _ dx o → Q (.ref o) { s with heap := h', toks := tk' }) :
    wpAny (model prog w) (ktrTop dp un gd cn cs L a ccd cl outer) (call (.ref 85) [.ref sf, .str (Str.ofString "a*") tx]) Q E s := by
  have hm : markL ((Str.ofString "a*").cps.toList.drop 1) = some (none, true) := by rw [astar_cps]; decide
  have hl : ((Str.ofString "a*").length : Int) = 2 := by rw [astar_len]; rfl
  refine search_at (k := 1) B F X N T hk (by rw [astar_len]; decide) first_astar hdp hun fun r h o dx pl t1 t2 t3 t4 t5 tg nv bv h' tk' hn hb F' N' l1 l2 l3 => ?_
  rw [hm] at h
  cases h
  cases hn
  obtain ⟨tb, rfl⟩ := hb
  rw [hl] at N'
  exact ret o dx pl t1 t2 t3 t4 t5 tg _ tb h' tk' F' N' l1 l2 l3
abbrev lawLed (st l nc sc : Addr) (osc : Obj) (vs : List Value) (c : Int × Tok × Obj) : List (Addr × Obj) :=
  [(st, listOf #[.ref l, .int c.1 c.2.1] 0), (l, listOf vs.toArray 0), (nc, c.2.2), (sc, osc)]
local macro_rules | `(tactic| walk_at "exec For Name Call cons nil") => `(tactic| (k_here; (rename Fr _ _ _ _ => lF'); (with_unfolding_all refine' For_invVF lF' ?k1 ?k2 ?_; (case k1 => exact rfl); (case k2 => exact rfl); k_whole)))
local macro_rules | `(tactic| walk_at "pyIter ref") => `(tactic| k_extra "pyIter ref")
local macro_rules | `(tactic| walk_at "eval ListComp") => `(tactic| k_extra "eval ListComp")
local macro_rules | `(tactic| walk_at "exec Assign cons ListComp") => `(tactic| k_extra "exec Assign cons ListComp")
local macro_rules | `(tactic| walk_at "CompSrc") => `(tactic| k_extra "CompSrc")
local macro_rules | `(tactic| walk_at "CompSrcT") => `(tactic| k_extra "CompSrcT")
local macro_rules | `(tactic| walk_at "CompEnd") => `(tactic| k_extra "CompEnd")
local macro_rules | `(tactic| walk_at "InvEndN") => `(tactic| k_extra "InvEndN")
local macro_rules | `(tactic| walk_at "call builtin:str.join") => `(tactic| k_extra "call builtin:str.join")
local macro_rules | `(tactic| walk_at "call ref") => `(tactic| (k_here; (with_reducible show wpAny _ _ (call (Value.ref 99) _) _ _ _); k_dflt (refine' next_use ?kB ?kF ?kX ?kN ?kT ?kk ?kU ?km ?kne ?ki ?kl0 ?kl1 ?kns ?ka0 ?ka1 ?km0 ?km1 ?kd ?ku ?_; (case kB => k_asm); (case kF => k_asm); (case kX => k_asm); (case kN => k_asm); (case kT => k_asm); (case kk => exact rfl); (case kU => k_updF); (case km => k_mem); (case kne => (refine neN ?_; omega)); (case ki => assumption); (case kl0 => assumption); (case kl1 => assumption); (case kns => assumption); (case ka0 => omega); (case ka1 => omega); (case km0 => decide); (case km1 => decide); (case kd => decide); (case ku => decide); k_whole; intro t1' t2' r' h' tk' hr0' hr1' F' N'; (try dsimp only at N'); (try k_fold))))
local macro_rules | `(tactic| walk_at "call ref") => `(tactic| (k_here; (with_reducible show wpAny _ _ (call (Value.ref 85) _) _ _ _); k_dflt ((first | (refine' search_astar ?kB ?kF ?kX ?kN ?kT ?kk ?kd ?ku (fun o' dx' pl' t1' t2' t3' t4' t5' tg' g' tb' h' tk' F' N' l1' l2' l3' => ?_); (case kB => k_asm); (case kF => k_asm); (case kX => k_asm); (case kN => k_asm); (case kT => k_asm); (case kk => exact rfl); (case kd => decide); (case ku => decide)) | (refine' search_at ?kB ?kF ?kX ?kN ?kT ?kk ?kx ?kf ?kd ?ku (fun r' hM' o' dx' pl' t1' t2' t3' t4' t5' tg' nv' bv' h' tk' hn' hb' F' N' l1' l2' l3' => ?_); (case kB => k_asm); (case kF => k_asm); (case kX => k_asm); (case kN => k_asm); (case kT => k_asm); (case kk => exact rfl); (case kx => first | assumption | (rw [astar_len]; decide)); (case kf => first | assumption | exact first_astar); (case kd => decide); (case ku => decide))); (all_goals (try dsimp only [foundObjs, List.cons_append, List.nil_append] at N')); (all_goals (try k_lt l1')); (all_goals (try k_fold)))))
local macro_rules | `(tactic| walk_at "call ref") => `(tactic| (k_here; (with_reducible show wpAny _ _ (call (Value.ref 109) _) _ _ _); k_dflt (first | (refine' mark_one ?kz ?kM ?kx ?kB ?kF ?kX ?kN ?kT ?kk ?kd ?ku (fun q' v1' v2' h' tk' hn' hb' F' N' l1' => ?_); (case kz => exact rfl); (case kM => assumption); (case kx => assumption); (case kB => k_asm); (case kF => k_asm); (case kX => k_asm); (case kN => k_asm); (case kT => k_asm); (case kk => exact rfl); (case kd => decide); (case ku => decide)) | (refine' mark_in ?kx ?kB ?kF ?kX ?kN ?kT ?kk ?kd ?ku (fun hM' h' tk' F' N' => ?_) (fun hM' q' v1' v2' h' tk' F' N' l1' => ?_); (case kx => assumption); (case kB => k_asm); (case kF => k_asm); (case kX => k_asm); (case kN => k_asm); (case kT => k_asm); (case kk => exact rfl); (case kd => decide); (case ku => decide))); (all_goals (try dsimp only [foundObjs, List.cons_append, List.nil_append] at N')); (all_goals (try k_lt l1')); (all_goals (try k_fold))))
local macro_rules | `(tactic| walk_at "call ref") => `(tactic| (k_here; (with_reducible show wpAny _ _ (call (Value.ref 42) _) _ _ _); k_dflt (first | (refine' start_c ?kB ?kF ?kX ?kN ?kT ?kk ?kh1 ?kh2 ?kd ?ku (fun h' tk' F' N' => ?_); (case kB => k_asm); (case kF => k_asm); (case kX => k_asm); (case kN => k_asm); (case kT => k_asm); (case kk => exact rfl); (case kh1 => k_mem); (case kh2 => k_mem); (case kd => decide); (case ku => decide))); (try k_fold)))
local macro_rules | `(tactic| walk_at "call ref") => `(tactic| (k_here; (with_reducible show wpAny _ _ (call (Value.ref 49) _) _ _ _); k_dflt (first | (refine' end_c ?kB ?kF ?kX ?kN ?kT ?kk ?kh1 ?kh2 ?kd ?ku (fun h' tk' F' N' => ?_); (case kB => k_asm); (case kF => k_asm); (case kX => k_asm); (case kN => k_asm); (case kT => k_asm); (case kk => exact rfl); (case kh1 => k_mem); (case kh2 => k_mem); (case kd => decide); (case ku => decide))); (try k_fold)))
local macro_rules | `(tactic| walk_at "call ref") => `(tactic| (k_here; (with_reducible show wpAny _ _ (call (Value.ref 57) _) _ _ _); k_dflt (first | (refine' group0_c ?kB ?kF ?kX ?kN ?kT ?kk ?kh1 ?kh2 ?kh3 ?kd ?ku (fun h' tk' F' N' => ?_); (case kB => k_asm); (case kF => k_asm); (case kX => k_asm); (case kN => k_asm); (case kT => k_asm); (case kk => exact rfl); (case kh1 => k_mem); (case kh2 => k_mem); (case kh3 => k_mem); (case kd => decide); (case ku => decide)) | (refine' group1_c ?kB ?kF ?kX ?kN ?kT ?kk ?kh1 ?kh2 ?kh3 ?kd ?ku (fun h' tk' F' N' => ?_); (case kB => k_asm); (case kF => k_asm); (case kX => k_asm); (case kN => k_asm); (case kT => k_asm); (case kk => exact rfl); (case kh1 => k_mem); (case kh2 => k_mem); (case kh3 => k_mem); (case kd => decide); (case ku => decide)) | (refine' group2_c ?kB ?kF ?kX ?kN ?kT ?kk ?kh1 ?kh2 ?kh3 ?kd ?ku (fun h' tk' F' N' => ?_); (case kB => k_asm); (case kF => k_asm); (case kX => k_asm); (case kN => k_asm); (case kT => k_asm); (case kk => exact rfl); (case kh1 => k_mem); (case kh2 => k_mem); (case kh3 => k_mem); (case kd => decide); (case ku => decide))); (try k_fold)))
local macro_rules | `(tactic| walk_at "compareOp NotEq str str") => `(tactic| (k_here; k_dflt (refine ne_slices ?_)))
local macro_rules | `(tactic| walk_at "compareOp NotEq ref ref") => `(tactic| (k_here; k_dflt (refine' ne_twins ?k1 ?k2 ?k3 ?k4 ?k5 ?_; (case k1 => exact News.isList (by k_asm) (by k_mem)); (case k2 => exact News.isList (by k_asm) (by k_mem)); (case k3 => exact num_twin (by assumption) (by assumption) (by assumption)); (case k4 => exact star_twin (by assumption) (by assumption)); (case k5 => ke_room))))
theorem law_walk : PySem.Challenge.rw_ez0421_01.Holds := Mine.hd (by
  k_with_none
  k_with "pyIter ref" => k_dflt (
      rename Fr _ _ _ _ => lF'
      rename News _ _ _ _ => lN'
      rename IsRange _ _ _ _ _ _ _ _ => rgX
      rename IntsAre _ (_ ++ [5, 0, 11]) => hI9
      k_dflt (refine name_law lN' hI9 (fun st l vs ns t0 onc osc e1 e2 e3 e4 e5 e6 N9 hi hl0 hl1 hns => ?_))
      clear hI9 lN'
      subst e1 e2 e3 e4 e5 e6
      with_unfolding_all (refine' kst_range (lawLed st l _ _ osc vs) (fun _ => []) (fun c => IsCell c.2.2) [Str.ofString "places", Str.ofString "told", Str.ofString "due"] (fun pre c => 0 ≤ c.1 ∧ c.1 ≤ 10 * (pre.length : Int)) (0, _, onc) (by rfl) rgX (by decide) (by rfl) lF' N9 ?kf (fun _ h => nomatch h) ⟨Int.le_refl (0 : Int), (by decide : (0 : Int) ≤ 10 * ((0 : Nat) : Int))⟩ ?_ ?_)
      case kf => exact ⟨_, by k_asm⟩
      all_goals (try clear lF' N9 rgX)
      rotate_left
      intro c u hh tk hcell hat F' N'
      obtain ⟨at', tat, onc'⟩ := c
      dsimp only [lawLed] at hcell hat F' N'
      rotate_right
      intro c pre kk tkk u hh tk own hkk hlt hoff hcell hat F' N'
      obtain ⟨at', tat, onc'⟩ := c
      obtain ⟨hat0, hat1⟩ := hat
      obtain ⟨vcell, hcell⟩ := hcell
      have hlt8 : pre.length < 8 := hlt
      clear hlt
      dsimp only at hcell hat0 hat1
      simp only [lawLed, List.map_cons, List.map_nil, List.cons_append, List.nil_append] at N' hoff
      all_goals (try k_fold))
  k_with "eval ListComp" => (k_dflt (refine LCg.ListComp_U (F₀ := by k_asm) (by with_unfolding_all rfl) (by decide) (by rfl) (by decide) (by rfl) ?_))
  k_with "CompSrc" => k_dflt (
      k_dflt (refine LCg.CompSrc.range (by rfl) (by k_asm) (by k_asm) (by assumption) (small_one (by omega) (by omega) (by omega) (by omega)) (rangeSize_nat _ _) (by rw [sizeLine_eq]; omega) ?_)
      intro g9
      k_dflt (refine names_rest (fun a t => (st, listOf #[.ref l, .int a t] 0) :: (l, listOf vs.toArray 0) :: (_, onc') :: (_, osc) :: own) (at' + 1) _ ?_ ?_)
      rotate_left
      intro ys zs tz hzs hz1 hzn D9 h9 tk9 F' N' off'
      (try dsimp only at N')
      (try simp only [LCg.Off1, and_true] at off')
      rotate_right
      intro i ti I oI C oC D m9 ys h9 tk9 E9 hin hC9 F' N' off' ne'
      (try dsimp only at N' off')
      (try simp only [LCg.Off3, and_true] at off')
      all_goals (try k_fold))
  k_with "call builtin:str.join" => k_dflt (
      refine name_join (by is_list) (by assumption) (by assumption) (by omega) ?_
      intro nm tnm knm hnm)
  k_with "exec Assign cons ListComp" => (k_dflt (refine LCt.Assign_ListComp_T (F₀ := by k_asm) (by rfl) (by with_unfolding_all rfl) (by with_unfolding_all rfl) (by decide) (by rfl) (by decide) (by rfl) (by rfl) (by rfl) ?_))
  k_with "CompSrcT" => k_dflt (
      refine LCt.CompSrcT.range (by rfl) (by k_asm) (by k_asm) (by assumption) (small_one (by omega) (by omega) (by omega) (by omega)) (rangeSize_nat _ _) (by rw [sizeLine_eq]; omega) ?_
      intro g9
      refine places_rest (fun i => (markL (nm.cps.toList.drop i)).isSome) ?_ ?_
      rotate_left
      intro ys hys D9 h9 tk9 F' N' off'
      obtain ⟨p0, hp0⟩ := exists_first nm
      obtain ⟨tp, rp, rfl⟩ := places_first hp0 hys
      have hp1 : p0 ≤ nm.length := hp0.1
      (try dsimp only at N')
      (try simp only [LCg.Off1, and_true] at off')
      rotate_right
      intro i ti I oI C oC D m9 ys h9 tk9 E9 hin hC9 hm9 F' N' off' ne'
      (try dsimp only at N' off')
      (try simp only [LCg.Off3, and_true] at off')
      all_goals (try k_fold))
  k_with "CompEnd" => k_dflt (
      rename Fr _ _ _ _ => FE
      rename News _ _ _ _ => NE
      first
        | exact LCg.CompEnd.intro FE NE _ (fun _ h => h) off' trivial ⟨_, _, _, rfl, by assumption, rfl⟩
        | (refine LCg.CompEnd.intro FE NE _ ?_ ?_ trivial ⟨by assumption, ⟨_, rfl⟩, rfl⟩
           · first | exact fun _ h => h | exact fun _ h => .tail _ h | exact fun _ h => .tail _ (.tail _ h)
           · exact off')
        | (refine LCg.CompEnd.intro FE NE _ ?_ ?_ trivial ⟨by assumption, rfl⟩
           · first | exact fun _ h => h | exact fun _ h => .tail _ h | exact fun _ h => .tail _ (.tail _ h)
           · exact off'))
  k_with "InvEndN" => k_dflt (
      rename News _ _ _ _ => nE'
      refine kst_end (_, _, _) (by assumption) nE' (by (try dsimp only [lawLed]); k_allIn) (by intro p hp; k_ownIn) (by rfl) ⟨_, by assumption⟩ (fun _ h => nomatch h)
        (by intro z h1 h2 h3; have h4 := h3; simp only [List.contains_cons, List.contains_nil, Bool.or_false, Bool.or_eq_false_iff, beq_eq_false_iff_ne, ne_eq] at h4; obtain ⟨q1, q2, q3⟩ := h4; simp only [kstB, q1, q2, q3, h1, h3, Bool.false_eq_true, if_false])
        (by (try dsimp only); simp only [List.length_append, List.length_singleton]; omega))
  k_go0
  all_goals try k_fold
  k_steps)
end Mine
theorem PySem.Challenge.cw_ez0421_01_holds : PySem.Challenge.rw_ez0421_01.Holds := by
  exact Mine.law_walk
