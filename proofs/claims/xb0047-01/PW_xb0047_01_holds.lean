import PyProof.Rows.All
import Wide.All
import OpenK.AllK
import Wide.FinOn
import PySem.Challenge.RW_xb0047_01
open PySem PySem.W PyProof.Rows PySem.Calls
set_option Elab.async false
namespace Mine
/-- what stands behind the last stroke -/
def tail (x : Str) : Str := Txt.slice x (some (Txt.rfind x (Str.ofString "/") + 1)) none
/-- nothing but points ahead of the place i -/
def dots (x : Str) (i : Int) : Bool := (x.cps.toList.take i.toNat).all (· == 46)
/-- the name without its end, as splitext leaves it -/
def modname (x : Str) : Str :=
  if (-1 : Int) < Txt.rfind (tail x) (Str.ofString ".") ∧ dots (tail x) (Txt.rfind (tail x) (Str.ofString ".")) = false
  then Txt.slice (tail x) none (some (Txt.rfind (tail x) (Str.ofString "."))) else tail x
def isPoint (b : Str) (k : Int) : Bool := Txt.item b k == Str.ofString "." && !(Txt.stripChars (Txt.slice b none (some k)) (Str.ofString ".") == Str.ofString "")
def addPoint (b : Str) (l : List Int) (k : Int) : List Int := if isPoint b k = true then l ++ [k] else l
def points (b : Str) : List Int := (rangeKs 0 b.length).foldl (addPoint b) []
/-- the last point that has a sign ahead of it -/
def cut (b : Str) : Int := (points b).getD ((points b).length - 1) 0
def due (b : Str) : Str := if points b = [] then b else Txt.slice b none (some (cut b))
def plain (x : Str) : Str := Txt.replace (Txt.replace x (Str.ofString "/") (Str.ofString "")) (Str.ofString ".") (Str.ofString "") ++ Str.ofString "c"
theorem slash_is : Str.ofString "/" = ⟨#[47]⟩ := by decide
theorem dot_is : Str.ofString "." = ⟨#[46]⟩ := by decide
end Mine
namespace Mine
theorem rfind_cases (x : Str) (c : Nat) : (Txt.rfind x ⟨#[c]⟩ = -1 ∧ c ∉ x.cps.toList) ∨ ∃ i : Nat, Txt.rfind x ⟨#[c]⟩ = (i : Int) ∧ x.cps.toList[i]? = some c ∧ c ∉ x.cps.toList.drop (i + 1) := by
  rcases StrLaws.last_spec x ⟨#[c]⟩ with ⟨h, hn⟩ | ⟨i, h, hi, hn⟩
  · refine Or.inl ⟨by unfold Txt.rfind; rw [h], fun hm => ?_⟩
    obtain ⟨j, hj⟩ := List.getElem?_of_mem hm
    exact hn j ((StrLaws.subAt_one x c j).mpr hj)
  · exact Or.inr ⟨i, by unfold Txt.rfind; rw [h], (StrLaws.subAt_one x c i).mp hi, drop_free x c (i + 1) fun k hk => hn k (by omega)⟩
theorem slice_from (x : Str) (i : Nat) (h : i ≤ x.cps.toList.length) : (Txt.slice x (some (i : Int)) none).cps.toList = x.cps.toList.drop i := by
  have e : Txt.slice x (some (i : Int)) none = StrLaws.sliceText x (some (i : Int)) none := rfl
  rw [e, StrLaws.sliceText_from ⟨by omega, by omega⟩]
  have e2 : ((i : Int)).toNat = i := by omega
  show (x.cps.toList.drop (i : Int).toNat).take ((x.cps.toList.length : Int) - i).toNat = _
  rw [e2]
  apply List.take_of_length_le
  rw [List.length_drop]
  omega
theorem slice_to (x : Str) (d : Nat) (h : d ≤ x.cps.toList.length) : (Txt.slice x none (some (d : Int))).cps.toList = x.cps.toList.take d := by
  have e : Txt.slice x none (some (d : Int)) = StrLaws.sliceText x none (some (d : Int)) := rfl
  rw [e, StrLaws.sliceText_to ⟨by omega, by omega⟩]
  have e2 : ((d : Int) - 0).toNat = d := by omega
  show (x.cps.toList.drop 0).take ((d : Int) - 0).toNat = _
  rw [e2, List.drop_zero]
theorem slice_one (x : Str) (i : Nat) (h : i < x.cps.toList.length) : (Txt.slice x (some (i : Int)) (some ((i : Int) + 1))).cps.toList = [x.cps.toList[i]] := by
  have e : Txt.slice x (some (i : Int)) (some ((i : Int) + 1)) = StrLaws.sliceText x (some (i : Int)) (some ((i : Int) + 1)) := rfl
  rw [e, StrLaws.sliceText_plain ⟨by omega, by omega, by omega⟩]
  show (x.cps.toList.drop (i : Int).toNat).take (((i : Int) + 1) - i).toNat = _
  rw [show ((i : Int)).toNat = i by omega, show (((i : Int) + 1) - i).toNat = 1 by omega, List.drop_eq_getElem_cons h]
  rfl
def seg (L : List Nat) : List Nat := (L.reverse.takeWhile (· != 47)).reverse
theorem tw_stop (r : List Nat) : ∀ l : List Nat, (l ++ 47 :: r).takeWhile (· != 47) = l.takeWhile (· != 47)
  | [] => by simp
  | a :: l => by
    have ih := tw_stop r l
    by_cases h : a = 47
    · subst h; simp
    · simp [h, ih]
theorem seg_app (P M : List Nat) : seg (P ++ 47 :: M) = seg M := by
  unfold seg
  rw [List.reverse_append, List.reverse_cons, List.append_assoc]
  show (List.takeWhile _ (M.reverse ++ 47 :: P.reverse)).reverse = _
  rw [tw_stop]
theorem seg_free {T : List Nat} (h : 47 ∉ T) : seg T = T := by
  unfold seg
  have e : T.reverse.takeWhile (· != 47) = T.reverse := by
    have hp : ∀ a ∈ T.reverse, (a != 47) = true := fun a ha => by
      rw [bne_iff_ne]
      intro e
      exact h (e ▸ List.mem_reverse.mp ha)
    have z := List.takeWhile_append_of_pos (l₂ := []) hp
    simpa using z
  rw [e, List.reverse_reverse]
theorem tail_parts (x : Str) : 47 ∉ (tail x).cps.toList ∧ (x.cps.toList = (tail x).cps.toList ∨ ∃ P, x.cps.toList = P ++ 47 :: (tail x).cps.toList) := by
  unfold tail
  rw [slash_is]
  rcases rfind_cases x 47 with ⟨h, hn⟩ | ⟨i, h, hi, hn⟩
  · rw [h]
    have e := slice_from x 0 (Nat.zero_le _)
    rw [show (-1 : Int) + 1 = ((0 : Nat) : Int) by decide, e, List.drop_zero]
    exact ⟨hn, Or.inl rfl⟩
  · rw [h]
    obtain ⟨hlt, hc⟩ := List.getElem?_eq_some_iff.mp hi
    have e := slice_from x (i + 1) hlt
    rw [show (i : Int) + 1 = ((i + 1 : Nat) : Int) by omega, e]
    refine ⟨hn, Or.inr ⟨x.cps.toList.take i, ?_⟩⟩
    rw [← hc, ← List.drop_eq_getElem_cons hlt, List.take_append_drop]
theorem tail_seg (x : Str) : (tail x).cps.toList = seg x.cps.toList := by
  obtain ⟨hf, e | ⟨P, e⟩⟩ := tail_parts x
  · rw [e, seg_free hf]
  · rw [e, seg_app, seg_free hf]
theorem list_ext {x y : Str} (h : x.cps.toList = y.cps.toList) : x = y := Str.ext' (Array.toList_inj.mp h)
theorem seg_join : ∀ (r : List Str) (p q : Str), (∀ a ∈ p :: r, 47 ∉ a.cps.toList) → (p :: r)[r.length]? = some q → seg (Str.join ⟨#[47]⟩ (p :: r)).cps.toList = q.cps.toList
  | [], p, q, hf, hq => by
    have e : p = q := Option.some.inj hq
    subst e
    exact seg_free (hf p (List.mem_cons_self ..))
  | a :: r, p, q, hf, hq => by
    have ih := seg_join r a q (fun b hb => hf b (List.mem_cons_of_mem _ hb)) (by simpa using hq)
    show seg (p ++ ⟨#[47]⟩ ++ Str.join ⟨#[47]⟩ (a :: r)).cps.toList = _
    rw [Str.cps_append, Str.cps_append, Array.toList_append, Array.toList_append, List.append_assoc]
    show seg (p.cps.toList ++ 47 :: (Str.join ⟨#[47]⟩ (a :: r)).cps.toList) = _
    rw [seg_app, ih]
theorem kind_one (x : Str) : 1 ≤ Builtin.Str.strKind x := by
  unfold Builtin.Str.strKind
  split
  · omega
  · split <;> omega
theorem split_len (x : Str) : (Txt.split x ⟨#[47]⟩).length = (Txt.count x ⟨#[47]⟩).toNat + 1 := by
  unfold Txt.split Txt.count
  split
  · rename_i h
    have hk := kind_one x
    have hk1 : Builtin.Str.strKind ⟨#[47]⟩ = 1 := by decide +kernel
    rw [Bool.or_eq_true, decide_eq_true_eq, decide_eq_true_eq, hk1, KOpn.len_one] at h
    have h0 : x.length = 0 := by omega
    have e : x = ⟨#[]⟩ := Str.ext' (Array.eq_empty_of_size_eq_zero h0)
    subst e
    decide +kernel
  · split
    · rename_i h
      rw [List.isEmpty_iff.mp h]
      rfl
    · rw [length_partsBetween]
      omega
theorem split_at_count (x : Str) : (Txt.split x (Str.ofString "/"))[(Txt.count x (Str.ofString "/")).toNat]? = some (tail x) := by
  rw [slash_is]
  have hl := split_len x
  have hj := StrLaws.join_split x ⟨#[47]⟩
  have hf := StrLaws.split_free x 47
  generalize Txt.split x ⟨#[47]⟩ = parts at hl hj hf
  generalize (Txt.count x ⟨#[47]⟩).toNat = n at hl
  match parts, hl, hj, hf with
  | [], hl, _, _ => exact absurd hl (by simp)
  | p :: r, hl, hj, hf =>
    have hr : r.length = n := by simpa using hl
    obtain ⟨q, hq⟩ : ∃ q, (p :: r)[r.length]? = some q := ⟨(p :: r)[r.length]'(by simp), List.getElem?_eq_getElem _⟩
    have e := seg_join r p q hf hq
    rw [hj, ← tail_seg] at e
    rw [← hr, hq, list_ext e]
theorem tail_len (x : Str) : (tail x).length ≤ x.length := by
  unfold tail
  exact Txt.slice_le _ _ _
theorem rfind_tail (x : Str) : Txt.rfind (tail x) (Str.ofString "/") = -1 := by
  rw [slash_is]
  rcases rfind_cases (tail x) 47 with ⟨h, _⟩ | ⟨i, _, hi, _⟩
  · exact h
  · exact absurd (List.mem_of_getElem? hi) (tail_parts x).1
theorem size_len (b : Str) : b.cps.toList.length = b.length := Array.length_toList
theorem rfind_lt (b : Str) : Txt.rfind b (Str.ofString ".") < (b.length : Int) := by
  rw [dot_is]
  rcases rfind_cases b 46 with ⟨h, _⟩ | ⟨i, h, hi, _⟩
  · rw [h]; omega
  · obtain ⟨hlt, _⟩ := List.getElem?_eq_some_iff.mp hi
    rw [size_len] at hlt
    rw [h]; omega
theorem sign_ne {b : Str} {i : Nat} (hl : i < b.cps.toList.length) : (Txt.slice b (some (i : Int)) (some ((i : Int) + 1)) != Str.ofString ".") = !(b.cps.toList[i] == 46) := by
  rw [dot_is]
  have e := slice_one b i hl
  by_cases h : b.cps.toList[i] = 46
  · rw [h] at e
    have e2 : Txt.slice b (some (i : Int)) (some ((i : Int) + 1)) = ⟨#[46]⟩ := list_ext e
    rw [e2, h]
    rfl
  · have e2 : Txt.slice b (some (i : Int)) (some ((i : Int) + 1)) ≠ ⟨#[46]⟩ := fun q => by
      rw [q] at e
      exact h (List.cons.inj e).1.symm
    rw [bne_iff_ne.mpr e2, beq_eq_false_iff_ne.mpr h]
    rfl
theorem dots_next {b : Str} {i : Int} (h0 : 0 ≤ i) (h : dots b i = true) (h2 : (Txt.slice b (some i) (some (i + 1)) != Str.ofString ".") = false) (hl : i < (b.length : Int)) : dots b (i + 1) = true := by
  obtain ⟨n, rfl⟩ := Int.eq_ofNat_of_zero_le h0
  have hlt : n < b.cps.toList.length := by rw [size_len]; omega
  rw [sign_ne hlt, Bool.not_eq_false'] at h2
  unfold dots at h ⊢
  rw [show ((n : Int)).toNat = n by omega] at h
  rw [show ((n : Int) + 1).toNat = n + 1 by omega, List.take_succ_eq_append_getElem hlt, List.all_append, h]
  simpa using h2
theorem dots_stop {b : Str} {i d : Int} (h0 : 0 ≤ i) (hd : i < d) (h2 : (Txt.slice b (some i) (some (i + 1)) != Str.ofString ".") = true) (hl : d < (b.length : Int)) : dots b d = false := by
  obtain ⟨n, rfl⟩ := Int.eq_ofNat_of_zero_le h0
  have hlt : n < b.cps.toList.length := by rw [size_len]; omega
  rw [sign_ne hlt, Bool.not_eq_true', beq_eq_false_iff_ne] at h2
  unfold dots
  rw [List.all_eq_false]
  refine ⟨b.cps.toList[n], ?_, by simpa using h2⟩
  have hd' : n < d.toNat := by omega
  exact List.mem_take_iff_getElem.mpr ⟨n, by omega, rfl⟩
theorem getD_here {z : Str} {k : Nat} (hk : k < z.cps.toList.length) : z.cps.getD k 0 = z.cps.toList[k] := by
  rw [← getD_list, List.getD_eq_getElem?_getD, List.getElem?_eq_getElem hk]
  rfl
theorem all_strip (z : Str) : (Txt.stripChars z ⟨#[46]⟩ == Str.ofString "") = z.cps.toList.all (· == 46) := by
  have goes : ∀ n : Nat, (⟨#[46]⟩ : Str).cps.contains n = (n == 46) := fun n => by
    rw [Bool.eq_iff_iff]
    simp
  have e0 : Str.ofString "" = ⟨#[]⟩ := by decide
  rw [e0]
  unfold Txt.stripChars
  rw [PyProof.Rows.stripBy_eq]
  obtain ⟨a1, a2, a3⟩ := lo_facts (⟨#[46]⟩ : Str).cps.contains z
  obtain ⟨b1, b2, b3, b4⟩ := hi_facts (⟨#[46]⟩ : Str).cps.contains z (stripLo (⟨#[46]⟩ : Str).cps.contains true z) a1
  generalize stripLo (⟨#[46]⟩ : Str).cps.contains true z = lo at a1 a2 a3 b1 b2 b3 b4
  generalize stripHi (⟨#[46]⟩ : Str).cps.contains true z lo = hi at b1 b2 b3 b4
  have es := StrLaws.strSub_toList z lo hi
  have hz := size_len z
  by_cases h : lo = z.length
  · have hA : z.cps.toList.all (· == 46) = true := by
      rw [List.all_eq_true]
      intro c hc
      obtain ⟨k, hk, rfl⟩ := List.getElem_of_mem hc
      have := a2 k (by omega)
      rw [goes, getD_here hk] at this
      exact this
    have e : Builtin.Str.strSub z lo hi = ⟨#[]⟩ := list_ext (by
      rw [es]
      have : z.cps.toList.drop lo = [] := List.drop_eq_nil_of_le (by omega)
      rw [this, List.take_nil])
    rw [hA, e]
    rfl
  · have hlo : (⟨#[46]⟩ : Str).cps.contains (z.cps.getD lo 0) = false := a3.resolve_left h
    have hlt : lo < z.cps.toList.length := by omega
    have hA : z.cps.toList.all (· == 46) = false := by
      rw [List.all_eq_false]
      refine ⟨z.cps.toList[lo], List.getElem_mem hlt, ?_⟩
      rw [goes, getD_here hlt] at hlo
      rw [hlo]
      exact Bool.false_ne_true
    have hhi : lo < hi := by
      rcases Nat.lt_or_ge lo hi with q | q
      · exact q
      · have := b3 lo q (by omega)
        rw [hlo] at this
        cases this
    rw [hA]
    apply beq_eq_false_iff_ne.mpr
    intro e
    rw [e] at es
    have l := congrArg List.length es
    rw [List.length_take, List.length_drop] at l
    have l0 : (⟨#[]⟩ : Str).cps.toList.length = 0 := rfl
    rw [l0] at l
    omega
theorem isPoint_iff {b : Str} {n : Nat} (hl : n < b.cps.toList.length) : isPoint b (n : Int) = (b.cps.toList[n] == 46 && !dots b (n : Int)) := by
  unfold isPoint
  rw [dot_is, all_strip, slice_to b n (by omega)]
  have e : Txt.item b (n : Int) = ⟨#[b.cps.toList[n]]⟩ := by
    unfold Txt.item Txt.charAt
    rw [StrLaws.at_nonneg (n := b.cps.toList[n]) (by omega) (by rw [show ((n : Int)).toNat = n by omega]; simp)]
    rfl
  rw [e]
  have e2 : ((⟨#[b.cps.toList[n]]⟩ : Str) == ⟨#[46]⟩) = (b.cps.toList[n] == 46) := by
    by_cases h : b.cps.toList[n] = 46
    · rw [h]; rfl
    · rw [beq_eq_false_iff_ne.mpr h]
      apply beq_eq_false_iff_ne.mpr
      intro q
      have := congrArg (fun z : Str => z.cps.toList) q
      exact h (List.cons.inj this).1
  rw [e2]
  unfold dots
  rw [show ((n : Int)).toNat = n by omega]
theorem points_filter (b : Str) : points b = (rangeKs 0 b.length).filter (isPoint b) := by
  have key : ∀ (ks l : List Int), ks.foldl (addPoint b) l = l ++ ks.filter (isPoint b) := by
    intro ks
    induction ks with
    | nil => intro l; simp
    | cons k r ih =>
      intro l
      rw [List.foldl_cons, ih]
      unfold addPoint
      by_cases h : isPoint b k = true
      · rw [if_pos h, List.filter_cons_of_pos h]; simp
      · rw [if_neg h, List.filter_cons_of_neg h]
  unfold points
  rw [key, List.nil_append]
theorem rangeKs_split (i m : Nat) : rangeKs 0 (i + 1 + m) = rangeKs 0 i ++ (i : Int) :: (List.range m).map (fun j => ((i + 1 + j : Nat) : Int)) := by
  unfold rangeKs
  rw [List.range_add, List.range_succ, List.map_append, List.map_append, List.map_map]
  simp only [List.map_cons, List.map_nil, List.append_assoc, List.cons_append, List.nil_append]
  congr 2
  · omega
  · apply List.map_congr_left
    intro j _
    show (0 : Int) + ((i + 1 + j : Nat) : Int) = _
    omega
theorem dots_le {b : Str} {i k : Nat} (h : dots b (i : Int) = true) (hk : k ≤ i) : dots b (k : Int) = true := by
  unfold dots at h ⊢
  rw [show ((i : Int)).toNat = i by omega, List.all_eq_true] at h
  rw [show ((k : Int)).toNat = k by omega, List.all_eq_true]
  intro c hc
  refine h c ?_
  have e : b.cps.toList.take k = (b.cps.toList.take i).take k := by rw [List.take_take, Nat.min_eq_left hk]
  rw [e] at hc
  exact List.mem_of_mem_take hc
theorem due_core (b : Str) : (if (-1 : Int) < Txt.rfind b (Str.ofString ".") ∧ dots b (Txt.rfind b (Str.ofString ".")) = false then Txt.slice b none (some (Txt.rfind b (Str.ofString "."))) else b) = due b := by
  have hz := size_len b
  rw [dot_is]
  unfold due
  rcases rfind_cases b 46 with ⟨h, hn⟩ | ⟨i, h, hi, hn⟩
  · have hp : points b = [] := by
      rw [points_filter, List.filter_eq_nil_iff]
      intro k hk
      obtain ⟨k0, k1⟩ := mem_rangeKs hk
      obtain ⟨n, rfl⟩ := Int.eq_ofNat_of_zero_le k0
      have hl : n < b.cps.toList.length := by omega
      have q : ¬ b.cps.toList[n] = 46 := fun q => hn (q ▸ List.getElem_mem hl)
      rw [isPoint_iff hl, beq_eq_false_iff_ne.mpr q, Bool.false_and]
      exact Bool.false_ne_true
    rw [if_pos hp, if_neg]
    rw [h]
    omega
  · obtain ⟨hlt, hc⟩ := List.getElem?_eq_some_iff.mp hi
    rw [h]
    have after : ∀ n, i < n → (hl : n < b.cps.toList.length) → ¬ b.cps.toList[n] = 46 := fun n hin hl q => by
      refine hn ?_
      rw [← q]
      have : (b.cps.toList.drop (i + 1))[n - (i + 1)]? = some b.cps.toList[n] := by
        rw [List.getElem?_drop, show i + 1 + (n - (i + 1)) = n by omega, List.getElem?_eq_getElem hl]
      exact List.mem_of_getElem? this
    cases hd : dots b (i : Int) with
    | true =>
      have hp : points b = [] := by
        rw [points_filter, List.filter_eq_nil_iff]
        intro k hk
        obtain ⟨k0, k1⟩ := mem_rangeKs hk
        obtain ⟨n, rfl⟩ := Int.eq_ofNat_of_zero_le k0
        have hl : n < b.cps.toList.length := by omega
        rw [isPoint_iff hl]
        rcases Nat.lt_or_ge i n with q | q
        · rw [beq_eq_false_iff_ne.mpr (after n q hl), Bool.false_and]
          exact Bool.false_ne_true
        · rw [dots_le hd q]; simp
      rw [if_pos hp, if_neg]
      rintro ⟨_, q⟩
      cases q
    | false =>
      obtain ⟨m, hm⟩ : ∃ m, b.length = i + 1 + m := ⟨b.length - (i + 1), by omega⟩
      have hp : points b = (rangeKs 0 i).filter (isPoint b) ++ [(i : Int)] := by
        rw [points_filter, hm, rangeKs_split, List.filter_append]
        congr 1
        have hI : isPoint b (i : Int) = true := by
          rw [isPoint_iff hlt, hc, hd]; rfl
        rw [List.filter_cons_of_pos hI]
        congr 1
        rw [List.filter_eq_nil_iff]
        intro k hk
        obtain ⟨j, hj, rfl⟩ := List.mem_map.mp hk
        have hj' := List.mem_range.mp hj
        have hl : i + 1 + j < b.cps.toList.length := by omega
        rw [isPoint_iff hl, beq_eq_false_iff_ne.mpr (after (i + 1 + j) (by omega) hl), Bool.false_and]
        exact Bool.false_ne_true
      have hne : points b ≠ [] := by rw [hp]; simp
      have hcut : cut b = (i : Int) := by
        unfold cut
        rw [hp]
        simp [List.getD]
      rw [if_neg hne, hcut, if_pos]
      exact ⟨by omega, rfl⟩
theorem due_is (x : Str) : modname x = due (tail x) := due_core (tail x)
end Mine
namespace Mine
theorem strike_list (x : Str) (c : Nat) : (Txt.replace x ⟨#[c]⟩ (Str.ofString "")).cps.toList = x.cps.toList.filter (· != c) := by
  rw [show Str.ofString "" = ⟨#[]⟩ by decide]
  exact replace_strikes x c
theorem plain_list (x : Str) : ∃ R : List Nat, 47 ∉ R ∧ 46 ∉ R ∧ (plain x).cps.toList = R ++ [99] := by
  refine ⟨(x.cps.toList.filter (· != 47)).filter (· != 46), fun h => ?_, fun h => ?_, ?_⟩
  · have := (List.mem_filter.mp (List.mem_filter.mp h).1).2
    simp at this
  · have := (List.mem_filter.mp h).2
    simp at this
  · unfold plain
    rw [slash_is, dot_is, Str.cps_append, Array.toList_append, strike_list, strike_list]
    rfl
theorem plain_name (x : Str) : modname (plain x) = plain x := by
  obtain ⟨R, h47, h46, e⟩ := plain_list x
  have ht : tail (plain x) = plain x := list_ext (by
    rw [tail_seg]
    exact seg_free (by rw [e]; simp [h47]))
  unfold modname
  rw [ht, if_neg]
  rw [dot_is]
  rintro ⟨h, _⟩
  rcases rfind_cases (plain x) 46 with ⟨q, _⟩ | ⟨i, _, hi, _⟩
  · rw [q] at h; exact absurd h (by decide)
  · have := List.mem_of_getElem? hi
    rw [e] at this
    simp [h46] at this
theorem plain_file (x : Str) : modname (x ++ Str.ofString "/" ++ plain x ++ Str.ofString ".py") = plain x := by
  obtain ⟨R, h47, h46, e⟩ := plain_list x
  have ht : (tail (x ++ Str.ofString "/" ++ plain x ++ Str.ofString ".py")).cps.toList = (R ++ [99]) ++ 46 :: [112, 121] := by
    rw [tail_seg]
    have e1 : (x ++ Str.ofString "/" ++ plain x ++ Str.ofString ".py").cps.toList = x.cps.toList ++ 47 :: ((R ++ [99]) ++ 46 :: [112, 121]) := by
      rw [Str.cps_append, Str.cps_append, Str.cps_append, Array.toList_append, Array.toList_append, Array.toList_append, e, slash_is,
        show Str.ofString ".py" = ⟨#[46, 112, 121]⟩ by decide]
      simp
    rw [e1, seg_app]
    exact seg_free (by simp [h47])
  unfold modname
  generalize tail (x ++ Str.ofString "/" ++ plain x ++ Str.ofString ".py") = b at ht
  have hz := size_len b
  have hr : Txt.rfind b (Str.ofString ".") = ((R ++ [99]).length : Nat) := by
    rw [dot_is]
    rcases rfind_cases b 46 with ⟨_, hn⟩ | ⟨i, h, hi, hn⟩
    · exact absurd (by rw [ht]; simp) hn
    · rw [h]
      congr 1
      rw [ht] at hi hn
      rcases Nat.lt_trichotomy i (R ++ [99]).length with q | q | q
      · rw [List.getElem?_append_left q] at hi
        have := List.mem_of_getElem? hi
        simp [h46] at this
      · exact q
      · rw [List.getElem?_append_right (by omega)] at hi
        obtain ⟨j, hj⟩ : ∃ j, i - (R ++ [99]).length = j + 1 := ⟨i - (R ++ [99]).length - 1, by omega⟩
        rw [hj, List.getElem?_cons_succ] at hi
        have := List.mem_of_getElem? hi
        simp at this
  rw [hr, if_pos]
  · refine list_ext ?_
    rw [slice_to b _ (by rw [ht]; simp), ht, List.take_left, e]
  · refine ⟨by omega, ?_⟩
    unfold dots
    rw [ht, Int.toNat_natCast, List.take_left, List.all_eq_false]
    exact ⟨99, by simp, by decide⟩
end Mine
namespace Mine
/-- the piece that a number of the script stands for -/
def piece (k : Int) : Str := [Str.ofString "/", Str.ofString ".", Str.ofString "a", Str.ofString "b", Str.ofString ".py", Str.ofString " "].getD (k.fmod 6).toNat Str.empty
theorem piece_len (k : Int) : (piece k).length ≤ 3 :=
  KOpn.len_getD (L := [Str.ofString "/", Str.ofString ".", Str.ofString "a", Str.ofString "b", Str.ofString ".py", Str.ofString " "]) (d := Str.empty) (by decide +kernel)
theorem glued_len (l : List Int) : (Txt.join (Str.ofString "") (l.map piece)).length ≤ 3 * l.length := by
  have h := StrLaws.join_length_le (Str.ofString "") (l.map piece)
  have z : (Str.ofString "").length = 0 := by decide
  have s := sumLen_le_of_bound piece 3 l fun a _ => piece_len a
  show (Builtin.Str.glued (Str.ofString "") (l.map piece)).length ≤ _
  rw [StrLaws.glued_eq_join]
  rw [z, Nat.mul_zero, Nat.add_zero] at h
  omega
section
variable {prog : Program} {w : World} {A : Around} {E : Value → Shared → Prop} {s : Shared} {x y : Str} {t u : Tok} {Q : Value → Shared → Prop}
/-- the glued path: from here on any text of at most 189 signs -/
theorem glue {D : Addr} {ys : List Value} {l : List Int} (hl : s.heap.IsList D ys.toArray) (hc : CarriedAll ys (l.map fun a => PyData.str (piece a))) (hn : ¬ (63 : Int) < (l.length : Int))
    (h : ∀ x t' k, x.length ≤ 189 → Q (.str x t') { s with toks := k }) : wpAny (model prog w) A (call (.builtin "str.join") [.str (Str.ofString "") t, .ref D]) Q E s :=
  KT.join_B 3 hl hc (fun a _ => piece_len a) (by omega) (by decide) fun t' k => h _ t' k (by have := glued_len l; omega)
end
end Mine
namespace Mine
section
variable {prog : Program} {w : World} {A : Around} {E : Value → Shared → Prop} {s : Shared} {x y : Str} {t u : Tok} {Q : Value → Shared → Prop}
theorem text_end {h₀ : Heap} {L I C D : Addr} {m : Str → Option Value} {s₁ : Shared} {oI oC oD : Obj} {S : List (Addr × Obj) → Prop} {r y : Str} {t : Tok} {h' : Heap} {tk : Nat} {all news : List (Addr × Obj)}
    (F : Fr h₀ L h' m) (N : News h₀ L h' all) (sub : ∀ p ∈ (I, oI) :: (C, oC) :: (D, oD) :: news, p ∈ all) (off : LCg.Off3 I C D news) (hS : S news) (e : r = y) :
    LCg.CompEnd h₀ L m s₁ I oI C oC D oD S (fun y news' => KCtEl news r y news') (.str y t) { s₁ with heap := h', toks := tk } :=
  LCg.CompEnd.intro F N news sub off hS (kct_el e rfl rfl)
end
end Mine
namespace Mine
section
variable {prog : Program} {w : World} {A : Around} {E : Value → Shared → Prop} {s : Shared} {x y : Str} {t u : Tok} {Q : Value → Shared → Prop}
theorem count_nonneg (x y : Str) : 0 ≤ Txt.count x y := Int.natCast_nonneg _
theorem count_le (x y : Str) : Txt.count x y ≤ (x.length : Int) + 1 := by
  have h := StrLaws.occ_length_le x y 0 x.length (x.length + 1)
  unfold Txt.count
  omega
theorem last_part {value slice : Expr} {a : Addr} {l : List (Str × Tok)} (hl : s.heap.IsList a (strValues l).toArray) (hi : StrsAre (strValues l) (l.map (·.1))) (e : l.map (·.1) = Txt.split x (Str.ofString "/")) (hx : x.length ≤ 189)
    (h : ∀ t', (tail x).length ≤ 189 → Q (.str (tail x) t') s)
    (hs : subscripted slice false (.ref a) (.int (Txt.count x (Str.ofString "/")) u) = operate [.ref a, .int (Txt.count x (Str.ofString "/")) u] (getItem (.ref a) (.int (Txt.count x (Str.ofString "/")) u)) := by with_unfolding_all rfl)
    (hg : ∀ r, letTemporaryGo value (.ref a) r = pure () := by intro _; with_unfolding_all rfl) :
    wpAny (model prog w) A (subscriptTail value slice (.ref a) (.int (Txt.count x (Str.ofString "/")) u)) Q E s := by
  have h0 := count_nonneg x (Str.ofString "/")
  have h1 := count_le x (Str.ofString "/")
  obtain ⟨t', ht⟩ := hi.at (e ▸ split_at_count x)
  exact item_listL hl h0 (by omega) ht (h t' (Nat.le_trans (tail_len x) hx)) hs hg
end
end Mine
namespace Mine
section
variable {prog : Program} {w : World} {A : Around} {E : Value → Shared → Prop} {s : Shared} {x y : Str} {t u : Tok} {Q : Value → Shared → Prop}
theorem rfind_base (h : ∀ t' k, Q (.int (-1) t') { s with toks := k }) : wpAny (model prog w) A (call (.builtin "str.rfind") [.str (Txt.slice x (some (Txt.rfind x (Str.ofString "/") + 1)) none) t, .str (Str.ofString "/") u]) Q E s := by
  refine SC.rfind ?_
  have e := rfind_tail x
  unfold tail at e
  rw [e]
  exact h _ _
end
end Mine
namespace Mine
section
variable {prog : Program} {w : World} {A : Around} {h₀ : Heap} {L : Addr} {m : Str → Option Value} {env : Env} {ct elt : Expr} {x : Str} {scope : Scope} {cl : List (Str × Addr)} {S : List (Addr × Obj) → Prop} {Fin : Shared → List Value → List (Addr × Obj) → Prop} {news : List (Addr × Obj)}
theorem points_src {b : Str} {r : Addr} {t u v : Tok} {s₁ : Shared} (hb : b.length ≤ 189) (hh : A.handled = none) (F : Fr h₀ L s₁.heap m) (N : News h₀ L s₁.heap news) (hr : IsRange s₁.heap r 0 (b.length : Int) 1 t u v)
    (turn : ∀ k t I oI C oC D m₂ ys l h tk (E' : Value → Shared → Prop), 0 ≤ k → k < (b.length : Int) → LCg.NsObj oC m₂ → m₂ x = some (.int k t) → Fr h₀ L h m → News h₀ L h ((I, oI) :: (C, oC) :: (D, LCg.lst ys) :: news) → LCg.Off3 I C D news → ((@Ne Nat I C) ∧ (@Ne Nat I D) ∧ (@Ne Nat C D)) →
      wpAny (model prog w) A (isTrue ct (compEnvC scope cl C env) (eval ct (compEnvC scope cl C env))) (fun ok s' => if ok = true then wpAny (model prog w) A (eval elt (compEnvC scope cl C env)) (LCg.CompEnd h₀ L m { s₁ with heap := h, toks := tk } I oI C oC D (LCg.lst ys) (fun _ => True) (fun y news' => KCiEl news l (addPoint b l k) y news')) E' s'
        else LCg.CompEnd h₀ L m { s₁ with heap := h, toks := tk } I oI C oC D (LCg.lst ys) (fun _ => True) (fun _ news' => KCiNo news l (addPoint b l k) news') Value.none s') E' { s₁ with heap := h, toks := tk })
    (fin : ∀ (g : Heap) ys, IntsAre ys (points b) → Fin { s₁ with heap := g } ys news) :
    LCt.CompSrcT prog w A h₀ L m env ct elt x scope cl Fin (.ref r) s₁ := by
  refine LCt.CompSrcT.range (n := b.length) hh F N hr (small_one (by omega) (by omega) (by omega) (by omega)) (by rw [rangeSize_nat _ _]; omega) (by rw [sizeLine_eq]; omega) fun g => ?_
  refine kci_range (addPoint b) (fun k t I oI C oC D m₂ ys l h tk E' hlo hhi _ hC hx F' N' off ne _ => turn k t I oI C oC D m₂ ys l h tk E' hlo (by omega) hC hx F' N' off ne) (fun ys hy _ => fin g ys hy) ?_
  unfold KPfGrows
  intro l k
  unfold addPoint
  split
  · simp
  · omega
end
end Mine
namespace Mine
theorem isPoint_yes {b : Str} {k : Int} (h1 : (Txt.item b k == Str.ofString ".") = true) (h2 : (Txt.stripChars (Txt.slice b none (some k)) (Str.ofString ".") != Str.ofString "") = true) : isPoint b k = true := by
  unfold isPoint
  rw [h1, Bool.true_and]
  exact h2
theorem isPoint_no1 {b : Str} {k : Int} (h1 : (Txt.item b k == Str.ofString ".") = false) : isPoint b k = false := by
  unfold isPoint
  rw [h1, Bool.false_and]
theorem isPoint_no2 {b : Str} {k : Int} (h2 : (Txt.stripChars (Txt.slice b none (some k)) (Str.ofString ".") != Str.ofString "") = false) : isPoint b k = false := by
  unfold isPoint
  have e : (!(Txt.stripChars (Txt.slice b none (some k)) (Str.ofString ".") == Str.ofString "")) = false := h2
  rw [e, Bool.and_false]
theorem points_len_le (b : Str) : (points b).length ≤ b.length := by
  have key : ∀ (ks l : List Int), (ks.foldl (addPoint b) l).length ≤ l.length + ks.length := by
    intro ks
    induction ks with
    | nil => intro l; simp
    | cons k r ih =>
      intro l
      have h := ih (addPoint b l k)
      have h2 : (addPoint b l k).length ≤ l.length + 1 := by
        unfold addPoint
        split
        · simp
        · omega
      simp only [List.foldl_cons, List.length_cons]
      omega
  have h := key (rangeKs 0 b.length) []
  rw [rangeKs_length, List.length_nil, Nat.zero_add] at h
  exact h
section
variable {prog : Program} {w : World} {A : Around} {E : Value → Shared → Prop} {s : Shared} {x y : Str} {t u : Tok}
theorem int_end {h₀ : Heap} {L I C D : Addr} {m : Str → Option Value} {s₁ : Shared} {oI oC oD : Obj} {S : List (Addr × Obj) → Prop} {b : Str} {l : List Int} {k : Int} {h' : Heap} {tk : Nat} {all news : List (Addr × Obj)}
    (F : Fr h₀ L h' m) (N : News h₀ L h' all) (sub : ∀ p ∈ (I, oI) :: (C, oC) :: (D, oD) :: news, p ∈ all) (off : LCg.Off3 I C D news) (hS : S news) (e : isPoint b k = true) :
    LCg.CompEnd h₀ L m s₁ I oI C oC D oD S (fun y news' => KCiEl news l (addPoint b l k) y news') (.int k t) { s₁ with heap := h', toks := tk } :=
  LCg.CompEnd.intro F N news sub off hS (kci_el (by unfold addPoint; rw [if_pos e]) rfl rfl)
theorem none_end {h₀ : Heap} {L I C D : Addr} {m : Str → Option Value} {s₁ : Shared} {oI oC oD : Obj} {S : List (Addr × Obj) → Prop} {b : Str} {l : List Int} {k : Int} {h' : Heap} {tk : Nat} {all news : List (Addr × Obj)}
    (F : Fr h₀ L h' m) (N : News h₀ L h' all) (sub : ∀ p ∈ (I, oI) :: (C, oC) :: (D, oD) :: news, p ∈ all) (off : LCg.Off3 I C D news) (hS : S news) (e : isPoint b k = false) :
    LCg.CompEnd h₀ L m s₁ I oI C oC D oD S (fun _ news' => KCiNo news l (addPoint b l k) news') Value.none { s₁ with heap := h', toks := tk } :=
  LCg.CompEnd.intro F N news sub off hS (kci_no (by unfold addPoint; rw [if_neg (by rw [e]; decide)]) rfl)
theorem points_length {a : Addr} {vs : List Value} {b : Str} {Q : Value → Shared → Prop} (hl : s.heap.IsList a vs.toArray) (hi : IntsAre vs (points b)) (hb : b.length ≤ 189)
    (h : Q (.int (points b).length (s.toks + 1)) { s with toks := s.toks + 1 + 1 }) : wpAny (model prog w) A (call (.builtin "len") [.ref a]) Q E s := by
  have e : vs.toArray.size = (points b).length := by rw [List.size_toArray, hi.length]
  have hp := points_len_le b
  refine len_list hl (by rw [e]; omega) ?_
  rw [e]
  exact h
theorem points_item {value slice : Expr} {a : Addr} {vs : List Value} {b : Str} {Q : Value → Shared → Prop} (hl : s.heap.IsList a vs.toArray) (hi : IntsAre vs (points b)) (hb : b.length ≤ 189) (hn : decide (points b = []) = false)
    (h : ∀ t', Q (.int (cut b) t') s)
    (hs : subscripted slice false (.ref a) (.int (((points b).length : Int) - 1) u) = operate [.ref a, .int (((points b).length : Int) - 1) u] (getItem (.ref a) (.int (((points b).length : Int) - 1) u)) := by with_unfolding_all rfl)
    (hg : ∀ r, letTemporaryGo value (.ref a) r = pure () := by intro _; with_unfolding_all rfl) :
    wpAny (model prog w) A (subscriptTail value slice (.ref a) (.int (((points b).length : Int) - 1) u)) Q E s := by
  have hp := points_len_le b
  have hne : points b ≠ [] := of_decide_eq_false hn
  have h0 : 0 < (points b).length := List.length_pos_iff.mpr hne
  have e : (((points b).length : Int) - 1).toNat = (points b).length - 1 := by omega
  have hx : (points b)[(points b).length - 1]? = some (cut b) := by
    unfold cut
    rw [List.getD_eq_getElem?_getD, List.getElem?_eq_getElem (by omega)]
    rfl
  obtain ⟨t', ht⟩ := hi.get _ _ hx
  exact item_listL hl (by omega) (by omega) (by rw [e]; exact ht) (h t') hs hg
theorem execs_toks {M : Model} {env : Env} {st : Stmt} {rest : List Stmt} {Q : Flow → Shared → Prop} (hn : 1 ≤ s.toks)
    (h : wpAny M A (exec st env) (fun f s' => 1 ≤ s'.toks → match f with | .next => wpAny M A (execs rest env) Q E s' | f => Q f s') E s) : wpAny M A (execs (st :: rest) env) Q E s :=
  wpAny_execs_cons (wpAny_mono (wpAny_toks_of hn h) (fun _ _ x => x.2 x.1) fun _ _ x => x.2)
theorem len_slash : (Str.ofString "/").length = 1 := by decide
theorem len_c : (Str.ofString "c").length = 1 := by decide
theorem len_py : (Str.ofString ".py").length = 3 := by decide
theorem strike {c : Nat} {u v : Tok} {Q : Value → Shared → Prop} (hk : 1 ≤ s.toks) (hu : 1 ≤ u) (huv : v = u + 1) (hy : y = ⟨#[c]⟩) (hx : x.length ≤ 189)
    (h : ∀ t' k, 1 ≤ k → (Txt.replace x y (Str.ofString "")).length ≤ 189 → Q (.str (Txt.replace x y (Str.ofString "")) t') { s with toks := k }) : wpAny (model prog w) A (call (.builtin "str.replace") [.str x t, .str y u, .str (Str.ofString "") v]) Q E s := by
  have u0 : u ≠ 0 := fun e => by rw [e] at hu; exact absurd hu (by decide)
  have v0 : v ≠ 0 := fun e => by rw [e] at huv; exact absurd huv.symm (Nat.succ_ne_zero u)
  have uv : u ≠ v := fun e => by rw [← e] at huv; exact absurd huv (Nat.ne_of_lt (Nat.lt_succ_self u))
  have hyz : (y == Str.ofString "") = false := by
    rw [hy]
    apply Bool.eq_false_iff.mpr
    intro hh
    have e := congrArg Str.length (eq_of_beq hh)
    rw [KOpn.len_one, show (Str.ofString "").length = 0 by decide] at e
    exact absurd e (by decide)
  have hlen : (Txt.replace x y (Str.ofString "")).length ≤ 189 := by
    have e0 : Str.ofString "" = ⟨#[]⟩ := by decide
    have e := replace_strikes x c
    rw [hy, e0]
    have l1 : (Txt.replace x ⟨#[c]⟩ ⟨#[]⟩).length = (Txt.replace x ⟨#[c]⟩ ⟨#[]⟩).cps.toList.length := Array.length_toList.symm
    have l2 : x.cps.toList.length = x.length := Array.length_toList
    have l3 := List.length_filter_le (· != c) x.cps.toList
    rw [l1, e]
    omega
  refine wpAny_with_toks hk (wpAny_mono (SC.replaceW (Q := fun a s' => 1 ≤ s'.toks → Q a s') u0 v0 uv hyz (by omega) (by decide) fun t' k h1 => h t' k h1 hlen) (fun _ _ q => q) fun _ _ e _ => e)
end
end Mine
namespace Mine
theorem due_len {b : Str} (hb : b.length ≤ 189) : (due b).length ≤ 189 := by
  unfold due
  split
  · exact hb
  · exact Nat.le_trans (Txt.slice_le _ _ _) hb
theorem dots_zero (b : Str) : dots b (-1 + 1) = true := by
  have e : ((-1 : Int) + 1).toNat = 0 := by decide
  unfold dots
  rw [e, List.take_zero]
  rfl
theorem rfind_ge (b y : Str) : -1 ≤ Txt.rfind b y := by
  unfold Txt.rfind
  split <;> omega
section
variable {x : Str} {i : Int}
theorem way_cut (h0 : 0 ≤ i) (hd : i < Txt.rfind (Txt.slice x (some (Txt.rfind x (Str.ofString "/") + 1)) none) (Str.ofString ".")) (h2 : (Txt.slice (Txt.slice x (some (Txt.rfind x (Str.ofString "/") + 1)) none) (some i) (some (i + 1)) != Str.ofString ".") = true) : Txt.slice (Txt.slice x (some (Txt.rfind x (Str.ofString "/") + 1)) none) none (some (Txt.rfind (Txt.slice x (some (Txt.rfind x (Str.ofString "/") + 1)) none) (Str.ofString "."))) = modname x := by
  show Txt.slice (tail x) none (some (Txt.rfind (tail x) (Str.ofString "."))) = modname x
  have h1 : -1 < Txt.rfind (tail x) (Str.ofString ".") := Int.lt_trans (by omega) hd
  exact (if_pos ⟨h1, dots_stop h0 hd h2 (rfind_lt _)⟩).symm
theorem way_whole (hd : ¬ i < Txt.rfind (Txt.slice x (some (Txt.rfind x (Str.ofString "/") + 1)) none) (Str.ofString ".")) (hi : i ≤ Txt.rfind (Txt.slice x (some (Txt.rfind x (Str.ofString "/") + 1)) none) (Str.ofString ".")) (h : dots (Txt.slice x (some (Txt.rfind x (Str.ofString "/") + 1)) none) i = true) : (Txt.slice x (some (Txt.rfind x (Str.ofString "/") + 1)) none) = modname x := by
  show tail x = modname x
  have e : i = Txt.rfind (tail x) (Str.ofString ".") := by show i = Txt.rfind (Txt.slice x (some (Txt.rfind x (Str.ofString "/") + 1)) none) (Str.ofString "."); omega
  unfold modname
  rw [if_neg]
  rintro ⟨_, h3⟩
  have h' : dots (tail x) i = true := h
  rw [← e, h'] at h3
  cases h3
theorem way_none (hd : ¬ -1 < Txt.rfind (Txt.slice x (some (Txt.rfind x (Str.ofString "/") + 1)) none) (Str.ofString ".")) : (Txt.slice x (some (Txt.rfind x (Str.ofString "/") + 1)) none) = modname x := by
  show tail x = modname x
  unfold modname
  rw [if_neg]
  rintro ⟨h3, _⟩
  exact hd h3
theorem inv_next (h0 : 0 ≤ i) (h : dots (Txt.slice x (some (Txt.rfind x (Str.ofString "/") + 1)) none) i = true) (hd : i < Txt.rfind (Txt.slice x (some (Txt.rfind x (Str.ofString "/") + 1)) none) (Str.ofString ".")) (h2 : (Txt.slice (Txt.slice x (some (Txt.rfind x (Str.ofString "/") + 1)) none) (some i) (some (i + 1)) != Str.ofString ".") = false) :
    0 ≤ i + 1 ∧ i + 1 ≤ Txt.rfind (Txt.slice x (some (Txt.rfind x (Str.ofString "/") + 1)) none) (Str.ofString ".") ∧ dots (Txt.slice x (some (Txt.rfind x (Str.ofString "/") + 1)) none) (i + 1) = true :=
  ⟨by omega, by omega, dots_next h0 h h2 (Int.lt_trans hd (rfind_lt _))⟩
theorem inv_start (hd : -1 < Txt.rfind (Txt.slice x (some (Txt.rfind x (Str.ofString "/") + 1)) none) (Str.ofString ".")) : 0 ≤ (-1 : Int) + 1 ∧ (-1 : Int) + 1 ≤ Txt.rfind (Txt.slice x (some (Txt.rfind x (Str.ofString "/") + 1)) none) (Str.ofString ".") ∧ dots (Txt.slice x (some (Txt.rfind x (Str.ofString "/") + 1)) none) (-1 + 1) = true :=
  ⟨by omega, by omega, dots_zero _⟩
end
section
variable {prog : Program} {w : World} {A : Around} {E : Value → Shared → Prop} {s : Shared} {x y : Str} {t u : Tok}
def DueEnd (h₀ : Heap) (L : Addr) (m : Str → Option Value) (news : List (Addr × Obj)) (s : Shared) (b : Str) (v : Value) (s' : Shared) : Prop :=
  ∃ (t : Tok) (h' : Heap) (tk : Nat), v = .str (due b) t ∧ s' = { s with heap := h', toks := tk } ∧ Fr h₀ L h' m ∧ News h₀ L h' news
theorem due_join {M : Model} {h₀ : Heap} {L : Addr} {m : Str → Option Value} {news : List (Addr × Obj)} {vs : List Value} {b : Str} {env : Env} {test body orelse : Expr} {pos : Pos} {Q : Value → Shared → Prop}
    (_hi : IntsAre vs (points b)) (_F : Fr h₀ L s.heap m) (_N : News h₀ L s.heap news) (h1 : wpAny M A (eval (.IfExp test body orelse pos) env) (DueEnd h₀ L m news s b) E s)
    (h2 : ∀ t h' tk, (due b).length ≤ b.length → Fr h₀ L h' m → News h₀ L h' news → Q (.str (due b) t) { s with heap := h', toks := tk }) : wpAny M A (eval (.IfExp test body orelse pos) env) Q E s := by
  refine wpAny_mono h1 (fun v s' h => ?_) fun _ _ e => e
  obtain ⟨t, h', tk, rfl, rfl, F, N⟩ := h
  refine h2 t h' tk ?_ F N
  unfold due
  split
  · exact Nat.le_refl _
  · exact Txt.slice_le _ _ _
theorem due_end1 {h₀ h' : Heap} {L : Addr} {m : Str → Option Value} {news all : List (Addr × Obj)} {b : Str} {tk : Nat} (h : decide (points b = []) = true) (F : Fr h₀ L h' m) (N : News h₀ L h' all) (sub : ∀ p ∈ news, p ∈ all) :
    DueEnd h₀ L m news s b (.str b t) { s with heap := h', toks := tk } :=
  ⟨t, h', tk, by unfold due; rw [if_pos (of_decide_eq_true h)], rfl, F, cb_drop N sub⟩
theorem due_end2 {h₀ h' : Heap} {L : Addr} {m : Str → Option Value} {news all : List (Addr × Obj)} {b : Str} {tk : Nat} (h : decide (points b = []) = false) (F : Fr h₀ L h' m) (N : News h₀ L h' all) (sub : ∀ p ∈ news, p ∈ all) :
    DueEnd h₀ L m news s b (.str (Txt.slice b none (some (cut b))) t) { s with heap := h', toks := tk } :=
  ⟨t, h', tk, by unfold due; rw [if_neg (of_decide_eq_false h)], rfl, F, cb_drop N sub⟩
theorem ne_due {Q : Value → Shared → Prop} (h : Q (.bool false) s) : wpAny (model prog w) A (compareOp .NotEq (.str (modname x) t) (.str (due (tail x)) u)) Q E s := by
  refine ne_str ?_
  rw [due_is]
  simpa using h
theorem eq_file {Q : Value → Shared → Prop} (h : Q (.bool true) s) : wpAny (model prog w) A (compareOp .Eq (.str (modname (x ++ Str.ofString "/" ++ (Txt.replace (Txt.replace x (Str.ofString "/") (Str.ofString "")) (Str.ofString ".") (Str.ofString "") ++ Str.ofString "c") ++ Str.ofString ".py")) t) (.str (Txt.replace (Txt.replace x (Str.ofString "/") (Str.ofString "")) (Str.ofString ".") (Str.ofString "") ++ Str.ofString "c") u)) Q E s := by
  refine eq_str ?_
  have e := plain_file x
  unfold plain at e
  rw [e]
  simpa using h
theorem eq_name {Q : Value → Shared → Prop} (h : Q (.bool true) s) : wpAny (model prog w) A (compareOp .Eq (.str (modname (Txt.replace (Txt.replace x (Str.ofString "/") (Str.ofString "")) (Str.ofString ".") (Str.ofString "") ++ Str.ofString "c")) t) (.str (Txt.replace (Txt.replace x (Str.ofString "/") (Str.ofString "")) (Str.ofString ".") (Str.ofString "") ++ Str.ofString "c") u)) Q E s := by
  refine eq_str ?_
  have e := plain_name x
  unfold plain at e
  rw [e]
  simpa using h
end
end Mine
namespace Mine
section
variable {prog : Program} {w : World} {A : Around} {E : Value → Shared → Prop} {s : Shared} {x y : Str} {t u : Tok}
structure InName : Prop where
def NameEnd (h₀ : Heap) (L : Addr) (m : Str → Option Value) (news : List (Addr × Obj)) (s : Shared) (x : Str) (v : Value) (s' : Shared) : Prop :=
  ∃ (t : Tok) (h' : Heap) (tk : Nat), v = .str (modname x) t ∧ s' = { s with heap := h', toks := tk } ∧ Fr h₀ L h' m ∧ News h₀ L h' news
theorem name_join {M : Model} {h₀ : Heap} {L a : Addr} {m : Str → Option Value} {news : List (Addr × Obj)} {Q : Value → Shared → Prop}
    (_F : Fr h₀ L s.heap m) (_N : News h₀ L s.heap news) (_hx : x.length ≤ 400) (h1 : InName → wpAny M A (call (.ref a) [.str x t]) (NameEnd h₀ L m news s x) E s)
    (h2 : ∀ t h' tk, Fr h₀ L h' m → News h₀ L h' news → Q (.str (modname x) t) { s with heap := h', toks := tk }) : wpAny M A (call (.ref a) [.str x t]) Q E s := by
  refine wpAny_mono (h1 ⟨⟩) (fun v s' h => ?_) fun _ _ e => e
  obtain ⟨t, h', tk, rfl, rfl, F, N⟩ := h
  exact h2 t h' tk F N
theorem name_end {h₀ h' : Heap} {L : Addr} {m : Str → Option Value} {news all : List (Addr × Obj)} {tk : Nat} (e : y = modname x) (F : Fr h₀ L h' m) (N : News h₀ L h' all) (sub : ∀ p ∈ news, p ∈ all) :
    NameEnd h₀ L m news s x (.str y t) { s with heap := h', toks := tk } :=
  ⟨t, h', tk, by rw [e], rfl, F, cb_drop N sub⟩
end
end Mine
local macro_rules | `(tactic| walk_at "CompSrc") => `(tactic| (k_here; (try k_fmods); k_dflt (
  refine LCg.CompSrc.base (by rfl) (by k_asm) (by k_asm) (by assumption) (by size_fits) ?_; intro g'; (refine' kct_list Mine.piece (by assumption) (fun k' t' I' oI' C' oC' D' m' ys' h' tk' E' hk' hC' hx' F' N' off' ne' => ?_) ?_); (all_goals (try (simp only [LCg.Off3, and_true] at off'))); (all_goals (try ((show KPfMark → _); intro hMark'))); kcf_last)))
local macro_rules | `(tactic| walk_at "CompEnd") => `(tactic| (k_dflt (first
  | refine Mine.text_end (by assumption) (by assumption) (by kcf_all) (by first | assumption | (simp only [LCg.Off3, and_true]; done) | (simp only [LCg.Off3, and_true]; assumption)) (by first | lcg_src | assumption) (by rfl)
  | refine Mine.int_end (by assumption) (by assumption) (by kcf_all) (by assumption) (by exact True.intro) (Mine.isPoint_yes (by assumption) (by assumption))
  | refine Mine.none_end (by assumption) (by assumption) (by kcf_all) (by assumption) (by exact True.intro) (Mine.isPoint_no1 (by assumption))
  | refine Mine.none_end (by assumption) (by assumption) (by kcf_all) (by assumption) (by exact True.intro) (Mine.isPoint_no2 (by assumption)))))
local macro_rules | `(tactic| walk_at "call builtin:str.join") => `(tactic| (k_here; (with_reducible rename CarriedAll _ (List.map _ _) => ktC); (refine Mine.glue (by first | assumption | is_list | exact News.isList (by k_asm) (by k_mem)) ktC (by assumption) ?_); intro pth' _ _ hpth'))
local macro_rules | `(tactic| walk_at "subscriptTail") => `(tactic| (k_here; (with_reducible show wpAny _ _ (subscriptTail _ _ (Value.ref _) (Value.int (PySem.Txt.count _ _) _)) _ _ _); k_dflt (refine kba_turn (value' := PySem.Expr.Name (PySem.Str.ofString "_") ⟨0, 0, 0, 0⟩) (fun _ => rfl) (Mine.last_part (by assumption) (by assumption) (by assumption) (by assumption) ?_)); intro _ hbase'))
local macro_rules | `(tactic| walk_at "subscriptTail Name BinOp ref int") => `(tactic| (k_here; k_dflt (refine Mine.points_item (by first | assumption | is_list | exact News.isList (by k_asm) (by k_mem)) (by assumption) (by assumption) (by assumption) ?_); intro _))
local macro_rules | `(tactic| walk_at "call builtin:len") => `(tactic| (k_here; (with_reducible show wpAny _ _ (call (Value.builtin "len") [Value.ref _]) _ _ _); k_dflt (refine Mine.points_length (by first | assumption | is_list | exact News.isList (by k_asm) (by k_mem)) (by assumption) (by assumption) ?_)))
local macro_rules | `(tactic| walk_at "call builtin:str.rfind") => `(tactic| (k_here; (refine Mine.rfind_base ?_); intro _ _))
local macro_rules | `(tactic| walk_at "CompSrcT") => `(tactic| (k_here; k_dflt ((refine Mine.points_src (by assumption) (by rfl) (by k_asm) (by k_asm) (by assumption) (fun k' t' I' oI' C' oC' D' m' ys' l' h' tk' E' hlo' hhi' hC' hx' F' N' off' ne' => ?_) (fun g' ys' hI' => ?_)); (all_goals try k_fold))))
local macro_rules | `(tactic| walk_at "eval IfExp") => `(tactic| (k_here; (fail_if_success (with_reducible show wpAny _ _ _ (Mine.DueEnd _ _ _ _ _ _) _ _)); (refine Mine.due_join (by assumption) (by k_asm) (by k_asm) ?_ ?_); rotate_left; intro tD' hD' tkD' lD' FD' ND'; rotate_left))
local macro_rules | `(tactic| walk_at "DueEnd") => `(tactic| first
  | ((with_reducible show Mine.DueEnd _ _ _ _ _ _ (Value.str (PySem.Txt.slice _ none (some (Mine.cut _))) _) _); k_dflt (refine Mine.due_end2 (by with_reducible assumption) (by assumption) (by assumption) (by kcf_all)))
  | ((with_reducible show Mine.DueEnd _ _ _ _ _ _ (Value.str (Mine.tail _) _) _); k_dflt (refine Mine.due_end1 (by with_reducible assumption) (by assumption) (by assumption) (by kcf_all))))
local macro_rules | `(tactic| walk_at "compareOp NotEq str str") => `(tactic| (k_here; (with_reducible show wpAny _ _ (compareOp CmpOp.NotEq (Value.str (Mine.modname _) _) (Value.str (Mine.due _) _)) _ _ _); (refine Mine.ne_due ?_)))
local macro_rules | `(tactic| walk_at "compareOp Eq str str") => `(tactic| (k_here; (with_reducible show wpAny _ _ (compareOp CmpOp.Eq (Value.str (Mine.modname _) _) (Value.str _ _)) _ _ _); first | refine Mine.eq_file ?_ | refine Mine.eq_name ?_))
local macro_rules | `(tactic| walk_at "call builtin:str.replace") => `(tactic| (k_here; (refine Mine.strike (by (try dsimp only); omega) (by (try dsimp only); first | assumption | omega) (by rfl) (by first | exact Mine.slash_is | exact Mine.dot_is) (by assumption) ?_); intro _ _ _ _))
local macro_rules | `(tactic| walk_at "forall") => `(tactic| (k_here; (with_reducible show (1 ≤ PySem.Shared.toks _ → _)); intro tk1'; (try dsimp only at tk1')))
local macro_rules | `(tactic| walk_at "execs cons") => `(tactic| (k_here; (fail_if_success (rename Mine.InName => inN'')); (refine Mine.execs_toks (by (try dsimp only); omega) ?_)))
local macro_rules | `(tactic| walk_at "exec While Compare cons nil") => `(tactic| (k_here; (k_while_given ["p", "dotIndex"] (fun p d _ i => 0 ≤ i ∧ i ≤ d ∧ Mine.dots p i = true) (fun _ d _ i => (d - i).toNat) "filenameIndex")))
local macro_rules | `(tactic| walk_at "call ref") => `(tactic| (k_here; (with_reducible show wpAny _ _ (call (Value.ref 56) [Value.str _ _]) _ _ _); (fail_if_success (with_reducible show wpAny _ _ _ (Mine.NameEnd _ _ _ _ _ _) _ _)); (refine Mine.name_join (by k_asm) (by k_asm) (by first | omega | (simp only [PySem.Str.length_append, Mine.len_slash, Mine.len_c, Mine.len_py]; omega)) ?_ ?_); rotate_left; intro tN' hN' tkN' FN' NN'; rotate_left; intro inN'))
local macro_rules | `(tactic| walk_at "NameEnd") => `(tactic| ((k_dflt (refine Mine.name_end ?ne (by assumption) (by assumption) (by kcf_all)); (case ne => first
  | exact Mine.way_cut (by omega) (by assumption) (by assumption)
  | exact Mine.way_whole (by assumption) (by omega) (by assumption)
  | exact Mine.way_none (by assumption)))))
set_option maxRecDepth 100000 in
set_option maxHeartbeats 8000000 in
theorem PySem.Challenge.cw_xb0047_01_holds : PySem.Challenge.rw_xb0047_01.Holds := by
  k_with "table" => skip
  k_with "state" => first | exact Mine.inv_start (by assumption) | exact Mine.inv_next (by assumption) (by assumption) (by assumption) (by assumption)
  open_k
