import PyProof.Rows.All
import Wide.All
import OpenK.AllK
import Wide.FinOn
import PySem.Challenge.RW_dz0044_01
open PySem PySem.W PyProof.Rows PySem.Calls PySem.Spec
set_option Elab.async false
namespace Mine
set_option maxRecDepth 100000 in
set_option maxHeartbeats 8000000 in
open_top hd for PySem.Challenge.rw_dz0044_01
section
open PySem PySem.W PyProof.Rows PySem.Calls PySem.Spec
/-- a text from its signs -/
def tx (l : List Nat) : Str := ⟨l.toArray⟩
theorem tx_cps (x : Str) : tx x.cps.toList = x := by cases x; simp [tx]
theorem tx_inj {a b : List Nat} (h : tx a = tx b) : a = b := by
  have := congrArg (fun x : Str => x.cps.toList) h
  simpa [tx] using this
theorem tx_toList (l : List Nat) : (tx l).cps.toList = l := by simp [tx]
theorem tx_length (l : List Nat) : (tx l).length = l.length := by simp [tx, Str.length]
theorem tx_append (a b : List Nat) : tx a ++ tx b = tx (a ++ b) := by
  refine Str.ext' ?_
  rw [Str.cps_append]
  simp [tx]
theorem tx_ext {x : Str} {l : List Nat} (h : x.cps.toList = l) : x = tx l := by rw [← h, tx_cps]

/-- each sign c turned into z -/
def sub1 (c : Nat) (z : List Nat) (l : List Nat) : List Nat := l.flatMap fun k => if k = c then z else [k]
theorem sub1_free (c : Nat) (z l : List Nat) (h : c ∉ l) : sub1 c z l = l := by
  induction l with
  | nil => rfl
  | cons k r ih =>
    have h1 : ¬ k = c := fun e => h (e ▸ List.mem_cons_self ..)
    have h2 : c ∉ r := fun m => h (List.mem_cons_of_mem _ m)
    have := ih h2
    simp only [sub1, List.flatMap_cons, if_neg h1] at this ⊢
    rw [this]; rfl
theorem sub1_join (c : Nat) (z : List Nat) : ∀ parts : List Str, (∀ p ∈ parts, c ∉ p.cps.toList) → sub1 c z (Str.join ⟨#[c]⟩ parts).cps.toList = (Str.join (tx z) parts).cps.toList
  | [], _ => rfl
  | [p], h => sub1_free c z _ (h p (List.mem_singleton.mpr rfl))
  | p :: q :: r, h => by
    have ih := sub1_join c z (q :: r) fun a ha => h a (List.mem_cons_of_mem _ ha)
    show sub1 c z (p ++ ⟨#[c]⟩ ++ Str.join ⟨#[c]⟩ (q :: r)).cps.toList = (p ++ tx z ++ Str.join (tx z) (q :: r)).cps.toList
    simp only [Str.cps_append, Array.toList_append]
    rw [← ih, tx_toList]
    have hp := sub1_free c z _ (h p (List.mem_cons_self ..))
    simp only [sub1, List.flatMap_append] at hp ⊢
    rw [hp]
    simp
theorem replace_tx (c : Nat) (z l : List Nat) : Txt.replace (tx l) ⟨#[c]⟩ (tx z) = tx (sub1 c z l) := by
  refine tx_ext ?_
  rw [StrLaws.replace_one, ← sub1_join c z _ (StrLaws.split_free _ c), StrLaws.join_split, tx_toList]

/-- what escape writes for a sign -/
def wr (b : Bool) (c : Nat) : List Nat :=
  if c = 38 then [38, 97, 109, 112, 59] else if c = 60 then [38, 108, 116, 59] else if c = 62 then [38, 103, 116, 59]
  else if b = true ∧ c = 34 then [38, 113, 117, 111, 116, 59] else if b = true ∧ c = 39 then [38, 35, 120, 50, 55, 59] else [c]
def wrs (b : Bool) (l : List Nat) : List Nat := l.flatMap (wr b)
def escT (b : Bool) (x : Str) : Str :=
  let y := Txt.replace (Txt.replace (Txt.replace x (Str.ofString "&") (Str.ofString "&amp;")) (Str.ofString "<") (Str.ofString "&lt;")) (Str.ofString ">") (Str.ofString "&gt;")
  if b then Txt.replace (Txt.replace y (Str.ofString "\"") (Str.ofString "&quot;")) (Str.ofString "'") (Str.ofString "&#x27;") else y
theorem repl_of {x y z : Str} {c : Nat} {l zs : List Nat} (hx : x = tx l) (hy : y = ⟨#[c]⟩) (hz : z = tx zs) : Txt.replace x y z = tx (sub1 c zs l) := by
  rw [hx, hy, hz, replace_tx]
def sb (c : Nat) (z : List Nat) : Nat → List Nat := fun k => if k = c then z else [k]
theorem sub1_flat (c : Nat) (z : List Nat) (f : Nat → List Nat) (l : List Nat) : sub1 c z (l.flatMap f) = l.flatMap fun k => (f k).flatMap (sb c z) := by
  simp only [sub1, List.flatMap_assoc]; rfl
theorem escT_tx (b : Bool) (l : List Nat) : escT b (tx l) = tx (wrs b l) := by
  have e1 : Str.ofString "&" = ⟨#[38]⟩ := by decide +kernel
  have e2 : Str.ofString "&amp;" = tx [38, 97, 109, 112, 59] := by decide +kernel
  have e3 : Str.ofString "<" = ⟨#[60]⟩ := by decide +kernel
  have e4 : Str.ofString "&lt;" = tx [38, 108, 116, 59] := by decide +kernel
  have e5 : Str.ofString ">" = ⟨#[62]⟩ := by decide +kernel
  have e6 : Str.ofString "&gt;" = tx [38, 103, 116, 59] := by decide +kernel
  have e7 : Str.ofString "\"" = ⟨#[34]⟩ := by decide +kernel
  have e8 : Str.ofString "&quot;" = tx [38, 113, 117, 111, 116, 59] := by decide +kernel
  have e9 : Str.ofString "'" = ⟨#[39]⟩ := by decide +kernel
  have e10 : Str.ofString "&#x27;" = tx [38, 35, 120, 50, 55, 59] := by decide +kernel
  have h0 : l = l.flatMap fun k => [k] := by simp
  have key : ∀ k, (((([k] : List Nat).flatMap (sb 38 [38, 97, 109, 112, 59])).flatMap (sb 60 [38, 108, 116, 59])).flatMap (sb 62 [38, 103, 116, 59])) = wr false k := by
    intro k
    by_cases h1 : k = 38
    · subst h1; decide
    by_cases h2 : k = 60
    · subst h2; decide
    by_cases h3 : k = 62
    · subst h3; decide
    simp [wr, sb, h1, h2, h3]
  have key2 : ∀ k, (((wr false k).flatMap (sb 34 [38, 113, 117, 111, 116, 59])).flatMap (sb 39 [38, 35, 120, 50, 55, 59])) = wr true k := by
    intro k
    by_cases h1 : k = 38
    · subst h1; decide
    by_cases h2 : k = 60
    · subst h2; decide
    by_cases h3 : k = 62
    · subst h3; decide
    by_cases h4 : k = 34
    · subst h4; decide
    by_cases h5 : k = 39
    · subst h5; decide
    simp [wr, sb, h1, h2, h3, h4, h5]
  have base : Txt.replace (Txt.replace (Txt.replace (tx l) (Str.ofString "&") (Str.ofString "&amp;")) (Str.ofString "<") (Str.ofString "&lt;")) (Str.ofString ">") (Str.ofString "&gt;") = tx (wrs false l) := by
    rw [repl_of (repl_of (repl_of rfl e1 e2) e3 e4) e5 e6]
    congr 1
    conv => lhs; rw [h0]
    rw [sub1_flat, sub1_flat, sub1_flat]
    simp only [key]
    rfl
  unfold escT
  rw [base]
  cases b with
  | false => rfl
  | true =>
    simp only [if_true]
    rw [repl_of (repl_of rfl e7 e8) e9 e10]
    congr 1
    unfold wrs
    rw [sub1_flat, sub1_flat]
    simp only [key2]
theorem wr_len (b : Bool) (c : Nat) : 1 ≤ (wr b c).length ∧ (wr b c).length ≤ 6 := by
  unfold wr
  repeat' split
  all_goals simp
theorem wrs_len (b : Bool) (l : List Nat) : (wrs b l).length ≤ 6 * l.length := by
  induction l with
  | nil => simp [wrs]
  | cons c r ih =>
    have := (wr_len b c).2
    simp only [wrs, List.flatMap_cons, List.length_append, List.length_cons] at ih ⊢
    omega
theorem wrs_append (b : Bool) (l r : List Nat) : wrs b (l ++ r) = wrs b l ++ wrs b r := by simp [wrs]
theorem escT_eq (b : Bool) (x : Str) : escT b x = tx (wrs b x.cps.toList) := by
  rw [← escT_tx, tx_cps]
theorem escT_len (b : Bool) (x : Str) : (escT b x).length ≤ 6 * x.length := by
  rw [escT_eq, tx_length]
  have := wrs_len b x.cps.toList
  simpa [Str.length] using this
/-- a rough bound on one replacement's length -/
theorem repl_len {x y z : Str} {n k : Nat} {c : Nat} (hy : y = ⟨#[c]⟩) (hx : x.length ≤ n) (hz : z.length ≤ k + 1) : (Txt.replace x y z).length ≤ n * (k + 1) := by
  rw [repl_of (l := x.cps.toList) (zs := z.cps.toList) (tx_cps x).symm hy (tx_cps z).symm, tx_length]
  have hz' : z.cps.toList.length ≤ k + 1 := by simpa [Str.length] using hz
  have hx' : x.cps.toList.length ≤ n := by simpa [Str.length] using hx
  refine Nat.le_trans ?_ (Nat.mul_le_mul_right _ hx')
  generalize x.cps.toList = l
  induction l with
  | nil => simp [sub1]
  | cons a r ih =>
    simp only [sub1, List.flatMap_cons, List.length_append, List.length_cons, Nat.add_mul] at ih ⊢
    split
    · omega
    · simp only [List.length_cons, List.length_nil]; omega
end
section
open PySem PySem.W PyProof.Rows PySem.Calls PySem.Spec PySem.Builtin PySem.Builtin.Str
theorem slice_ss {x : Str} {i j : Int} (hi : 0 ≤ i) (hj : 0 ≤ j) : Txt.slice x (some i) (some j) = tx ((x.cps.toList.drop i.toNat).take (j.toNat - i.toNat)) := by
  obtain ⟨a, rfl⟩ := Int.eq_ofNat_of_zero_le hi
  obtain ⟨b, rfl⟩ := Int.eq_ofNat_of_zero_le hj
  have hl : x.cps.toList.length = x.length := by simp [PySem.Str.length]
  have a1 : ¬ ((a : Int) < 0) := by omega
  have b1 : ¬ ((b : Int) < 0) := by omega
  simp only [Int.toNat_natCast]
  by_cases h : min a x.length ≤ min b x.length
  · have e : strSliceIndices (some (a : Int)) (some (b : Int)) 1 x.length = strSliceIndices (some ((min a x.length : Nat) : Int)) (some ((min b x.length : Nat) : Int)) 1 x.length := by
      have a2 : ¬ (((min a x.length : Nat) : Int) < 0) := by omega
      have b2 : ¬ (((min b x.length : Nat) : Int) < 0) := by omega
      have e1 : max (0 : Int) (min (a : Int) (x.length : Int)) = max (0 : Int) (min ((min a x.length : Nat) : Int) (x.length : Int)) := by omega
      have e2 : max (0 : Int) (min (b : Int) (x.length : Int)) = max (0 : Int) (min ((min b x.length : Nat) : Int) (x.length : Int)) := by omega
      simp only [strSliceIndices, a1, a2, b1, b2, if_false, e1, e2, show ((1 : Int) > 0) = True from eq_true (by decide), if_true]
    have key : Txt.slice x (some (a : Int)) (some (b : Int)) = StrLaws.sliceText x (some ((min a x.length : Nat) : Int)) (some ((min b x.length : Nat) : Int)) := by
      unfold Txt.slice StrLaws.sliceText
      rw [e]
    rw [key, StrLaws.sliceText_nat x h (by omega)]
    show tx _ = tx _
    congr 1
    by_cases ha : a ≤ x.length
    · rw [Nat.min_eq_left ha]
      by_cases hb : b ≤ x.length
      · rw [Nat.min_eq_left hb]
      · rw [Nat.min_eq_right (by omega), List.take_of_length_le (by rw [List.length_drop]; omega), List.take_of_length_le (by rw [List.length_drop]; omega)]
    · rw [List.drop_eq_nil_of_le (by omega), List.drop_eq_nil_of_le (by omega)]
      simp
  · have hab : b < a ∧ b < x.length := by omega
    have e : strSliceIndices (some (a : Int)) (some (b : Int)) 1 x.length = [] := by
      simp only [strSliceIndices, a1, b1, if_false, show ((1 : Int) > 0) = True from eq_true (by decide), if_true]
      unfold sliceRange
      have : ((max (0 : Int) (min (b : Int) (x.length : Int))) - (max (0 : Int) (min (a : Int) (x.length : Int)))) ≤ 0 := by omega
      simp only [show ((1 : Int) > 0) = True from eq_true (by decide), if_true]
      split <;> simp <;> omega
    unfold Txt.slice
    rw [e, if_neg (by simp; omega)]
    show tx _ = tx _
    have z : b - a = 0 := by omega
    rw [z]
    rfl
theorem slice_ns {x : Str} {j : Int} (hj : 0 ≤ j) : Txt.slice x none (some j) = tx (x.cps.toList.take j.toNat) := by
  have e : Txt.slice x none (some j) = Txt.slice x (some 0) (some j) := by unfold Txt.slice; rw [StrLaws.sliceIdx_none_lo]
  rw [e, slice_ss (Int.le_refl 0) hj]
  simp
theorem slice_sn {x : Str} {i : Int} (hi : 0 ≤ i) : Txt.slice x (some i) none = tx (x.cps.toList.drop i.toNat) := by
  have hl : x.cps.toList.length = x.length := by simp [PySem.Str.length]
  have e : Txt.slice x (some i) none = Txt.slice x (some i) (some (x.length : Int)) := by unfold Txt.slice; rw [StrLaws.sliceIdx_none_hi]
  rw [e, slice_ss hi (by omega), List.take_of_length_le (by rw [List.length_drop]; omega)]
theorem item_at {x : Str} {i c : Nat} (h : x.cps.toList[i]? = some c) : Txt.item x (i : Int) = tx [c] := by
  have h' : x.cps[i]? = some c := by simpa using h
  have hlt : i < x.length := by
    have := (List.getElem?_eq_some_iff.mp h).1
    simpa [PySem.Str.length] using this
  unfold Txt.item Txt.charAt seqIndex?
  simp only [show ¬ ((i : Int) < 0) by omega, if_false]
  rw [if_pos (by simp; omega)]
  simp [h', tx]
end
section
open PySem PySem.W PyProof.Rows PySem.Calls PySem.Spec
def five : List Nat := [38, 60, 62, 34, 39]
def spec (b : Bool) : List Nat := if b then [38, 60, 62, 34, 39] else [38, 60, 62]
/-- the writing of k stands at the head of rest -/
def hits (b : Bool) (rest : List Nat) (k : Nat) : Bool := rest.take (wr b k).length == wr b k
def fitsL (b : Bool) : List Nat → List Nat
  | [] => []
  | c :: r => if c ∈ spec b then (spec b).filter (hits b (c :: r)) else [c]
def ahead : List Nat → List Nat
  | [] => []
  | c :: _ => if c ∈ five then [] else [c]
theorem hits_nil (b : Bool) (k : Nat) : hits b [] k = false := by
  have := (wr_len b k).1
  unfold hits
  cases h : wr b k with
  | nil => rw [h] at this; simp at this
  | cons a r => simp
theorem wr_plain {b : Bool} {c : Nat} (h : c ∉ spec b) : wr b c = [c] := by
  cases b <;> simp [spec] at h <;> simp [wr, h]
theorem hits_amp {b : Bool} {c k : Nat} {r : List Nat} (hc : c ≠ 38) (hk : k ∈ spec b) : hits b (c :: r) k = false := by
  cases b <;> simp [spec] at hk <;> rcases hk with rfl | rfl | rfl | rfl | rfl <;> simp [hits, wr, hc]
theorem fits_le (b : Bool) (rest : List Nat) : (fitsL b rest).length ≤ 1 := by
  cases rest with
  | nil => simp [fitsL]
  | cons c r =>
    by_cases hc : c ∈ spec b
    · simp only [fitsL, if_pos hc]
      by_cases h38 : c = 38
      · subst h38
        cases r with
        | nil => cases b <;> simp [spec, hits, wr, List.filter_cons]
        | cons d r =>
          by_cases h1 : d = 97
          · subst h1; cases b <;> simp [spec, hits, wr, List.filter_cons] <;> split <;> simp
          by_cases h2 : d = 108
          · subst h2; cases b <;> simp [spec, hits, wr, List.filter_cons] <;> split <;> simp
          by_cases h3 : d = 103
          · subst h3; cases b <;> simp [spec, hits, wr, List.filter_cons] <;> split <;> simp
          by_cases h4 : d = 113
          · subst h4; cases b <;> simp [spec, hits, wr, List.filter_cons] <;> split <;> simp
          by_cases h5 : d = 35
          · subst h5; cases b <;> simp [spec, hits, wr, List.filter_cons] <;> split <;> simp
          cases b <;> simp [spec, hits, wr, List.filter_cons, h1, h2, h3, h4, h5]
      · rw [List.filter_eq_nil_iff.mpr fun k hk => by simp [hits_amp h38 hk]]
        exact Nat.zero_le _
    · simp only [fitsL, if_neg hc]; exact Nat.le_refl _
theorem tried_eq (b : Bool) (rest : List Nat) : (five ++ ahead rest).filter (hits b rest) = fitsL b rest := by
  cases rest with
  | nil =>
    simp only [ahead, List.append_nil, fitsL]
    exact List.filter_eq_nil_iff.mpr fun k _ => by simp [hits_nil]
  | cons c r =>
    by_cases h5 : c ∈ five
    · simp only [ahead, if_pos h5, List.append_nil]
      cases b with
      | true =>
        have : c ∈ spec true := h5
        simp only [fitsL, if_pos this]
        rfl
      | false =>
        by_cases hs : c ∈ spec false
        · simp only [fitsL, if_pos hs]
          have hc : c ≠ 34 ∧ c ≠ 39 := by simp [spec] at hs; omega
          show (([38, 60, 62] : List Nat) ++ [34, 39]).filter _ = _
          rw [List.filter_append]
          have : ([34, 39] : List Nat).filter (hits false (c :: r)) = [] := by simp [hits, wr, hc, List.filter_cons]
          rw [this, List.append_nil]
          rfl
        · simp only [fitsL, if_neg hs]
          have hc : c = 34 ∨ c = 39 := by simp [spec] at hs; simp [five] at h5; omega
          rcases hc with rfl | rfl <;> simp [five, hits, wr, List.filter_cons]
    · have hs : c ∉ spec b := fun h => h5 (by cases b <;> simp [spec] at h <;> simp [five] <;> omega)
      simp only [ahead, if_neg h5, fitsL, if_neg hs, List.filter_append]
      have h1 : five.filter (hits b (c :: r)) = [] := by
        refine List.filter_eq_nil_iff.mpr fun k hk => ?_
        have hc : c ≠ 38 ∧ c ≠ 60 ∧ c ≠ 62 ∧ c ≠ 34 ∧ c ≠ 39 := by simp [five] at h5; omega
        simp [five] at hk
        rcases hk with rfl | rfl | rfl | rfl | rfl <;> cases b <;> simp [hits, wr, hc]
      have h2 : hits b (c :: r) c = true := by simp [hits, wr_plain hs]
      rw [h1]
      simp [h2]
theorem fits_hits {b : Bool} {rest : List Nat} {c : Nat} (h : c ∈ fitsL b rest) : hits b rest c = true := by
  rw [← tried_eq] at h
  exact (List.mem_filter.mp h).2
/-- a chain's next link -/
def stepC (b : Bool) (t : List Nat) (p : List Nat × Nat) : Option (List Nat × Nat) := (fitsL b (t.drop p.2)).head?.map fun c => (p.1 ++ [c], p.2 + (wr b c).length)
structure IsCh (b : Bool) (t : List Nat) (acc : List (List Nat × Nat)) : Prop where
  zero : acc[0]? = some ([], 0)
  succ : ∀ (i : Nat) (p q : List Nat × Nat), acc[i]? = some p → acc[i + 1]? = some q → stepC b t p = some q
theorem hits_take {b : Bool} {t : List Nat} {n c : Nat} {w : List Nat} (h : hits b (t.drop n) c = true) (hn : n ≤ t.length) (hw : w = t.take n) : n + (wr b c).length ≤ t.length ∧ w ++ wr b c = t.take (n + (wr b c).length) := by
  have e : (t.drop n).take (wr b c).length = wr b c := by simpa [hits] using h
  have hl := congrArg List.length e
  simp only [List.length_take, List.length_drop] at hl
  refine ⟨by omega, ?_⟩
  rw [hw, ← e]
  have hl2 : ((t.drop n).take (wr b c).length).length = (wr b c).length := by rw [e]
  conv => rhs; rw [List.take_add]
  simp only [e]
theorem IsCh.inv {b : Bool} {t : List Nat} {acc : List (List Nat × Nat)} (h : IsCh b t acc) : ∀ (i : Nat) (p : List Nat × Nat), acc[i]? = some p → p.2 ≤ t.length ∧ wrs b p.1 = t.take p.2 ∧ i ≤ p.2 ∧ p.1.length ≤ p.2 := by
  intro i
  induction i with
  | zero =>
    intro p hp
    rw [h.zero] at hp
    cases hp
    simp [wrs]
  | succ i ih =>
    intro q hq
    have hlt := (List.getElem?_eq_some_iff.mp hq).1
    have hp : acc[i]? = some (acc[i]'(by omega)) := List.getElem?_eq_getElem (by omega)
    obtain ⟨i1, i2, i3, i4⟩ := ih _ hp
    have hs := h.succ i _ q hp hq
    unfold stepC at hs
    cases hf : fitsL b (t.drop (acc[i]'(by omega)).2) with
    | nil => rw [hf] at hs; simp at hs
    | cons c r =>
      rw [hf] at hs
      simp only [List.head?_cons, Option.map_some, Option.some.injEq] at hs
      have hh : hits b (t.drop (acc[i]'(by omega)).2) c = true := fits_hits (by rw [hf]; exact .head _)
      obtain ⟨k1, k2⟩ := hits_take hh i1 i2
      have hw := (wr_len b c).1
      rw [← hs]
      refine ⟨k1, ?_, by simp only; omega, by simp only [List.length_append, List.length_cons, List.length_nil]; omega⟩
      rw [← k2, wrs_append]
      simp [wrs]
theorem IsCh.uniq {b : Bool} {t : List Nat} {a c : List (List Nat × Nat)} (ha : IsCh b t a) (hc : IsCh b t c)
    (ea : ∀ p : List Nat × Nat, a[a.length - 1]? = some p → stepC b t p = none) (ec : ∀ p : List Nat × Nat, c[c.length - 1]? = some p → stepC b t p = none) : a = c := by
  have same : ∀ i, i < a.length → i < c.length → a[i]? = c[i]? := by
    intro i
    induction i with
    | zero => intro _ _; rw [ha.zero, hc.zero]
    | succ i ih =>
      intro h1 h2
      have e := ih (by omega) (by omega)
      have p1 : a[i]? = some (a[i]'(by omega)) := List.getElem?_eq_getElem (by omega)
      have q1 : a[i + 1]? = some (a[i + 1]'h1) := List.getElem?_eq_getElem h1
      have q2 : c[i + 1]? = some (c[i + 1]'h2) := List.getElem?_eq_getElem h2
      have s1 := ha.succ i _ _ p1 q1
      have s2 := hc.succ i _ _ (e ▸ p1) q2
      rw [s1] at s2
      rw [q1, q2, Option.some.inj s2]
  have la : 0 < a.length := (List.getElem?_eq_some_iff.mp ha.zero).1
  have lc : 0 < c.length := (List.getElem?_eq_some_iff.mp hc.zero).1
  have hlen : a.length = c.length := by
    rcases Nat.lt_trichotomy a.length c.length with h | h | h
    · have p1 : a[a.length - 1]? = some (a[a.length - 1]'(by omega)) := List.getElem?_eq_getElem (by omega)
      have e := same (a.length - 1) (by omega) (by omega)
      have q2 : c[a.length - 1 + 1]? = some (c[a.length - 1 + 1]'(by omega)) := List.getElem?_eq_getElem (by omega)
      have s2 := hc.succ _ _ _ (e ▸ p1) q2
      rw [ea _ p1] at s2; cases s2
    · exact h
    · have p1 : c[c.length - 1]? = some (c[c.length - 1]'(by omega)) := List.getElem?_eq_getElem (by omega)
      have e := same (c.length - 1) (by omega) (by omega)
      have q2 : a[c.length - 1 + 1]? = some (a[c.length - 1 + 1]'(by omega)) := List.getElem?_eq_getElem (by omega)
      have s2 := ha.succ _ _ _ (e ▸ p1) q2
      rw [ec _ p1] at s2; cases s2
  refine List.ext_getElem? fun i => ?_
  by_cases h : i < a.length
  · exact same i h (by omega)
  · rw [List.getElem?_eq_none (by omega), List.getElem?_eq_none (by omega)]
theorem IsCh.one (b : Bool) (t : List Nat) : IsCh b t [([], 0)] := ⟨rfl, fun i p q h1 h2 => by
  have := (List.getElem?_eq_some_iff.mp h2).1
  simp at this⟩
theorem IsCh.snoc {b : Bool} {t : List Nat} {acc : List (List Nat × Nat)} {p q : List Nat × Nat} (h : IsCh b t acc) (hp : acc[acc.length - 1]? = some p) (hs : stepC b t p = some q) : IsCh b t (acc ++ [q]) := by
  have la : 0 < acc.length := (List.getElem?_eq_some_iff.mp h.zero).1
  refine ⟨by rw [List.getElem?_append_left la]; exact h.zero, fun i p' q' h1 h2 => ?_⟩
  have hl := (List.getElem?_eq_some_iff.mp h2).1
  simp only [List.length_append, List.length_cons, List.length_nil] at hl
  rw [List.getElem?_append_left (by omega)] at h1
  by_cases he : i + 1 < acc.length
  · rw [List.getElem?_append_left he] at h2
    exact h.succ i p' q' h1 h2
  · have : i + 1 = acc.length := by omega
    rw [this, List.getElem?_append_right (Nat.le_refl _)] at h2
    simp at h2
    have e : i = acc.length - 1 := by omega
    rw [e, hp] at h1
    cases h1
    rw [hs, h2]
end
section
open PySem PySem.W PyProof.Rows PySem.Calls PySem.Spec
/-- a loop's state c: its ledger, its names, its word -/
def LS {σ : Type} (Led : σ → List (Addr × Obj)) (ps : σ → List (Str × Value)) (x : Str) (stored : List Str) (m₀ : Str → Option Value) (I : Nat → σ → Prop) (i : Nat) (m : Str → Option Value) (nx : List (Addr × Obj)) : Prop :=
  ∃ c : σ, nx = Led c ∧ (∀ p ∈ ps c, m p.1 = some p.2) ∧ (∀ z, z ≠ x → (∀ p ∈ ps c, z ≠ p.1) → stored.contains z = false → m z = m₀ z) ∧ I i c
section
variable {prog : Program} {w : World} {A : Around} {E : Value → Shared → Prop} {s : Shared} {env : Env} {h₀ : Heap} {x : Str} {body : List Stmt} {Q : Flow → Shared → Prop}
theorem ls_end {σ : Type} {Led : σ → List (Addr × Obj)} {ps : σ → List (Str × Value)} {stored : List Str} {m₀ : Str → Option Value} {I : Nat → σ → Prop} {i : Nat} {L : Addr} {m' : Str → Option Value} {own news' : List (Addr × Obj)} {s₁ : Shared} {h' : Heap} {tk : Nat} (c : σ)
    (F : Fr h₀ L h' m') (N : News h₀ L h' news') (hn : ∀ p ∈ Led c, p ∈ news') (ho : ∀ p ∈ own, p ∈ news') (hoff : OwnOff own ((Led c).map (·.1))) (hk : ∀ p ∈ ps c, m' p.1 = some p.2)
    (hr : ∀ z, z ≠ x → (∀ p ∈ ps c, z ≠ p.1) → stored.contains z = false → m' z = m₀ z) (hI : I i c) :
    InvEndG h₀ L (LS Led ps x stored m₀ I i) own s₁ { s₁ with heap := h', toks := tk } := InvEndG.intro F N ⟨c, rfl, hk, hr, hI⟩ hoff hn ho

theorem for_walk {σ : Type} {It : Addr} {n : Nat} {P : Nat → Value → Prop} {St : Nat → Heap → Prop} {m₀ : Str → Option Value} (Led : σ → List (Addr × Obj)) (ps : σ → List (Str × Value)) (stored : List Str) (I : Nat → σ → Prop) (c₀ : σ)
    (W : Walks prog w A It [It] [It] n P St) (hob : ∀ i h, St i h → ∃ o, h.get? It = some o) (hL : env.locals ≠ It) (hnew : h₀.get? It = none) (hnw : ∀ p ∈ Led c₀, p.1 ≠ It) (hst : St 0 s.heap)
    (F : Fr h₀ env.locals s.heap m₀) (N : News h₀ env.locals s.heap (Led c₀)) (hk : ∀ p ∈ ps c₀, m₀ p.1 = some p.2) (hI : I 0 c₀)
    (turn : ∀ i v (c : σ) (u : Str → Option Value) h tk own, i < n → P i v → OwnOff own ((Led c).map (·.1)) → I i c →
      Fr h₀ env.locals h (fun y => if y = x then some v else kstB (fun z => if stored.contains z then u z else m₀ z) (ps c) y) → News h₀ env.locals h (Led c ++ own) →
      wpAny (model prog w) A (execs body env) (InvPostG h₀ env.locals (LS Led ps x stored m₀ I (i + 1)) own { s with heap := h, toks := tk } Q) E { s with heap := h, toks := tk })
    (done : ∀ (c : σ) (u : Str → Option Value) h tk, I n c → Fr h₀ env.locals h (fun y => if y = x then u y else kstB (fun z => if stored.contains z then u z else m₀ z) (ps c) y) → News h₀ env.locals h (Led c) → Q .next { s with heap := h, toks := tk }) :
    LoopAtV prog w A h₀ env x body Q E (.ref It) s := by
  refine kdr_loop (fun i m nx => LS Led ps x stored m₀ I i m nx) W (fun _ h => h) (fun _ h => h) ?_ ?_ ?_ ?_ hst F N ⟨c₀, rfl, hk, fun _ _ _ _ => rfl, hI⟩ ?_ ?_
  · intro i h hi b hb
    rw [List.mem_singleton.mp hb]
    exact hob i h hi
  · intro hm
    exact hL (List.mem_singleton.mp hm)
  · intro b hb
    rw [List.mem_singleton.mp hb]
    exact hnew
  · intro p hp hI'
    exact hnw p hp (List.mem_singleton.mp hI')
  · rintro i v m₁ nx h tk own hi hP hoff ⟨c, rfl, h1, h2, hI'⟩ F₁ N₁
    exact turn i v c m₁ h tk own hi hP hoff hI' (kst_fr h1 h2 F₁) N₁
  · rintro m₁ nx h tk ⟨c, rfl, h1, h2, hI'⟩ F₁ N₁
    exact done c m₁ h tk hI' (kst_frOut h1 h2 F₁) N₁

theorem for_str {σ : Type} {xt : Str} {tt : Tok} {m₀ : Str → Option Value} (Led : σ → List (Addr × Obj)) (ps : σ → List (Str × Value)) (stored : List Str) (I : Nat → σ → Prop) (c₀ : σ)
    (hh : A.handled = none) (F : Fr h₀ env.locals s.heap m₀) (N : News h₀ env.locals s.heap (Led c₀)) (hk : ∀ p ∈ ps c₀, m₀ p.1 = some p.2) (hI : I 0 c₀)
    (turn : ∀ i n t (c : σ) (u : Str → Option Value) h tk own, xt.cps[i]? = some n → OwnOff own ((Led c).map (·.1)) → I i c →
      Fr h₀ env.locals h (fun y => if y = x then some (.str ⟨#[n]⟩ t) else kstB (fun z => if stored.contains z then u z else m₀ z) (ps c) y) → News h₀ env.locals h (Led c ++ own) →
      wpAny (model prog w) A (execs body env) (InvPostG h₀ env.locals (LS Led ps x stored m₀ I (i + 1)) own { s with heap := h, toks := tk } Q) E { s with heap := h, toks := tk })
    (done : ∀ (c : σ) (u : Str → Option Value) h tk, I xt.cps.size c → Fr h₀ env.locals h (fun y => if y = x then u y else kstB (fun z => if stored.contains z then u z else m₀ z) (ps c) y) → News h₀ env.locals h (Led c) → Q .next { s with heap := h, toks := tk }) :
    wpAny (model prog w) A (pyIter (.str xt tt)) (fun it s₂ => LoopAtV prog w A h₀ env x body Q E it s₂) E s := by
  have hL : env.locals ≠ s.heap.objs.size := fun e => absurd F.ns.lt (e ▸ Nat.lt_irrefl _)
  have hnw : ∀ p ∈ Led c₀, p.1 ≠ s.heap.objs.size := fun p hp e => absurd (Heap.lt_size (N p hp).1) (e ▸ Nat.lt_irrefl _)
  have N' : ∀ o, News h₀ env.locals (s.heap.push o) (Led c₀) := fun o p hp => ⟨Heap.get?_push_of_some _ (N p hp).1, (N p hp).2⟩
  cases ha : xt.cps.all (· < 128)
  · refine wpAny_pyIter_wide ha ?_
    refine for_walk (s := { s with heap := s.heap.push _ }) Led ps stored I c₀ (Walks.strWide hh _ xt tt) (fun i h hs => ⟨_, hs.choose_spec.1⟩) hL (next_is_new F) hnw ⟨_, Heap.get?_push_size _ rfl, rfl, rfl⟩ (F.push _) (N' _) hk hI ?_ ?_
    · rintro i v c u h tk own hi ⟨n, t, hn, rfl⟩ hoff hI' F₁ N₁
      exact turn i n t c u h tk own hn hoff hI' F₁ N₁
    · exact fun c u h tk hI' F₁ N₁ => done c u h tk hI' F₁ N₁
  · refine wpAny_pyIter_ascii ha ?_
    refine for_walk (s := { s with heap := s.heap.push _ }) Led ps stored I c₀ (Walks.strAscii hh _ xt tt) (fun i h hs => ⟨_, hs.choose_spec.1⟩) hL (next_is_new F) hnw ⟨_, Heap.get?_push_size _ rfl, rfl, rfl⟩ (F.push _) (N' _) hk hI ?_ ?_
    · rintro i v c u h tk own hi ⟨n, t, hn, rfl⟩ hoff hI' F₁ N₁
      exact turn i n t c u h tk own hn hoff hI' F₁ N₁
    · exact fun c u h tk hI' F₁ N₁ => done c u h tk hI' F₁ N₁

theorem for_range {σ : Type} {r : Addr} {a₀ b₀ : Int} {t₀ u₀ v₀ : Tok} {n : Nat} {m₀ : Str → Option Value} (Led : σ → List (Addr × Obj)) (ps : σ → List (Str × Value)) (stored : List Str) (I : Nat → σ → Prop) (c₀ : σ)
    (hh : A.handled = none) (hr : IsRange s.heap r a₀ b₀ 1 t₀ u₀ v₀) (hsmall : Builtin.Range.small a₀ b₀ 1 = true) (hsz : Builtin.Range.rangeSize a₀ b₀ 1 = (n : Int)) (F : Fr h₀ env.locals s.heap m₀) (N : News h₀ env.locals s.heap (Led c₀)) (hk : ∀ p ∈ ps c₀, m₀ p.1 = some p.2) (hI : I 0 c₀)
    (turn : ∀ i t (c : σ) (u : Str → Option Value) h tk own, i < n → OwnOff own ((Led c).map (·.1)) → I i c →
      Fr h₀ env.locals h (fun y => if y = x then some (.int (a₀ + (i : Int)) t) else kstB (fun z => if stored.contains z then u z else m₀ z) (ps c) y) → News h₀ env.locals h (Led c ++ own) →
      wpAny (model prog w) A (execs body env) (InvPostG h₀ env.locals (LS Led ps x stored m₀ I (i + 1)) own { s with heap := h, toks := tk } Q) E { s with heap := h, toks := tk })
    (done : ∀ (c : σ) (u : Str → Option Value) h tk, I n c → Fr h₀ env.locals h (fun y => if y = x then u y else kstB (fun z => if stored.contains z then u z else m₀ z) (ps c) y) → News h₀ env.locals h (Led c) → Q .next { s with heap := h, toks := tk }) :
    wpAny (model prog w) A (pyIter (.ref r)) (fun it s₂ => LoopAtV prog w A h₀ env x body Q E it s₂) E s := by
  have hL : env.locals ≠ s.heap.objs.size := fun e => absurd F.ns.lt (e ▸ Nat.lt_irrefl _)
  have hnw : ∀ p ∈ Led c₀, p.1 ≠ s.heap.objs.size := fun p hp e => absurd (Heap.lt_size (N p hp).1) (e ▸ Nat.lt_irrefl _)
  have N' : ∀ o, News h₀ env.locals (s.heap.push o) (Led c₀) := fun o p hp => ⟨Heap.get?_push_of_some _ (N p hp).1, (N p hp).2⟩
  refine wpAny_pyIter_range hr hsmall ?_
  refine for_walk (s := { s with heap := s.heap.push _ }) Led ps stored I c₀ (Walks.range hh _ a₀ 1 n) (fun i h hs => ⟨_, hs⟩) hL (next_is_new F) hnw (by show IsRangeIter _ _ _ _ _; rw [hsz]; simpa using Heap.get?_push_size _ rfl) (F.push _) (N' _) hk hI ?_ ?_
  · rintro i v c u h tk own hi ⟨t, rfl⟩ hoff hI' F₁ N₁
    rw [Int.mul_one] at F₁
    exact turn i t c u h tk own hi hoff hI' F₁ N₁
  · exact fun c u h tk hI' F₁ N₁ => done c u h tk hI' F₁ N₁

theorem for_list {σ : Type} {l : Addr} {vs : List Value} {nn : Nat} {m₀ : Str → Option Value} (Led : σ → List (Addr × Obj)) (ps : σ → List (Str × Value)) (stored : List Str) (I : Nat → σ → Prop) (c₀ : σ)
    (hh : A.handled = none) (hl : ∀ c, (l, listOf vs.toArray nn) ∈ Led c) (F : Fr h₀ env.locals s.heap m₀) (N : News h₀ env.locals s.heap (Led c₀)) (hk : ∀ p ∈ ps c₀, m₀ p.1 = some p.2) (hI : I 0 c₀)
    (turn : ∀ i v (c : σ) (u : Str → Option Value) h tk own, vs[i]? = some v → OwnOff own ((Led c).map (·.1)) → I i c →
      Fr h₀ env.locals h (fun y => if y = x then some v else kstB (fun z => if stored.contains z then u z else m₀ z) (ps c) y) → News h₀ env.locals h (Led c ++ own) →
      wpAny (model prog w) A (execs body env) (InvPostG h₀ env.locals (LS Led ps x stored m₀ I (i + 1)) own { s with heap := h, toks := tk } Q) E { s with heap := h, toks := tk })
    (done : ∀ (c : σ) (u : Str → Option Value) h tk, I vs.length c → Fr h₀ env.locals h (fun y => if y = x then u y else kstB (fun z => if stored.contains z then u z else m₀ z) (ps c) y) → News h₀ env.locals h (Led c) → Q .next { s with heap := h, toks := tk }) :
    wpAny (model prog w) A (pyIter (.ref l)) (fun it s₂ => LoopAtV prog w A h₀ env x body Q E it s₂) E s := by
  refine kdl_iter (fun i m nx => LS Led ps x stored m₀ I i m nx) hh (hl c₀) F N ⟨c₀, rfl, hk, fun _ _ _ _ => rfl, hI⟩ ?_ ?_
  · rintro i v m₁ nx h tk own hv hoff _ ⟨c, rfl, h1, h2, hI'⟩ F₁ N₁
    refine wpAny_mono (turn i v c m₁ h tk own hv hoff hI' (kst_fr h1 h2 F₁) N₁) (fun f s₂ p => ?_) fun _ _ e => e
    have up : InvEndG h₀ env.locals (LS Led ps x stored m₀ I (i + 1)) own { s with heap := h, toks := tk } s₂ →
        InvEndG h₀ env.locals (fun m' nx => (l, listOf vs.toArray nn) ∈ nx ∧ LS Led ps x stored m₀ I (i + 1) m' nx) own { s with heap := h, toks := tk } s₂ := by
      rintro ⟨h', tk', m', news', nx', e', F', N', hn', ho', ha, hS⟩
      refine ⟨h', tk', m', news', nx', e', F', N', hn', ho', ha, ?_, hS⟩
      obtain ⟨c', rfl, _⟩ := hS
      exact hl c'
    cases f with
    | ret v => exact p
    | brk => exact p
    | next => exact up p
    | cont => exact up p
  · rintro m₁ nx h tk ⟨c, rfl, h1, h2, hI'⟩ F₁ N₁
    exact done c m₁ h tk hI' (kst_frOut h1 h2 F₁) N₁

/-- an item of a tuple of texts at a place within it -/
theorem tab_item {h₀ : Heap} {L a : Addr} {news : List (Addr × Obj)} {vs : List Value} {nn : Nat} {k : Int} {tk : Tok} {B : Nat} {value slice : Expr} {Q : Value → Shared → Prop} (N : News h₀ L s.heap news)
    (hm : (a, ({ cls := .type "tuple", data := .seq vs.toArray nn } : Obj)) ∈ news) (hv : ∀ v ∈ vs, ∃ x t, v = .str x t ∧ x.length ≤ B) (h0 : 0 ≤ k) (h1 : k < vs.length) (hlen : vs.length < 1000)
    (h : ∀ x t, x.length ≤ B → Q (.str x t) s)
    (hs : subscripted slice false (.ref a) (.int k tk) = operate [.ref a, .int k tk] (getItem (.ref a) (.int k tk)) := by with_unfolding_all rfl) :
    wpAny (model prog w) A (subscriptTail value slice (.ref a) (.int k tk)) Q E s := by
  have hk : k.toNat < vs.length := by omega
  obtain ⟨x, t, e, hx⟩ := hv vs[k.toNat] (List.getElem_mem hk)
  have hj : seqIndex? k vs.length = some k.toNat := by
    unfold seqIndex?
    simp only
    split
    · omega
    · split <;> simp_all
  refine item_tupleT ⟨_, (N _ hm).1, rfl, nn, rfl⟩ (by omega) (by omega) hj (by rw [List.getElem?_eq_getElem hk, e]) (h x t hx) hs
end
theorem fmod_bounds (n k : Int) (hk : 0 < k) : 0 ≤ n.fmod k ∧ n.fmod k < k := ⟨Int.fmod_nonneg_of_pos n hk, Int.fmod_lt_of_pos n hk⟩
theorem sum_short {B : Nat} : ∀ ys : List Str, (∀ y ∈ ys, y.length ≤ B) → (ys.map (·.length)).sum ≤ B * ys.length
  | [], _ => by simp
  | y :: r, h => by
    have ih := sum_short r fun z hz => h z (.tail _ hz)
    have := h y (.head _)
    simp only [List.map_cons, List.sum_cons, List.length_cons, Nat.mul_add, Nat.mul_one]
    omega
theorem join_short' {x : Str} (hx : x.length = 0) : ∀ ys : List Str, (Str.join x ys).length = (ys.map (·.length)).sum
  | [] => rfl
  | [y] => by simp [Str.join]
  | y :: z :: r => by
    have ih := join_short' hx (z :: r)
    show (y ++ x ++ Str.join x (z :: r)).length = _
    simp only [Str.length_append, hx, ih, List.map_cons, List.sum_cons]
    omega
theorem join_short {x : Str} (hx : x.length = 0) (ys : List Str) : (Txt.join x ys).length = (ys.map (·.length)).sum := by
  unfold Txt.join
  rw [StrLaws.glued_eq_join]
  exact join_short' hx ys
/-- ''.join of a made list of short texts -/
theorem join_made {prog : Program} {w : World} {A : Around} {E : Value → Shared → Prop} {s : Shared} {h₀ : Heap} {L l : Addr} {news : List (Addr × Obj)} {its : List Value} {ys : List Str} {ep B : Nat} {x : Str} {t : Tok} {Q : Value → Shared → Prop} (N : News h₀ L s.heap news)
    (hm : (l, listOf its.toArray ep) ∈ news) (hi : StrsAre its ys) (hx : x.length = 0) (hy : ∀ y ∈ ys, y.length ≤ B) (hB : B * ys.length ≤ 1000000)
    (h : ∀ y t' k, y = Txt.join x ys → y.length ≤ B * ys.length → Q (.str y t') { s with toks := k }) : wpAny (model prog w) A (call (.builtin "str.join") [.str x t, .ref l]) Q E s := by
  have h1 := sum_short ys hy
  refine join_list (items := its.toArray) (ys := ys) ⟨_, (N _ hm).1, rfl, ep, rfl⟩ (by simpa using hi) (by rw [hx]; omega) fun t' k => h _ t' k rfl ?_
  rw [join_short hx]; exact h1
/-- every entry of the ledger lies below d -/
structure LtAll (l : List (Addr × Obj)) (d : Addr) : Prop where
  all : ∀ p ∈ l, p.1 < d
theorem LtAll.of {l : List (Addr × Obj)} {d : Addr} (h : ∀ p ∈ l, p.1 < d) : LtAll l d := ⟨h⟩
theorem LtAll.ne {l : List (Addr × Obj)} {d : Addr} (h : LtAll l d) {p : Addr × Obj} (hp : p ∈ l) : p.1 ≠ d := Nat.ne_of_lt (h.all p hp)
theorem LtAll.off {l : List (Addr × Obj)} {d e : Addr} (h : LtAll l d) (he : @LE.le Nat _ d e) : ∀ p ∈ l, p.1 ≠ e := fun p hp => Nat.ne_of_lt (Nat.lt_of_lt_of_le (h.all p hp) he)
section
variable {prog : Program} {w : World} {A : Around} {E : Value → Shared → Prop} {s : Shared} {h₀ : Heap} {L a : Addr} {news : List (Addr × Obj)} {vs : List Value} {ep : Nat} {i : Int} {u : Tok} {v : Value} {value slice : Expr} {Q : Value → Shared → Prop}
theorem list_item (N : News h₀ L s.heap news) (hm : (a, listOf vs.toArray ep) ∈ news) (h0 : 0 ≤ i) (h1 : i < 2 ^ 63) (hv : vs[i.toNat]? = some v) (h : Q v s)
    (hs : subscripted slice false (.ref a) (.int i u) = operate [.ref a, .int i u] (getItem (.ref a) (.int i u)) := by with_unfolding_all rfl) :
    wpAny (model prog w) A (subscriptTail value slice (.ref a) (.int i u)) Q E s := by
  have hL : s.heap.IsList a vs.toArray := ⟨_, (N _ hm).1, rfl, ep, rfl⟩
  exact tail_any hL.typeIs slot_list_getitem.lookup (wpAny_getItem_list hL h0 h1 (by simpa using hv) h) hs
theorem tup_item (N : News h₀ L s.heap news) (hm : (a, ({ cls := .type "tuple", data := .seq vs.toArray ep } : Obj)) ∈ news) (h0 : 0 ≤ i) (h1 : i < 2 ^ 63) (hv : vs[i.toNat]? = some v) (h : Q v s)
    (hs : subscripted slice false (.ref a) (.int i u) = operate [.ref a, .int i u] (getItem (.ref a) (.int i u)) := by with_unfolding_all rfl) :
    wpAny (model prog w) A (subscriptTail value slice (.ref a) (.int i u)) Q E s := by
  have hlt := (List.getElem?_eq_some_iff.mp hv).1
  have hj : seqIndex? i vs.length = some i.toNat := by
    unfold seqIndex?
    simp only
    split
    · omega
    · split <;> simp_all
  exact item_tupleT ⟨_, (N _ hm).1, rfl, ep, rfl⟩ (by omega) h1 hj hv h hs
theorem add_short {x y : Str} {t u : Tok} {Q : Value → Shared → Prop} (n : Nat) (hn : n ≤ 1000000) (hx : x.length ≤ n) (hy : y.length ≤ n) (h : ∀ t' tk, Q (.str (x ++ y) t') { s with toks := tk }) :
    wpAny (model prog w) A (binaryOp .Add (.str x t) (.str y u)) Q E s := PyProof.Rows.add_str h (by rw [sizeLine_eq]; omega)
end
theorem off_append {d : Addr} {a b : List (Addr × Obj)} (h1 : ∀ p ∈ a, p.1 ≠ d) (h2 : ∀ p ∈ b, p.1 ≠ d) : ∀ p ∈ a ++ b, p.1 ≠ d := fun p hp => (List.mem_append.mp hp).elim (h1 p) (h2 p)
/-- the values a filter keeps: those of the places k from i on at which f says yes -/
def Sel (P : Nat → Value → Prop) (f : Nat → Bool) : Nat → Nat → List Value → Prop
  | 0, _, zs => zs = []
  | k + 1, i, zs => if f i = true then ∃ v r, P i v ∧ zs = v :: r ∧ Sel P f k (i + 1) r else Sel P f k (i + 1) zs
open LCg LCt in
theorem restT_filter {prog : Program} {w : World} {A : Around} {h₀ : Heap} {L : Addr} {m : Str → Option Value} {env : Env} {ct elt : Expr} {x : Str} {scope : Scope} {cl : List (Str × Addr)} {s : Shared} {S : List (Addr × Obj) → Prop} {P : Nat → Value → Prop} {Fin : List Value → List (Addr × Obj) → Prop} {news : List (Addr × Obj)} {n : Nat}
    (f : Nat → Bool) (hS : S news)
    (turn : ∀ i v I oI C oC D ys m₂ h tk (E' : Value → Shared → Prop) (QT : Bool → Shared → Prop), i < n → P i v → NsObj oC m₂ → m₂ x = some v → Fr h₀ L h m → News h₀ L h ((I, oI) :: (C, oC) :: (D, lst ys) :: news) → Off3 I C D news → ((@Ne Nat I C) ∧ (@Ne Nat I D) ∧ (@Ne Nat C D)) →
      (∀ h' tk', Fr h₀ L h' m → News h₀ L h' ((I, oI) :: (C, oC) :: (D, lst ys) :: news) → QT (f i) { s with heap := h', toks := tk' }) →
      wpAny (model prog w) A (isTrue ct (compEnvC scope cl C env) (eval ct (compEnvC scope cl C env))) QT E' { s with heap := h, toks := tk })
    (elem : ∀ i v I oI C oC D ys m₂ h tk (E' : Value → Shared → Prop) (QE : Value → Shared → Prop), i < n → P i v → NsObj oC m₂ → m₂ x = some v → Fr h₀ L h m → News h₀ L h ((I, oI) :: (C, oC) :: (D, lst ys) :: news) →
      QE v { s with heap := h, toks := tk } → wpAny (model prog w) A (eval elt (compEnvC scope cl C env)) QE E' { s with heap := h, toks := tk })
    : ∀ k i ys, i + k = n → (∀ zs, Sel P f k i zs → Fin (ys ++ zs) news) → CompRestT prog w A h₀ L m env ct elt x scope cl s S P Fin k i ys news := by
  intro k
  induction k with
  | zero =>
    intro i ys hn fin
    have := fin [] rfl
    rw [List.append_nil] at this
    exact CompRestT.zero this
  | succ k ih =>
    intro i ys hn fin
    refine CompRestT.succ fun v I oI C oC D m₂ h tk E' hP hC hx F N off hne => ?_
    refine turn i v I oI C oC D ys m₂ h tk E' _ (by omega) hP hC hx F N off hne fun h' tk' F' N' => ?_
    cases hf : f i with
    | true =>
      simp only [if_true]
      refine elem i v I oI C oC D ys m₂ h' tk' E' _ (by omega) hP hC hx F' N' ?_
      refine ⟨h', tk', news, rfl, F', N', off, hS, ih (i + 1) (ys ++ [v]) (by omega) fun zs hz => ?_⟩
      rw [List.append_assoc]
      refine fin (v :: zs) ?_
      unfold Sel
      rw [if_pos hf]
      exact ⟨v, zs, hP, rfl, hz⟩
    | false =>
      simp only [Bool.false_eq_true, if_false]
      refine ⟨h', tk', news, rfl, F', N', off, hS, ih (i + 1) ys (by omega) fun zs hz => fin zs ?_⟩
      unfold Sel
      rw [if_neg (by rw [hf]; exact Bool.false_ne_true)]
      exact hz
theorem sel_cases {P : Nat → Value → Prop} {f : Nat → Bool} : ∀ {k i : Nat} {zs : List Value}, Sel P f k i zs → (zs = [] ∧ ∀ j, i ≤ j → j < i + k → f j = false) ∨ ∃ j v r, i ≤ j ∧ j < i + k ∧ f j = true ∧ P j v ∧ zs = v :: r
  | 0, i, zs, h => .inl ⟨h, fun j h1 h2 => by omega⟩
  | k + 1, i, zs, h => by
    unfold Sel at h
    cases hf : f i with
    | true =>
      rw [if_pos hf] at h
      obtain ⟨v, r, hP, e, _⟩ := h
      exact .inr ⟨i, v, r, Nat.le_refl _, by omega, hf, hP, e⟩
    | false =>
      rw [if_neg (by rw [hf]; exact Bool.false_ne_true)] at h
      rcases sel_cases h with ⟨e, q⟩ | ⟨j, v, r, h1, h2, h3, h4, h5⟩
      · refine .inl ⟨e, fun j h1 h2 => ?_⟩
        by_cases hj : j = i
        · rw [hj]; exact hf
        · exact q j (by omega) (by omega)
      · exact .inr ⟨j, v, r, by omega, by omega, h3, h4, h5⟩
theorem sel_len {P : Nat → Value → Prop} {f : Nat → Bool} : ∀ {k i : Nat} {zs : List Value}, Sel P f k i zs → zs.length = ((List.range' i k).filter f).length
  | 0, i, zs, h => by rw [show zs = [] from h]; rfl
  | k + 1, i, zs, h => by
    unfold Sel at h
    rw [List.range'_succ, List.filter_cons]
    cases hf : f i with
    | true =>
      rw [if_pos hf] at h
      obtain ⟨v, r, _, e, hr⟩ := h
      rw [e, if_pos rfl, List.length_cons, List.length_cons, sel_len hr]
    | false =>
      rw [if_neg (by rw [hf]; exact Bool.false_ne_true)] at h
      rw [if_neg Bool.false_ne_true, sel_len h]
end
section
open PySem PySem.W PyProof.Rows PySem.Calls PySem.Spec
/-- the walk's loop: its state -/
structure WSt where
  told : List Nat
  tt : Tok
  place : Nat
  tp : Tok
  going : Bool
  items : List Value
  ep : Nat
  tl : List (Addr × Obj)
  cell : Obj
  pre : List (List Nat × Nat)
def datC (acc : List (List Nat × Nat)) : List Dat := acc.map fun p => .tuple [.str (tx p.1), .int (p.2 : Int)]
theorem datC_append (a b : List (List Nat × Nat)) : datC (a ++ b) = datC a ++ datC b := by simp [datC]
def ledW (lc : Addr) (q0 : Addr × Obj) (q : List (Addr × Obj)) (cp : Addr) (qt : Addr × Obj) (news : List (Addr × Obj)) (c : WSt) : List (Addr × Obj) :=
  (lc, listOf c.items.toArray c.ep) :: q0 :: (q ++ ((cp, c.cell) :: qt :: (c.tl ++ news)))
structure InvW (x : Str) (b : Bool) (lc cp : Addr) (q0 : Addr × Obj) (c : WSt) : Prop where
  cell : c.cell.data = .cell (some (.int (c.place : Int) c.tp))
  ch : IsCh b x.cps.toList (c.pre ++ [(c.told, c.place)])
  dat : DatAll (q0 :: c.tl) c.items (datC (c.pre ++ [(c.told, c.place)]))
  off1 : ∀ p ∈ c.tl, p.1 ≠ lc
  off2 : ∀ p ∈ c.tl, p.1 ≠ cp
  stop : c.going = false → stepC b x.cps.toList (c.told, c.place) = none
def psW (c : WSt) : List (Str × Value) := [(Str.ofString "told", .str (tx c.told) c.tt), (Str.ofString "going", .bool c.going)]
def muW (x : Str) (c : WSt) : Nat := x.length - c.place + (if c.going then 1 else 0)
section
variable {prog : Program} {w : World} {A : Around} {E : Value → Shared → Prop} {Q : Flow → Shared → Prop} {s : Shared} {env : Env} {h₀ : Heap} {L : Addr}
theorem walk_while {test : Expr} {body : List Stmt} {pos : Pos} {m₀ : Str → Option Value} {x : Str} {b : Bool} {lc cp D0 : Addr} {q0 qt : Addr × Obj} {q news : List (Addr × Obj)} {o : Obj} {tt tp : Tok}
    (F : Fr h₀ L s.heap m₀) (N : News h₀ L s.heap (ledW lc q0 q cp qt news ⟨[], tt, 0, tp, true, [.ref D0], 0, [], o, []⟩)) (hc : o.data = .cell (some (.int 0 tp)))
    (h0 : DatIn [q0] (.ref D0) (.tuple [.str (tx []), .int 0])) (hk : ∀ p ∈ psW ⟨[], tt, 0, tp, true, [.ref D0], 0, [], o, []⟩, m₀ p.1 = some p.2)
    (turn : ∀ (c : WSt) (u : Str → Option Value) h tk, InvW x b lc cp q0 c → Fr h₀ L h (kstB (fun z => if [Str.ofString "fits"].contains z then u z else m₀ z) (psW c)) → News h₀ L h (ledW lc q0 q cp qt news c) →
      wpAny (model prog w) A (isTrue test env (eval test env)) (fun r s₂ =>
        if r = true then wpAny (model prog w) A (execs body env) (KswPost h₀ L s (ledW lc q0 q cp qt news) psW (fun _ => True) [Str.ofString "fits"] m₀ (InvW x b lc cp q0) (muW x) Q c) E s₂ else Q .next s₂) E { s with heap := h, toks := tk })
    (hE : PassesOwn (model prog w) A env E := by passes_own) :
    wpAny (model prog w) A (exec (.While test body [] pos) env) Q E s := by
  refine ksw_while (ledW lc q0 q cp qt news) psW (fun _ => True) [Str.ofString "fits"] (InvW x b lc cp q0) (muW x) ⟨[], tt, 0, tp, true, [.ref D0], 0, [], o, []⟩ F N trivial hk ?_ (fun c u h tk _ hp F₁ N₁ => turn c u h tk hp F₁ N₁) hE
  exact ⟨hc, IsCh.one b _, .cons h0 .nil, (fun _ hp => nomatch hp), (fun _ hp => nomatch hp), (fun e => by cases e)⟩
theorem fits_one {b : Bool} {rest : List Nat} {c : Nat} (h : c ∈ fitsL b rest) : fitsL b rest = [c] := by
  have hl := fits_le b rest
  match hf : fitsL b rest, hl, h with
  | [d], _, h => rw [List.mem_singleton.mp h]
theorem walk_end {m₀ m' : Str → Option Value} {x : Str} {b : Bool} {lc cp D : Addr} {q0 qt : Addr × Obj} {q news all : List (Addr × Obj)} {cell o' : Obj} {told : List Nat} {place : Nat} {tt tp tY tZ t1 t2 : Tok} {going : Bool} {items : List Value} {ep nD tk : Nat} {tl : List (Addr × Obj)} {pre : List (List Nat × Nat)} {h' : Heap} {Y : Str} {Z : Int} {c : Nat}
    (hch : IsCh b x.cps.toList (pre ++ [(told, place)])) (hdat : DatAll (q0 :: tl) items (datC (pre ++ [(told, place)]))) (ho1 : ∀ p ∈ tl, p.1 ≠ lc) (ho2 : ∀ p ∈ tl, p.1 ≠ cp)
    (hc : c ∈ fitsL b (x.cps.toList.drop place)) (hY : Y = tx (told ++ [c])) (hZ : Z = ((place + (wr b c).length : Nat) : Int))
    (F : Fr h₀ L h' m') (N : News h₀ L h' all) (hm1 : (lc, listOf (items.toArray.push (.ref D)) (ep + 1)) ∈ all) (hm2 : (cp, o') ∈ all) (hcell : o'.data = .cell (some (.int Z tZ)))
    (hmD : (D, ({ cls := .type "tuple", data := .seq [Value.str Y t1, .int Z t2].toArray nD } : Obj)) ∈ all) (hm0 : q0 ∈ all) (hmq : ∀ p ∈ q, p ∈ all) (hmt : qt ∈ all) (hmn : ∀ p ∈ tl ++ news, p ∈ all)
    (hD1 : @Ne Nat D lc) (hD2 : @Ne Nat D cp) (hg : going = true)
    (hps1 : m' (Str.ofString "told") = some (.str Y tY)) (hps2 : m' (Str.ofString "going") = some (.bool true))
    (hr : ∀ z, (∀ p ∈ psW ⟨told ++ [c], tY, place + (wr b c).length, tZ, true, items ++ [.ref D], ep + 1, (D, ({ cls := .type "tuple", data := .seq [Value.str Y t1, .int Z t2].toArray nD } : Obj)) :: tl, o', pre ++ [(told, place)]⟩, z ≠ p.1) → [Str.ofString "fits"].contains z = false → m' z = m₀ z) :
    KswEnd h₀ L s (ledW lc q0 q cp qt news) psW (fun _ => True) [Str.ofString "fits"] m₀ (InvW x b lc cp q0) (muW x) ⟨told, tt, place, tp, going, items, ep, tl, cell, pre⟩ { s with heap := h', toks := tk } := by
  subst hY hZ hg
  have h1 := fits_one hc
  have hstep : stepC b x.cps.toList (told, place) = some (told ++ [c], place + (wr b c).length) := by simp [stepC, h1]
  have hlast : (pre ++ [(told, place)])[(pre ++ [(told, place)]).length - 1]? = some (told, place) := by simp
  have hch' := hch.snoc hlast hstep
  have hinv := hch.inv pre.length (told, place) (by simp)
  have hinv' := hch'.inv (pre.length + 1) (told ++ [c], place + (wr b c).length) (by simp)
  have hw := (wr_len b c).1
  have hxl : x.cps.toList.length = x.length := by simp [Str.length]
  refine ksw_end ⟨told ++ [c], tY, place + (wr b c).length, tZ, true, items ++ [.ref D], ep + 1, (D, ({ cls := .type "tuple", data := .seq [Value.str (tx (told ++ [c])) t1, .int ((place + (wr b c).length : Nat) : Int) t2].toArray nD } : Obj)) :: tl, o', pre ++ [(told, place)]⟩ F N ?_ trivial ?_ hr ?_ ?_
  · intro p hp
    simp only [ledW] at hp
    rcases List.mem_cons.mp hp with rfl | hp
    · rw [List.push_toArray] at hm1; exact hm1
    rcases List.mem_cons.mp hp with rfl | hp
    · exact hm0
    rcases List.mem_append.mp hp with hp | hp
    · exact hmq p hp
    rcases List.mem_cons.mp hp with rfl | hp
    · exact hm2
    rcases List.mem_cons.mp hp with rfl | hp
    · exact hmt
    rcases List.mem_cons.mp hp with rfl | hp
    · exact hmD
    exact hmn p hp
  · intro p hp
    simp only [psW, List.mem_cons, List.not_mem_nil, or_false] at hp
    rcases hp with rfl | rfl
    · exact hps1
    · exact hps2
  · refine ⟨hcell, hch', ?_, ?_, ?_, fun e => by cases e⟩
    · rw [datC_append]
      refine DatAll.append (hdat.mono fun p hp => ?_) (.cons (.tuple (.tail _ (.head _)) (.cons (.str _ _) (.cons (.int _ _) .nil))) .nil)
      rcases List.mem_cons.mp hp with rfl | hp
      · exact .head _
      · exact .tail _ (.tail _ hp)
    · intro p hp
      rcases List.mem_cons.mp hp with rfl | hp
      · exact hD1
      · exact ho1 p hp
    · intro p hp
      rcases List.mem_cons.mp hp with rfl | hp
      · exact hD2
      · exact ho2 p hp
  · simp only [muW, if_true]
    have := hinv'.1
    simp only at this
    omega
theorem walk_stop {m₀ m' : Str → Option Value} {x : Str} {b : Bool} {lc cp : Addr} {q0 qt : Addr × Obj} {q news all : List (Addr × Obj)} {cell : Obj} {told : List Nat} {place : Nat} {tt tp : Tok} {going : Bool} {items : List Value} {ep tk : Nat} {tl : List (Addr × Obj)} {pre : List (List Nat × Nat)} {h' : Heap}
    (hI : InvW x b lc cp q0 ⟨told, tt, place, tp, going, items, ep, tl, cell, pre⟩) (hc : fitsL b (x.cps.toList.drop place) = [])
    (F : Fr h₀ L h' m') (N : News h₀ L h' all) (hm1 : (lc, listOf items.toArray ep) ∈ all) (hm2 : (cp, cell) ∈ all) (hm0 : q0 ∈ all) (hmq : ∀ p ∈ q, p ∈ all) (hmt : qt ∈ all) (hmn : ∀ p ∈ tl ++ news, p ∈ all) (hg : going = true)
    (hps1 : m' (Str.ofString "told") = some (.str (tx told) tt)) (hps2 : m' (Str.ofString "going") = some (.bool false))
    (hr : ∀ z, (∀ p ∈ psW ⟨told, tt, place, tp, false, items, ep, tl, cell, pre⟩, z ≠ p.1) → [Str.ofString "fits"].contains z = false → m' z = m₀ z) :
    KswEnd h₀ L s (ledW lc q0 q cp qt news) psW (fun _ => True) [Str.ofString "fits"] m₀ (InvW x b lc cp q0) (muW x) ⟨told, tt, place, tp, going, items, ep, tl, cell, pre⟩ { s with heap := h', toks := tk } := by
  subst hg
  refine ksw_end ⟨told, tt, place, tp, false, items, ep, tl, cell, pre⟩ F N ?_ trivial ?_ hr ?_ ?_
  · intro p hp
    simp only [ledW] at hp
    rcases List.mem_cons.mp hp with rfl | hp
    · exact hm1
    rcases List.mem_cons.mp hp with rfl | hp
    · exact hm0
    rcases List.mem_append.mp hp with hp | hp
    · exact hmq p hp
    rcases List.mem_cons.mp hp with rfl | hp
    · exact hm2
    rcases List.mem_cons.mp hp with rfl | hp
    · exact hmt
    exact hmn p hp
  · intro p hp
    simp only [psW, List.mem_cons, List.not_mem_nil, or_false] at hp
    rcases hp with rfl | rfl
    · exact hps1
    · exact hps2
  · exact ⟨hI.cell, hI.ch, hI.dat, hI.off1, hI.off2, fun _ => by simp [stepC, hc]⟩
  · simp [muW]
end
theorem occ_spec {b : Bool} {y : Str} {c : Nat} (hs : y.cps.toList = spec b) : (Builtin.Str.occurrences y (tx [c]) 0 y.length 1).isEmpty = true ↔ c ∉ spec b := by
  have h := StrLaws.found_one y c
  rw [hs] at h
  show (Builtin.Str.occurrences y ⟨#[c]⟩ 0 y.length 1).isEmpty = true ↔ c ∉ spec b
  cases e : (Builtin.Str.occurrences y ⟨#[c]⟩ 0 y.length 1).isEmpty with
  | true => rw [e] at h; simpa using h.symm
  | false => rw [e] at h; simpa using h.symm
theorem drop_at {l : List Nat} {i c : Nat} (h : l[i]? = some c) : l.drop i = c :: l.drop (i + 1) := by
  obtain ⟨hlt, e⟩ := List.getElem?_eq_some_iff.mp h
  rw [← e]
  exact List.drop_eq_getElem_cons hlt
theorem plain_fits {b : Bool} {l : List Nat} {i c : Nat} (h : l[i]? = some c) (hc : c ∉ spec b) : c ∈ fitsL b (l.drop i) ∧ wr b c = [c] := by
  rw [drop_at h]
  simp only [fitsL, if_neg hc]
  exact ⟨.head _, wr_plain hc⟩
theorem spec_fits {b : Bool} {l : List Nat} {i c : Nat} (h : l[i]? = some c) (hc : c ∈ spec b) : fitsL b (l.drop i) = (spec b).filter (hits b (l.drop i)) := by
  rw [drop_at h]
  simp only [fitsL, if_pos hc]
theorem hit_slice {x r : Str} {p k c : Nat} {b : Bool} (hr : r = tx (wr b c)) (hk : k = (wr b c).length) : (Txt.slice x (some (p : Int)) (some ((p : Int) + (k : Int))) == r) = hits b (x.cps.toList.drop p) c := by
  rw [slice_ss (by omega) (by omega), hr]
  have e : ((p : Int) + (k : Int)).toNat - (p : Int).toNat = k := by omega
  rw [e, Int.toNat_natCast, hk]
  unfold hits
  generalize List.take (wr b c).length (List.drop p x.cps.toList) = u
  by_cases h : u = wr b c
  · rw [h, beq_self_eq_true, beq_self_eq_true]
  · have h' : tx u ≠ tx (wr b c) := fun e => h (tx_inj e)
    rw [beq_eq_false_iff_ne.mpr h', beq_eq_false_iff_ne.mpr h]
def selF (b : Bool) (rest : List Nat) (i : Nat) : Bool := ((spec b)[i]?.map (hits b rest)).getD false
theorem selF_len (b : Bool) (rest : List Nat) : ((List.range' 0 (spec b).length).filter (selF b rest)).length = ((spec b).filter (hits b rest)).length := by
  cases b
  · show (([0, 1, 2] : List Nat).filter (selF false rest)).length = (([38, 60, 62] : List Nat).filter (hits false rest)).length
    have e0 : selF false rest 0 = hits false rest 38 := rfl
    have e1 : selF false rest 1 = hits false rest 60 := rfl
    have e2 : selF false rest 2 = hits false rest 62 := rfl
    simp only [List.filter_cons, List.filter_nil, e0, e1, e2]
    cases hits false rest 38 <;> cases hits false rest 60 <;> cases hits false rest 62 <;> rfl
  · show (([0, 1, 2, 3, 4] : List Nat).filter (selF true rest)).length = (([38, 60, 62, 34, 39] : List Nat).filter (hits true rest)).length
    have e0 : selF true rest 0 = hits true rest 38 := rfl
    have e1 : selF true rest 1 = hits true rest 60 := rfl
    have e2 : selF true rest 2 = hits true rest 62 := rfl
    have e3 : selF true rest 3 = hits true rest 34 := rfl
    have e4 : selF true rest 4 = hits true rest 39 := rfl
    simp only [List.filter_cons, List.filter_nil, e0, e1, e2, e3, e4]
    cases hits true rest 38 <;> cases hits true rest 60 <;> cases hits true rest 62 <;> cases hits true rest 34 <;> cases hits true rest 39 <;> rfl
/-- what the comprehension picked: nothing, or the one reference that fits -/
theorem picked {P : Nat → Value → Prop} {b : Bool} {l : List Nat} {i c : Nat} {zs : List Value} (h : l[i]? = some c) (hc : c ∈ spec b) (hz : Sel P (selF b (l.drop i)) (spec b).length 0 zs) :
    (zs = [] ∧ fitsL b (l.drop i) = []) ∨ ∃ j v d, j < (spec b).length ∧ P j v ∧ zs = [v] ∧ (spec b)[j]? = some d ∧ d ∈ fitsL b (l.drop i) := by
  have hff := spec_fits h hc
  have hl := sel_len hz
  rw [selF_len, ← hff] at hl
  have h1 := fits_le b (l.drop i)
  rcases sel_cases hz with ⟨e, q⟩ | ⟨j, v, r, _, h2, h3, h4, h5⟩
  · refine .inl ⟨e, ?_⟩
    rw [e] at hl
    exact List.length_eq_zero_iff.mp hl.symm
  · refine .inr ⟨j, v, (spec b)[j]'(by omega), by omega, h4, ?_, List.getElem?_eq_getElem (by omega), ?_⟩
    · rw [h5] at hl ⊢
      rw [List.length_cons] at hl
      rw [List.length_eq_zero_iff.mp (show r.length = 0 by omega)]
    · rw [hff]
      refine List.mem_filter.mpr ⟨List.getElem_mem _, ?_⟩
      unfold selF at h3
      rw [List.getElem?_eq_getElem (show j < (spec b).length by omega)] at h3
      exact h3
theorem walk_done {h₀ : Heap} {L : Addr} {m : Str → Option Value} {s : Shared} {Q : Value → Shared → Prop} {x : Str} {b : Bool} {lc : Addr} {q0 : Addr × Obj} {news all tl : List (Addr × Obj)} {told : List Nat} {place ep tk : Nat} {items : List Value} {pre : List (List Nat × Nat)} {h' : Heap}
    (hret : ∀ (l : Addr) led acc h' tk', Fr h₀ L h' m → News h₀ L h' (led ++ news) → DatIn led (.ref l) (.list (datC acc)) → IsCh b x.cps.toList acc → (∀ p : List Nat × Nat, acc[acc.length - 1]? = some p → stepC b x.cps.toList p = none) → Q (.ref l) { s with heap := h', toks := tk' })
    (hch : IsCh b x.cps.toList (pre ++ [(told, place)])) (hdat : DatAll (q0 :: tl) items (datC (pre ++ [(told, place)]))) (hend : stepC b x.cps.toList (told, place) = none)
    (F : Fr h₀ L h' m) (N : News h₀ L h' all) (hm1 : (lc, listOf items.toArray ep) ∈ all) (hm0 : q0 ∈ all) (hmn : ∀ p ∈ tl ++ news, p ∈ all) : Q (.ref lc) { s with heap := h', toks := tk } := by
  refine hret lc ((lc, listOf items.toArray ep) :: q0 :: tl) (pre ++ [(told, place)]) h' tk F ?_ (.list (.head _) (hdat.mono fun p hp => .tail _ hp)) hch ?_
  · intro p hp
    refine N p ?_
    rcases List.mem_append.mp hp with hp | hp
    · rcases List.mem_cons.mp hp with rfl | hp
      · exact hm1
      rcases List.mem_cons.mp hp with rfl | hp
      · exact hm0
      · exact hmn p (List.mem_append.mpr (.inl hp))
    · exact hmn p (List.mem_append.mpr (.inr hp))
  · intro p hp
    simp at hp
    rw [← hp]; exact hend
theorem step_past {b : Bool} {t : List Nat} {told : List Nat} {place : Nat} (h : t.length ≤ place) : stepC b t (told, place) = none := by
  simp [stepC, List.drop_eq_nil_of_le h, fitsL]
end
section
open PySem PySem.W PyProof.Rows PySem.Calls PySem.Spec
/-- the trying's outer loop -/
structure TSt where
  k : Nat
  tk : Tok
  items : List Value
  ep : Nat
  tl : List (Addr × Obj)
  acc : List (List Nat × Nat)
def ledT (lf : Addr) (q0 : Addr × Obj) (news : List (Addr × Obj)) (c : TSt) : List (Addr × Obj) := (lf, listOf c.items.toArray c.ep) :: q0 :: (c.tl ++ news)
structure InvT (x : Str) (b : Bool) (lf : Addr) (q0 : Addr × Obj) (c : TSt) : Prop where
  ch : IsCh b x.cps.toList c.acc
  dat : DatAll (q0 :: c.tl) c.items (datC c.acc)
  off : ∀ p ∈ c.tl, p.1 ≠ lf
  stat : c.k + 1 = c.acc.length ∨ (c.k = c.acc.length ∧ ∀ p : List Nat × Nat, c.acc[c.acc.length - 1]? = some p → stepC b x.cps.toList p = none)
  room : c.k ≤ x.length + 1
def psT (c : TSt) : List (Str × Value) := [(Str.ofString "at", .int (c.k : Int) c.tk)]
def storedT : List Str := [Str.ofString "told", Str.ofString "length", Str.ofString "ahead", Str.ofString "sign", Str.ofString "writing"]
section
variable {prog : Program} {w : World} {A : Around} {E : Value → Shared → Prop} {Q : Flow → Shared → Prop} {s : Shared} {env : Env} {h₀ : Heap} {L : Addr}
theorem tried_while {test : Expr} {body : List Stmt} {pos : Pos} {m₀ : Str → Option Value} {x : Str} {b : Bool} {lf D0 : Addr} {q0 : Addr × Obj} {news : List (Addr × Obj)} {tk : Tok}
    (F : Fr h₀ L s.heap m₀) (N : News h₀ L s.heap (ledT lf q0 news ⟨0, tk, [.ref D0], 0, [], [([], 0)]⟩))
    (h0 : DatIn [q0] (.ref D0) (.tuple [.str (tx []), .int 0])) (hk : ∀ p ∈ psT ⟨0, tk, [.ref D0], 0, [], [([], 0)]⟩, m₀ p.1 = some p.2)
    (turn : ∀ (c : TSt) (u : Str → Option Value) h tk, InvT x b lf q0 c → Fr h₀ L h (kstB (fun z => if storedT.contains z then u z else m₀ z) (psT c)) → News h₀ L h (ledT lf q0 news c) →
      wpAny (model prog w) A (isTrue test env (eval test env)) (fun r s₂ =>
        if r = true then wpAny (model prog w) A (execs body env) (KswPost h₀ L s (ledT lf q0 news) psT (fun _ => True) storedT m₀ (InvT x b lf q0) (fun c => x.length + 1 - c.k) Q c) E s₂ else Q .next s₂) E { s with heap := h, toks := tk })
    (hE : PassesOwn (model prog w) A env E := by passes_own) :
    wpAny (model prog w) A (exec (.While test body [] pos) env) Q E s := by
  refine ksw_while (ledT lf q0 news) psT (fun _ => True) storedT (InvT x b lf q0) (fun c => x.length + 1 - c.k) ⟨0, tk, [.ref D0], 0, [], [([], 0)]⟩ F N trivial hk ?_ (fun c u h tk _ hp F₁ N₁ => turn c u h tk hp F₁ N₁) hE
  exact ⟨IsCh.one b _, .cons h0 .nil, (fun _ hp => nomatch hp), .inl rfl, Nat.zero_le _⟩
end
/-- the trying's inner loop -/
structure SSt where
  items : List Value
  ep : Nat
  tl : List (Addr × Obj)
  acc : List (List Nat × Nat)
def ledS (lf : Addr) (qa q0 : Addr × Obj) (news : List (Addr × Obj)) (c : SSt) : List (Addr × Obj) := qa :: (lf, listOf c.items.toArray c.ep) :: q0 :: (c.tl ++ news)
def grow (b : Bool) (rest told : List Nat) (n : Nat) (signs : List Nat) : List (List Nat × Nat) := (signs.filter (hits b rest)).map fun k => (told ++ [k], n + (wr b k).length)
structure InvS (b : Bool) (lf : Addr) (q0 : Addr × Obj) (rest told : List Nat) (n : Nat) (acc₀ : List (List Nat × Nat)) (signs : List Nat) (i : Nat) (c : SSt) : Prop where
  acc : c.acc = acc₀ ++ grow b rest told n (signs.take i)
  dat : DatAll (q0 :: c.tl) c.items (datC c.acc)
  off : ∀ p ∈ c.tl, p.1 ≠ lf
theorem grow_snoc {b : Bool} {rest told : List Nat} {n : Nat} {signs : List Nat} {i k : Nat} (h : signs[i]? = some k) : grow b rest told n (signs.take (i + 1)) = grow b rest told n (signs.take i) ++ (if hits b rest k = true then [(told ++ [k], n + (wr b k).length)] else []) := by
  simp only [grow, List.take_add_one, h, Option.toList_some, List.filter_append, List.map_append, List.filter_cons, List.filter_nil]
  split <;> simp
theorem grow_le (b : Bool) (rest told : List Nat) (n : Nat) (signs : List Nat) : (grow b rest told n signs).length ≤ signs.length := by
  simp only [grow, List.length_map]
  exact List.length_filter_le _ _
section
variable {prog : Program} {w : World} {A : Around} {E : Value → Shared → Prop} {s : Shared} {env : Env} {h₀ : Heap} {x : Str} {body : List Stmt} {Q : Flow → Shared → Prop}
theorem tried_for {b : Bool} {lf : Addr} {qa q0 : Addr × Obj} {news tl : List (Addr × Obj)} {rest told signs : List Nat} {n ep : Nat} {acc₀ : List (List Nat × Nat)} {items : List Value} {Y : Str} {tt : Tok} {m₀ : Str → Option Value}
    (hY : Y.cps.toList = signs) (hh : A.handled = none) (F : Fr h₀ env.locals s.heap m₀) (N : News h₀ env.locals s.heap (ledS lf qa q0 news ⟨items, ep, tl, acc₀⟩)) (hdat : DatAll (q0 :: tl) items (datC acc₀)) (hoff : ∀ p ∈ tl, p.1 ≠ lf)
    (turn : ∀ i k t (c : SSt) (u : Str → Option Value) h tk own, signs[i]? = some k → OwnOff own ((ledS lf qa q0 news c).map (·.1)) → InvS b lf q0 rest told n acc₀ signs i c →
      Fr h₀ env.locals h (fun y => if y = x then some (.str (tx [k]) t) else kstB (fun z => if [Str.ofString "writing"].contains z then u z else m₀ z) [] y) → News h₀ env.locals h (ledS lf qa q0 news c ++ own) →
      wpAny (model prog w) A (execs body env) (InvPostG h₀ env.locals (LS (ledS lf qa q0 news) (fun _ => []) x [Str.ofString "writing"] m₀ (InvS b lf q0 rest told n acc₀ signs) (i + 1)) own { s with heap := h, toks := tk } Q) E { s with heap := h, toks := tk })
    (done : ∀ (c : SSt) (u : Str → Option Value) h tk, InvS b lf q0 rest told n acc₀ signs signs.length c → Fr h₀ env.locals h (fun y => if y = x then u y else kstB (fun z => if [Str.ofString "writing"].contains z then u z else m₀ z) [] y) → News h₀ env.locals h (ledS lf qa q0 news c) → Q .next { s with heap := h, toks := tk }) :
    wpAny (model prog w) A (pyIter (.str Y tt)) (fun it s₂ => LoopAtV prog w A h₀ env x body Q E it s₂) E s := by
  have hsz : Y.cps.size = signs.length := by rw [← hY]; simp
  refine for_str (ledS lf qa q0 news) (fun _ => []) [Str.ofString "writing"] (InvS b lf q0 rest told n acc₀ signs) ⟨items, ep, tl, acc₀⟩ hh F N (fun _ hp => nomatch hp) ⟨by simp [grow], hdat, hoff⟩ ?_ ?_
  · intro i k t c u h tk own hi hoff' hI F₁ N₁
    exact turn i k t c u h tk own (by rw [← hY]; simpa using hi) hoff' hI F₁ N₁
  · intro c u h tk hI F₁ N₁
    rw [hsz] at hI
    exact done c u h tk hI F₁ N₁
end
theorem datC_get {acc : List (List Nat × Nat)} {led : List (Addr × Obj)} {items : List Value} {i : Nat} {p : List Nat × Nat} (h : DatAll led items (datC acc)) (hi : acc[i]? = some p) :
    ∃ a t u n, items[i]? = some (.ref a) ∧ (a, ({ cls := .type "tuple", data := .seq [Value.str (tx p.1) t, .int (p.2 : Int) u].toArray n } : Obj)) ∈ led := by
  obtain ⟨hlt, e⟩ := List.getElem?_eq_some_iff.mp hi
  obtain ⟨v, hv, hd⟩ := h.get (k := i) (by simpa [datC] using hlt)
  have e2 : (datC acc)[i]'(by simpa [datC] using hlt) = Dat.tuple [.str (tx p.1), .int (p.2 : Int)] := by simp [datC, e]
  rw [e2] at hd
  cases hd with
  | tuple hm hr =>
    cases hr with
    | cons h1 hr =>
      cases hr with
      | cons h2 hr =>
        cases hr
        cases h1
        cases h2
        exact ⟨_, _, _, _, hv, hm⟩
theorem try_hits {x W : Str} {b : Bool} {told : List Nat} {n k : Nat} (hW : W = tx (wrs b told ++ wr b k)) (ht : wrs b told = x.cps.toList.take n) (hn : n ≤ x.length) :
    (Txt.slice x none (some (W.length : Int)) == W) = hits b (x.cps.toList.drop n) k ∧ (W.length : Int) = ((n + (wr b k).length : Nat) : Int) := by
  have hl : (wrs b told).length = n := by
    have : x.cps.toList.length = x.length := by simp [Str.length]
    rw [ht, List.length_take]; omega
  have hlen : W.length = n + (wr b k).length := by rw [hW, tx_length, List.length_append, hl]
  refine ⟨?_, by rw [hlen]⟩
  rw [slice_ns (by omega), Int.toNat_natCast, hlen, hW, ht]
  unfold hits
  have e : x.cps.toList.take (n + (wr b k).length) = x.cps.toList.take n ++ (x.cps.toList.drop n).take (wr b k).length := List.take_add
  rw [e]
  by_cases h : (x.cps.toList.drop n).take (wr b k).length = wr b k
  · rw [h, beq_self_eq_true, beq_self_eq_true]
  · have h' : tx (x.cps.toList.take n ++ (x.cps.toList.drop n).take (wr b k).length) ≠ tx (x.cps.toList.take n ++ wr b k) := fun e => h (List.append_cancel_left (tx_inj e))
    rw [beq_eq_false_iff_ne.mpr h', beq_eq_false_iff_ne.mpr h]
theorem ahead_in {x : Str} {n : Nat} {y : Str} (hy : y = Str.ofString "&<>\"'") :
    ((Builtin.Str.occurrences y (Txt.slice x (some (n : Int)) (some ((n : Int) + 1))) 0 y.length 1).isEmpty = false → ahead (x.cps.toList.drop n) = []) ∧
    ((Builtin.Str.occurrences y (Txt.slice x (some (n : Int)) (some ((n : Int) + 1))) 0 y.length 1).isEmpty = true → Txt.slice x (some (n : Int)) (some ((n : Int) + 1)) = tx (ahead (x.cps.toList.drop n))) := by
  subst hy
  have hs : Txt.slice x (some (n : Int)) (some ((n : Int) + 1)) = tx ((x.cps.toList.drop n).take 1) := by
    rw [slice_ss (by omega) (by omega)]
    congr 2
    omega
  rw [hs]
  cases hr : x.cps.toList.drop n with
  | nil =>
    refine ⟨fun _ => rfl, fun h => ?_⟩
    rfl
  | cons c r =>
    have e : (c :: r).take 1 = [c] := rfl
    rw [e]
    have hsp : (Str.ofString "&<>\"'").cps.toList = spec true := by decide +kernel
    have ho := occ_spec (b := true) (c := c) hsp
    refine ⟨fun h => ?_, fun h => ?_⟩
    · have : c ∈ five := by
        refine Classical.byContradiction fun hn => ?_
        rw [ho.mpr hn] at h; cases h
      simp [ahead, this]
    · have hc := ho.mp h
      have : c ∉ five := hc
      simp [ahead, this]
theorem IsCh.len {b : Bool} {t : List Nat} {acc : List (List Nat × Nat)} (h : IsCh b t acc) : 0 < acc.length ∧ acc.length ≤ t.length + 1 := by
  have la : 0 < acc.length := (List.getElem?_eq_some_iff.mp h.zero).1
  have hp : acc[acc.length - 1]? = some (acc[acc.length - 1]'(by omega)) := List.getElem?_eq_getElem (by omega)
  have := h.inv _ _ hp
  omega
theorem mem_app3 {a b c : List (Addr × Obj)} {p : Addr × Obj} (h : p ∈ c) : p ∈ a ++ (b ++ c) := List.mem_append.mpr (.inr (List.mem_append.mpr (.inr h)))
theorem tried_skip {h₀ : Heap} {L lf : Addr} {b : Bool} {qa q0 : Addr × Obj} {news tl own all : List (Addr × Obj)} {rest told signs : List Nat} {n ep i k tk : Nat} {acc acc₀ : List (List Nat × Nat)} {items : List Value} {m₀ m' : Str → Option Value} {x : Str} {s₁ : Shared} {h' : Heap}
    (hI : InvS b lf q0 rest told n acc₀ signs i ⟨items, ep, tl, acc⟩) (hsg : signs[i]? = some k) (hh : hits b rest k = false) (hoff : OwnOff own ((ledS lf qa q0 news ⟨items, ep, tl, acc⟩).map (·.1)))
    (F : Fr h₀ L h' m') (N : News h₀ L h' all) (hma : qa ∈ all) (hm1 : (lf, listOf items.toArray ep) ∈ all) (hm0 : q0 ∈ all) (hmn : ∀ p ∈ tl ++ (news ++ own), p ∈ all)
    (hr : ∀ z, z ≠ x → (∀ p ∈ ([] : List (Str × Value)), z ≠ p.1) → [Str.ofString "writing"].contains z = false → m' z = m₀ z) :
    InvEndG h₀ L (LS (ledS lf qa q0 news) (fun _ => []) x [Str.ofString "writing"] m₀ (InvS b lf q0 rest told n acc₀ signs) (i + 1)) own s₁ { s₁ with heap := h', toks := tk } := by
  refine ls_end ⟨items, ep, tl, acc⟩ F N ?_ (fun p hp => hmn p (mem_app3 hp)) hoff (fun _ hp => nomatch hp) hr ⟨?_, hI.dat, hI.off⟩
  · intro p hp
    rcases List.mem_cons.mp hp with rfl | hp
    · exact hma
    rcases List.mem_cons.mp hp with rfl | hp
    · exact hm1
    rcases List.mem_cons.mp hp with rfl | hp
    · exact hm0
    · refine hmn p ?_
      rw [← List.append_assoc]
      exact List.mem_append.mpr (.inl hp)
  · rw [grow_snoc hsg, hh]
    simpa using hI.acc
theorem tried_push {h₀ : Heap} {L lf D : Addr} {b : Bool} {qa q0 : Addr × Obj} {news tl own all : List (Addr × Obj)} {rest told signs : List Nat} {n ep i k tk nD : Nat} {t1 t2 : Tok} {acc acc₀ : List (List Nat × Nat)} {items : List Value} {m₀ m' : Str → Option Value} {x Y : Str} {Z : Int} {s₁ : Shared} {h' : Heap}
    (hI : InvS b lf q0 rest told n acc₀ signs i ⟨items, ep, tl, acc⟩) (hsg : signs[i]? = some k) (hh : hits b rest k = true) (hoff : OwnOff own ((ledS lf qa q0 news ⟨items, ep, tl, acc⟩).map (·.1)))
    (hY : Y = tx (told ++ [k])) (hZ : Z = ((n + (wr b k).length : Nat) : Int))
    (F : Fr h₀ L h' m') (N : News h₀ L h' all) (hmD : (D, ({ cls := .type "tuple", data := .seq [Value.str Y t1, .int Z t2].toArray nD } : Obj)) ∈ all) (hma : qa ∈ all) (hm1 : (lf, listOf (items.toArray.push (.ref D)) (ep + 1)) ∈ all) (hm0 : q0 ∈ all) (hmn : ∀ p ∈ tl ++ (news ++ own), p ∈ all)
    (hD1 : @Ne Nat D lf) (hD2 : ∀ p ∈ own, p.1 ≠ D)
    (hr : ∀ z, z ≠ x → (∀ p ∈ ([] : List (Str × Value)), z ≠ p.1) → [Str.ofString "writing"].contains z = false → m' z = m₀ z) :
    InvEndG h₀ L (LS (ledS lf qa q0 news) (fun _ => []) x [Str.ofString "writing"] m₀ (InvS b lf q0 rest told n acc₀ signs) (i + 1)) own s₁ { s₁ with heap := h', toks := tk } := by
  subst hY hZ
  refine ls_end ⟨items ++ [.ref D], ep + 1, (D, ({ cls := .type "tuple", data := .seq [Value.str (tx (told ++ [k])) t1, .int ((n + (wr b k).length : Nat) : Int) t2].toArray nD } : Obj)) :: tl, acc ++ [(told ++ [k], n + (wr b k).length)]⟩ F N ?_ (fun p hp => hmn p (mem_app3 hp)) ?_ (fun _ hp => nomatch hp) hr ⟨?_, ?_, ?_⟩
  · intro p hp
    rcases List.mem_cons.mp hp with rfl | hp
    · exact hma
    rcases List.mem_cons.mp hp with rfl | hp
    · rw [List.push_toArray] at hm1; exact hm1
    rcases List.mem_cons.mp hp with rfl | hp
    · exact hm0
    rcases List.mem_cons.mp hp with rfl | hp
    · exact hmD
    · refine hmn p ?_
      rw [← List.append_assoc]
      exact List.mem_append.mpr (.inl hp)
  · intro p hp c hc
    simp only [ledS, List.map_cons, List.cons_append, List.mem_cons] at hc
    have h0 := hoff p hp c
    simp only [ledS, List.map_cons, List.mem_cons] at h0
    rcases hc with rfl | rfl | rfl | rfl | hc
    · exact h0 (.inl rfl)
    · exact h0 (.inr (.inl rfl))
    · exact h0 (.inr (.inr (.inl rfl)))
    · exact hD2 p hp
    · exact h0 (.inr (.inr (.inr hc)))
  · rw [grow_snoc hsg, if_pos hh, ← List.append_assoc]
    have := hI.acc
    dsimp only at this
    rw [this]
  · rw [datC_append]
    refine DatAll.append (hI.dat.mono fun p hp => ?_) (.cons (.tuple (.tail _ (.head _)) (.cons (.str _ _) (.cons (.int _ _) .nil))) .nil)
    rcases List.mem_cons.mp hp with rfl | hp
    · exact .head _
    · exact .tail _ (.tail _ hp)
  · intro p hp
    rcases List.mem_cons.mp hp with rfl | hp
    · exact hD1
    · exact hI.off p hp
/-- what one round of trying adds -/
theorem grow_step {b : Bool} {t told : List Nat} {n : Nat} : grow b (t.drop n) told n (five ++ ahead (t.drop n)) = (stepC b t (told, n)).toList := by
  unfold grow stepC
  rw [tried_eq]
  have := fits_le b (t.drop n)
  cases h : fitsL b (t.drop n) with
  | nil => rfl
  | cons c r =>
    rw [h] at this
    have hr : r = [] := List.length_eq_zero_iff.mp (by rw [List.length_cons] at this; omega)
    subst hr
    rfl
theorem tried_round {h₀ : Heap} {L lf : Addr} {b : Bool} {q0 : Addr × Obj} {news tl tl₀ all : List (Addr × Obj)} {told : List Nat} {n ep ep₀ k tk : Nat} {tk₀ tk₁ : Tok} {acc acc₀ : List (List Nat × Nat)} {items items₀ : List Value} {m₀ m' : Str → Option Value} {x : Str} {s : Shared} {h' : Heap} {Z : Int}
    (hch : IsCh b x.cps.toList acc₀) (hacc : acc₀[k]? = some (told, n)) (hk : k + 1 = acc₀.length)
    (hI : InvS b lf q0 (x.cps.toList.drop n) told n acc₀ (five ++ ahead (x.cps.toList.drop n)) (five ++ ahead (x.cps.toList.drop n)).length ⟨items, ep, tl, acc⟩) (hZ : Z = ((k + 1 : Nat) : Int))
    (F : Fr h₀ L h' m') (N : News h₀ L h' all) (hm1 : (lf, listOf items.toArray ep) ∈ all) (hm0 : q0 ∈ all) (hmn : ∀ p ∈ tl ++ news, p ∈ all)
    (hps : m' (Str.ofString "at") = some (.int Z tk₁))
    (hr : ∀ z, (∀ p ∈ psT ⟨k + 1, tk₁, items, ep, tl, acc⟩, z ≠ p.1) → storedT.contains z = false → m' z = m₀ z) :
    KswEnd h₀ L s (ledT lf q0 news) psT (fun _ => True) storedT m₀ (InvT x b lf q0) (fun c => x.length + 1 - c.k) ⟨k, tk₀, items₀, ep₀, tl₀, acc₀⟩ { s with heap := h', toks := tk } := by
  subst hZ
  have hxl : x.cps.toList.length = x.length := by simp [Str.length]
  have hlen := hch.len
  have hlast : acc₀[acc₀.length - 1]? = some (told, n) := by rw [← hk]; exact hacc
  have e := hI.acc
  dsimp only at e
  rw [List.take_length, grow_step] at e
  refine ksw_end ⟨k + 1, tk₁, items, ep, tl, acc⟩ F N ?_ trivial ?_ hr ?_ ?_
  · intro p hp
    rcases List.mem_cons.mp hp with rfl | hp
    · exact hm1
    rcases List.mem_cons.mp hp with rfl | hp
    · exact hm0
    · exact hmn p hp
  · intro p hp
    simp only [psT, List.mem_cons, List.not_mem_nil, or_false] at hp
    rw [hp]; exact hps
  · cases hs : stepC b x.cps.toList (told, n) with
    | none =>
      rw [hs] at e
      simp only [Option.toList_none, List.append_nil] at e
      subst e
      refine ⟨hch, hI.dat, hI.off, .inr ⟨hk, fun p hp => ?_⟩, by dsimp only; omega⟩
      dsimp only at hp
      rw [hlast] at hp
      cases hp
      exact hs
    | some q =>
      rw [hs] at e
      simp only [Option.toList_some] at e
      subst e
      exact ⟨hch.snoc hlast hs, hI.dat, hI.off, .inl (by simp; omega), by dsimp only; omega⟩
  · dsimp only
    omega
theorem ahead_len : ∀ l : List Nat, (ahead l).length ≤ 1
  | [] => Nat.zero_le _
  | c :: r => by
    by_cases h : c ∈ five
    · simp only [ahead, if_pos h]; exact Nat.zero_le _
    · simp only [ahead, if_neg h]; exact Nat.le_refl _
theorem its_len {b : Bool} {lf : Addr} {q0 : Addr × Obj} {rest told : List Nat} {n i ep : Nat} {acc₀ acc : List (List Nat × Nat)} {items : List Value} {tl : List (Addr × Obj)} (h : InvS b lf q0 rest told n acc₀ (five ++ ahead rest) i ⟨items, ep, tl, acc⟩) : items.length ≤ acc₀.length + 6 := by
  have h1 := h.dat.length
  have h2 := h.acc
  have h3 := grow_le b rest told n ((five ++ ahead rest).take i)
  have h4 := ahead_len rest
  dsimp only at h1 h2
  rw [h2] at h1
  simp only [datC, List.length_map, List.length_append, List.length_take] at h1 h3
  have h5 : five.length = 5 := rfl
  omega
theorem esc_sign (b : Bool) (told : List Nat) (k : Nat) : escT b (tx told ++ tx [k]) = tx (wrs b told ++ wr b k) := by
  rw [tx_append, escT_tx, wrs_append]
  simp [wrs]
end
section
open PySem PySem.W PyProof.Rows PySem.Calls PySem.Spec PySem.SeqAt
section
variable {prog : Program} {w : World} {A : Around} {E : Value → Shared → Prop} {s : Shared} {h₀ : Heap} {L : Addr} {news : List (Addr × Obj)}
theorem eq_link {a a' : Addr} {n n' : Nat} {x : Str} {i : Int} {t t' u u' : Tok} (N : News h₀ L s.heap news)
    (h1 : (a, ({ cls := .type "tuple", data := .seq [Value.str x t, .int i u].toArray n } : Obj)) ∈ news) (h2 : (a', ({ cls := .type "tuple", data := .seq [Value.str x t', .int i u'].toArray n' } : Obj)) ∈ news) (hu : A.units + 1 < cLine) :
    EqAt A s (.ref a) (.ref a') true := by
  by_cases e : a = a'
  · subst e; exact EqAt.same _
  · refine EqAt.of_refs e ?_
    have q := RcAt.tuples (A := A) (e := fun _ => true) ⟨_, (N _ h1).1, rfl, _, rfl⟩ ⟨_, (N _ h2).1, rfl, _, rfl⟩ (by omega) ?_
    · exact q
    · intro j j1 j2
      have hj : j = 0 ∨ j = 1 := by simp at j1; omega
      rcases hj with rfl | rfl
      · have := (eqGives_str x x t t').at A.in1 s
        rw [beq_self_eq_true] at this
        exact this
      · have := (MeetsSeq.EqGives.int i i u u').at A.in1 s
        rw [beq_self_eq_true] at this
        exact this
theorem ne_chains {l l' : Addr} {acc : List (List Nat × Nat)} {Q : Value → Shared → Prop} (N : News h₀ L s.heap news) (d1 : DatIn news (.ref l) (.list (datC acc))) (d2 : DatIn news (.ref l') (.list (datC acc))) (hu : A.units + 2 < cLine) (h : Q (.bool false) s) :
    wpAny (model prog w) A (compareOp .NotEq (.ref l) (.ref l')) Q E s := by
  cases d1 with
  | list m1 r1 =>
    cases d2 with
    | list m2 r2 =>
      rename_i vs n vs' n'
      have l1 := r1.length
      have l2 := r2.length
      have q := RcNeAt.lists (A := A) (s := s) (e := fun _ => true) ⟨_, (N _ m1).1, rfl, _, rfl⟩ ⟨_, (N _ m2).1, rfl, _, rfl⟩ (by simp; omega) (by omega) ?_
      · have e : (!(List.range vs.toArray.size).all fun _ => true) = false := by simp
        rw [e] at q
        exact q prog w E Q h
      · intro j j1 j2
        have hj : j < acc.length := by simp [datC] at l1 j1; omega
        obtain ⟨a1, t1, u1, n1, e1, k1⟩ := datC_get (i := j) (p := acc[j]) r1 (List.getElem?_eq_getElem hj)
        obtain ⟨a2, t2, u2, n2, e2, k2⟩ := datC_get (i := j) (p := acc[j]) r2 (List.getElem?_eq_getElem hj)
        have f1 : vs.toArray[j] = .ref a1 := by have := (List.getElem?_eq_some_iff.mp e1).2; simpa using this
        have f2 : vs'.toArray[j] = .ref a2 := by have := (List.getElem?_eq_some_iff.mp e2).2; simpa using this
        rw [f1, f2]
        exact eq_link N k1 k2 (by show A.units + 1 + 1 < cLine; omega)
/-- a chain's last link, as the list's last item -/
theorem last_link {l : Addr} {acc : List (List Nat × Nat)} {p : List Nat × Nat} (d : DatIn news (.ref l) (.list (datC acc))) (hp : acc[acc.length - 1]? = some p) :
    ∃ (vs : List Value) (ep : Nat) (a : Addr) (t u : Tok) (n : Nat), (l, listOf vs.toArray ep) ∈ news ∧ vs.length = acc.length ∧ vs[acc.length - 1]? = some (.ref a) ∧ (a, ({ cls := .type "tuple", data := .seq [Value.str (tx p.1) t, .int (p.2 : Int) u].toArray n } : Obj)) ∈ news := by
  cases d with
  | list m r =>
    obtain ⟨a, t, u, n, e, k⟩ := datC_get r hp
    have := r.length
    exact ⟨_, _, a, t, u, n, m, by simpa [datC] using this, e, k⟩
theorem list_last {a : Addr} {vs : List Value} {ep : Nat} {u : Tok} {v : Value} {value slice : Expr} {Q : Value → Shared → Prop} (N : News h₀ L s.heap news) (hm : (a, listOf vs.toArray ep) ∈ news) (hv : vs[vs.length - 1]? = some v) (h : Q v s)
    (hs : subscripted slice false (.ref a) (.int (-1) u) = operate [.ref a, .int (-1) u] (getItem (.ref a) (.int (-1) u)) := by with_unfolding_all rfl) :
    wpAny (model prog w) A (subscriptTail value slice (.ref a) (.int (-1) u)) Q E s := by
  have hL : s.heap.IsList a vs.toArray := ⟨_, (N _ hm).1, rfl, ep, rfl⟩
  have hlt := (List.getElem?_eq_some_iff.mp hv).1
  refine tail_any hL.typeIs slot_list_getitem.lookup (wpAny_getItem_list_neg hL (by decide) (by simp; omega) (by decide) ?_ h) hs
  have e : ((-1 : Int) + (vs.toArray.size : Int)).toNat = vs.length - 1 := by simp; omega
  rw [e]
  simpa using hv
end
structure HSt where
  t : List Nat
  tk : Tok
def psH (c : HSt) : List (Str × Value) := [(Str.ofString "text", .str (tx c.t) c.tk)]
def storedH : List Str := [Str.ofString "chain", Str.ofString "told", Str.ofString "length", Str.ofString "cut"]
section
variable {prog : Program} {w : World} {A : Around} {E : Value → Shared → Prop} {Q : Flow → Shared → Prop} {s : Shared} {env : Env} {h₀ : Heap} {L : Addr}
theorem holds_while {test : Expr} {body : List Stmt} {pos : Pos} {m₀ : Str → Option Value} {l : List Nat} {tk : Tok} {news : List (Addr × Obj)}
    (F : Fr h₀ L s.heap m₀) (N : News h₀ L s.heap news) (hk : ∀ p ∈ psH ⟨l, tk⟩, m₀ p.1 = some p.2) (hl : l.length ≤ 40)
    (turn : ∀ (c : HSt) (u : Str → Option Value) h tk, c.t.length ≤ 40 → Fr h₀ L h (kstB (fun z => if storedH.contains z then u z else m₀ z) (psH c)) → News h₀ L h news →
      wpAny (model prog w) A (isTrue test env (eval test env)) (fun r s₂ =>
        if r = true then wpAny (model prog w) A (execs body env) (KswPost h₀ L s (fun _ => news) psH (fun _ => True) storedH m₀ (fun c => c.t.length ≤ 40) (fun c => c.t.length) Q c) E s₂ else Q .next s₂) E { s with heap := h, toks := tk })
    (hE : PassesOwn (model prog w) A env E := by passes_own) :
    wpAny (model prog w) A (exec (.While test body [] pos) env) Q E s :=
  ksw_while (fun _ => news) psH (fun _ => True) storedH (fun c => c.t.length ≤ 40) (fun c => c.t.length) ⟨l, tk⟩ F N trivial hk hl (fun c u h tk _ hp F₁ N₁ => turn c u h tk hp F₁ N₁) hE
theorem holds_round {m₀ m' : Str → Option Value} {l : List Nat} {n tk : Nat} {t t' : Tok} {news all : List (Addr × Obj)} {h' : Heap} {Y : Str}
    (hl : l.length ≤ 40) (hne : l ≠ []) (hY : Y = tx (l.drop (n + 1))) (F : Fr h₀ L h' m') (N : News h₀ L h' all) (hmn : ∀ p ∈ news, p ∈ all) (hps : m' (Str.ofString "text") = some (.str Y t'))
    (hr : ∀ z, (∀ p ∈ psH ⟨l.drop (n + 1), t'⟩, z ≠ p.1) → storedH.contains z = false → m' z = m₀ z) :
    KswEnd h₀ L s (fun _ => news) psH (fun _ => True) storedH m₀ (fun c => c.t.length ≤ 40) (fun c => c.t.length) ⟨l, t⟩ { s with heap := h', toks := tk } := by
  subst hY
  have h0 : 0 < l.length := List.length_pos_iff.mpr hne
  refine ksw_end ⟨l.drop (n + 1), t'⟩ F N hmn trivial ?_ hr ?_ ?_
  · intro p hp
    simp only [psH, List.mem_cons, List.not_mem_nil, or_false] at hp
    rw [hp]; exact hps
  · simp only [List.length_drop]; omega
  · simp only [List.length_drop]; omega
end
section
variable {prog : Program} {w : World} {A : Around} {E : Value → Shared → Prop} {s : Shared} {env : Env} {h₀ : Heap} {x : Str} {body : List Stmt} {Q : Flow → Shared → Prop}
theorem cut_for {r : Addr} {b₀ : Int} {t₀ u₀ v₀ : Tok} {n : Nat} {m₀ : Str → Option Value} {news : List (Addr × Obj)} (all : List (Addr × Obj)) (hs : ∀ p ∈ all, p ∈ news)
    (hh : A.handled = none) (hr : IsRange s.heap r 0 b₀ 1 t₀ u₀ v₀) (hsmall : Builtin.Range.small 0 b₀ 1 = true) (hsz : Builtin.Range.rangeSize 0 b₀ 1 = (n : Int)) (F : Fr h₀ env.locals s.heap m₀) (N : News h₀ env.locals s.heap news)
    (turn : ∀ i t (u : Str → Option Value) h tk own, i < n → Fr h₀ env.locals h (fun y => if y = x then some (.int (i : Int) t) else m₀ y) → News h₀ env.locals h (all ++ own) → OwnOff own (all.map (·.1)) →
      wpAny (model prog w) A (execs body env) (InvPostG h₀ env.locals (LS (fun _ : Unit => all) (fun _ => []) x [] m₀ (fun _ _ => True) (i + 1)) own { s with heap := h, toks := tk } Q) E { s with heap := h, toks := tk })
    (done : ∀ (u : Str → Option Value) h tk, Fr h₀ env.locals h (fun y => if y = x then u y else m₀ y) → News h₀ env.locals h all → Q .next { s with heap := h, toks := tk }) :
    wpAny (model prog w) A (pyIter (.ref r)) (fun it s₂ => LoopAtV prog w A h₀ env x body Q E it s₂) E s := by
  refine for_range (fun _ : Unit => all) (fun _ => []) [] (fun _ _ => True) () hh hr hsmall hsz F (fun p hp => N p (hs p hp)) (fun _ hp => nomatch hp) trivial ?_ ?_
  · intro i t c u h tk own hi hoff _ F₁ N₁
    rw [Int.zero_add] at F₁
    exact turn i t u h tk own hi F₁ N₁ hoff
  · exact fun c u h tk _ F₁ N₁ => done u h tk F₁ N₁
theorem cut_end {all own news' : List (Addr × Obj)} {m₀ m' : Str → Option Value} {i tk : Nat} {L : Addr} {s₁ : Shared} {h' : Heap} (F : Fr h₀ L h' m') (N : News h₀ L h' news') (hn : ∀ p ∈ all, p ∈ news') (ho : ∀ p ∈ own, p ∈ news') (hoff : OwnOff own (all.map (·.1)))
    (hr : ∀ z, z ≠ x → m' z = m₀ z) : InvEndG h₀ L (LS (fun _ : Unit => all) (fun _ => []) x [] m₀ (fun _ _ => True) i) own s₁ { s₁ with heap := h', toks := tk } :=
  ls_end () F N hn ho hoff (fun _ hp => nomatch hp) (fun z h _ _ => hr z h) trivial
end
theorem cut_eq {b : Bool} {told t : List Nat} {n i : Nat} (h : wrs b told = t.take n) :
    (escT b (Txt.slice (tx told) none (some (i : Int))) ++ escT b (Txt.slice (tx told) (some (i : Int)) none) == Txt.slice (tx t) none (some (n : Int))) = true := by
  rw [slice_ns (by omega), slice_sn (by omega), slice_ns (by omega), tx_toList, tx_toList, escT_tx, escT_tx, tx_append, ← wrs_append, Int.toNat_natCast, Int.toNat_natCast, List.take_append_drop, h]
  exact beq_self_eq_true _
end
section
set_option maxRecDepth 100000
open PySem PySem.W PyProof.Rows PySem.Calls PySem.Spec
local macro_rules | `(tactic| ktr_enter) => `(tactic| (refine' code_def ?k1 ?k2 ?k3 ?k4 ?k5 ?kA ?kF ?kK ?k6 ?k7 ?k8 ?k9 ?kB ?_ ?c2 ?c3 ?c4 ?c5; (case kA => exact rfl); (case kF => exact rfl); (case kK => first | assumption | exact rfl); (case k1 => k_asm); (case k2 => k_asm); (case k3 => k_asm); (case k4 => k_asm); (case k5 => k_asm); (case k6 => k_is); (case k7 => k_is); (case k8 => ktr_room); (case k9 => first | exact BindsTo.of_eq rfl | exact binds_K (by k_in) rfl (by k_is) rfl rfl rfl); (case c5 => decide); (case kB => exact locs rfl); (case c2 => exact rfl); (case c3 => exact rfl); (case c4 => exact rfl); k_whole; intro g' L' h' FG' F' N' B' X' T'; (try dsimp only); (try k_lift B'); (try k_fold)))
local macro_rules | `(tactic| walk_at "execs cons") => `(tactic| refine wpAny_execs_cons ?_)
set_option maxHeartbeats 8000000 in
theorem escape_spec {prog p : Program} {w : World} {loose : List Str} {mean : ExcName → Option Value} {mg mb : Str → Option Value}
  {dp un : Nat} {gd : Option (List Code)} {cn : Str} {cs : Scope} {a : Addr} {ccd : Value} {cl : List (Str × Addr)} {outer : List Env} {A₀ : Around} {base h₀ : Heap} {L : Addr} {m : Str → Option Value} {news : List (Addr × Obj)} {s : Shared}
    {Q E : Value → Shared → Prop} {x : Str} {tx : Tok} {b : Bool} 
    (B : Below A₀ base outer h₀) (F : Fr h₀ L s.heap m) (X : (hd.heap_39 w.params).In h₀) (N : News h₀ L s.heap news) (T : Top p loose mean mg mb h₀) (hk : cs.kind = .function) (hx : x.length ≤ 300) (hd : dp + 1 < recursionLimit) (hu : un + 8 < cLine)
    (hret : ∀ t h' tk', Fr h₀ L h' m → News h₀ L h' news → Q (.str (escT b x) t) { s with heap := h', toks := tk' }) : 
    wpAny (model prog w) (ktrTop dp un gd cn cs L a ccd cl outer) (call (.ref 22) [.str x tx, .bool b]) Q E s := by
  have l1 := repl_len (x := x) (y := Str.ofString "&") (z := Str.ofString "&amp;") (k := 4) (c := 38) (by decide +kernel) hx (by decide +kernel)
  have l2 := repl_len (y := Str.ofString "<") (z := Str.ofString "&lt;") (k := 3) (c := 60) (by decide +kernel) l1 (by decide +kernel)
  have l3 := repl_len (y := Str.ofString ">") (z := Str.ofString "&gt;") (k := 3) (c := 62) (by decide +kernel) l2 (by decide +kernel)
  have l4 := repl_len (y := Str.ofString "\"") (z := Str.ofString "&quot;") (k := 5) (c := 34) (by decide +kernel) l3 (by decide +kernel)
  w_top off
  refine wpAny_call ?_
  k_dflt ktr_enter
  k_steps
  all_goals (refine cb_retS (Q := Q) hret ?_ (by k_asm) (by k_asm))
  all_goals (simp_all [escT]; done)
end
section
set_option maxRecDepth 100000
open PySem PySem.W PyProof.Rows PySem.Calls PySem.Spec
local macro_rules | `(tactic| ktr_enter) => `(tactic| (refine' code_def ?k1 ?k2 ?k3 ?k4 ?k5 ?kA ?kF ?kK ?k6 ?k7 ?k8 ?k9 ?kB ?_ ?c2 ?c3 ?c4 ?c5; (case kA => exact rfl); (case kF => exact rfl); (case kK => first | assumption | exact rfl); (case k1 => k_asm); (case k2 => k_asm); (case k3 => k_asm); (case k4 => k_asm); (case k5 => k_asm); (case k6 => k_is); (case k7 => k_is); (case k8 => ktr_room); (case k9 => first | exact BindsTo.of_eq rfl | exact binds_K (by k_in) rfl (by k_is) rfl rfl rfl); (case c5 => decide); (case kB => exact locs rfl); (case c2 => exact rfl); (case c3 => exact rfl); (case c4 => exact rfl); k_whole; intro g' L' h' FG' F' N' B' X' T'; (try dsimp only); (try k_lift B'); (try k_fold)))
local macro_rules | `(tactic| ktr_rel) => `(tactic| repeat' (first | (k_unfold; (try dsimp only)) | ((fail_if_success (with_reducible show wpAny _ _ (exec (Stmt.For _ _ _ _ _) _) _ _ _)); (fail_if_success (with_reducible show wpAny _ _ (exec (Stmt.While _ _ _ _) _) _ _ _)); (fail_if_success (with_reducible show wpAny _ _ (call (Value.ref _) _ _) _ _ _)); (fail_if_success (with_reducible show wpAny _ _ (pyIter _) _ _ _)); (fail_if_success (with_reducible show InvPostG _ _ _ _ _ _ _ _)); first | walk1 | (dsimp only; walk1))))
def led1 (a : Addr) (rest : List (Addr × Obj)) (c : List Value × List Str × Nat) : List (Addr × Obj) := (a, listOf c.1.toArray c.2.2) :: rest
theorem led1_end {h₀ : Heap} {L a : Addr} {rest own : List (Addr × Obj)} {q : Addr × Obj} {its : List Value} {xs : List Str} {ep i tk B : Nat} {x y : Str} {t : Tok} {h' : Heap} {m' m₀ : Str → Option Value} {stored : List Str} {s₁ : Shared}
    (F : Fr h₀ L h' m') (N : News h₀ L h' (q :: (a, listOf (its.toArray.push (.str y t)) (ep + 1)) :: (rest ++ own))) (hy : y.length ≤ B) (hS : StrsAre its xs) (hl : xs.length = i) (hx : ∀ x ∈ xs, x.length ≤ B) (hoff : OwnOff own ((led1 a rest (its, xs, ep)).map (·.1)))
    (hr : ∀ z, z ≠ x → (∀ p ∈ ([] : List (Str × Value)), z ≠ p.1) → stored.contains z = false → m' z = m₀ z) :
    InvEndG h₀ L (LS (led1 a rest) (fun _ => []) x stored m₀ (fun i c => StrsAre c.1 c.2.1 ∧ c.2.1.length = i ∧ ∀ x ∈ c.2.1, x.length ≤ B) (i + 1)) own s₁ { s₁ with heap := h', toks := tk } := by
  rw [List.push_toArray] at N
  refine ls_end (its ++ [.str y t], xs ++ [y], ep + 1) F N ?_ ?_ hoff (fun _ hp => nomatch hp) hr ⟨hS.append' (.cons _ _ .nil), by simp [hl], ?_⟩
  · intro p hp
    rcases List.mem_cons.mp hp with rfl | hp
    · exact .tail _ (.head _)
    · exact .tail _ (.tail _ (List.mem_append.mpr (.inl hp)))
  · intro p hp
    exact .tail _ (.tail _ (List.mem_append.mpr (.inr hp)))
  · intro z hz
    rcases List.mem_append.mp hz with hz | hz
    · exact hx z hz
    · cases List.mem_singleton.mp hz; exact hy
local macro_rules | `(tactic| kst_same) => `(tactic| (intro z h1 h2 h3; (simp only [List.contains_cons, List.contains_nil, Bool.or_false, Bool.or_eq_false_iff, beq_eq_false_iff_ne, ne_eq] at h3); (simp only [List.forall_mem_cons, List.not_mem_nil, false_implies, implies_true, and_true, ne_eq] at h2); (simp [kstB, h1, h2, h3]; done)))
local macro_rules | `(tactic| k_all) => `(tactic| assumption)
local macro_rules | `(tactic| walk_at "subscriptTail Name Name ref int") => `(tactic| (k_here; k_dflt (refine' tab_item (B := 6) ?tN ?tm ?tv ?t0 ?t1 ?tl ?_ ?ts; (case tN => k_asm); (case tm => k_mem); (case tv => simp only [List.forall_mem_cons]; repeat' (first | exact List.forall_mem_nil _ | exact ⟨_, _, rfl, by decide +kernel⟩ | constructor)); (case t0 => omega); (case t1 => simp only [List.length_cons, List.length_nil]; omega); (case tl => (simp only [List.length_cons, List.length_nil]; decide)); (case ts => with_unfolding_all rfl); k_whole); intro xT tT hT))
local macro_rules | `(tactic| walk_at "subscriptTail Name BinOp ref int") => `(tactic| (k_here; k_dflt (refine' tab_item (B := 6) ?tN ?tm ?tv ?t0 ?t1 ?tl ?_ ?ts; (case tN => k_asm); (case tm => k_mem); (case tv => simp only [List.forall_mem_cons]; repeat' (first | exact List.forall_mem_nil _ | exact ⟨_, _, rfl, by decide +kernel⟩ | constructor)); (case t0 => omega); (case t1 => simp only [List.length_cons, List.length_nil]; omega); (case tl => (simp only [List.length_cons, List.length_nil]; decide)); (case ts => with_unfolding_all rfl); k_whole); intro xT tT hT))
local macro_rules | `(tactic| walk_at "call builtin:list.append cons nil") => `(tactic| (k_here; k_dflt (refine' append_K ?k1 ?k2 ?k3 ?_ ?z; (case k1 => k_asm); (case k2 => k_asm); (case k3 => k_upd); (case z => (simp only [List.size_toArray, sizeLine_eq]; omega)); k_whole); intro h' F' N'; (try k_sweep)))
set_option maxHeartbeats 8000000 in
theorem text_spec {prog p : Program} {w : World} {loose : List Str} {mean : ExcName → Option Value} {mg mb : Str → Option Value}
  {dp un : Nat} {gd : Option (List Code)} {cn : Str} {cs : Scope} {a : Addr} {ccd : Value} {cl : List (Str × Addr)} {outer : List Env} {A₀ : Around} {base h₀ : Heap} {L : Addr} {m : Str → Option Value} {s : Shared}
    {Q E : Value → Shared → Prop} {l : Addr} {vs : List Value} {ns : List Int} {nn : Nat}
    (B : Below A₀ base outer h₀) (F : Fr h₀ L s.heap m) (X : (hd.heap_39 w.params).In h₀) (N : News h₀ L s.heap [(l, listOf vs.toArray nn)]) (T : Top p loose mean mg mb h₀) (hk : cs.kind = .function) (hi : IntsAre vs ns) (hlen : ns.length ≤ 30) (hd : dp + 1 < recursionLimit) (hu : un + 8 < cLine)
    (hret : ∀ (x : Str) t h' tk', x.length ≤ 180 → Fr h₀ L h' m → News h₀ L h' [(l, listOf vs.toArray nn)] → Q (.str x t) { s with heap := h', toks := tk' }) : 
    wpAny (model prog w) (ktrTop dp un gd cn cs L a ccd cl outer) (call (.ref 29) [.ref l]) Q E s := by
  w_top off
  refine wpAny_call ?_
  k_dflt ktr_enter
  w_strict ktr_rel
  rename Fr _ _ _ _ => F1
  refine For_invVF F1 rfl rfl ?_
  w_strict ktr_rel
  rename News _ _ _ _ => N1
  refine for_list (vs := vs) (nn := nn) (led1 _ _) (fun _ => []) ["rest", "which", "point"] (fun i c => StrsAre c.1 c.2.1 ∧ c.2.1.length = i ∧ ∀ x ∈ c.2.1, x.length ≤ 6) ([], [], 0) rfl ?hl F1 N1 (fun _ hp => nomatch hp) ⟨.nil, rfl, fun _ hp => nomatch hp⟩ ?turn ?done
  case hl => intro c; simp [led1]
  case turn =>
    rintro i v ⟨its, xs, ep⟩ u h tk own hv hoff ⟨hS, hl', hx⟩ F2 N2
    obtain ⟨n, tn, rfl⟩ : ∃ n t, v = .int n t := by
      have h1 := (List.getElem?_eq_some_iff.mp hv).1
      have h2 := hi.length
      obtain ⟨t, ht⟩ := hi.get i (ns[i]'(by omega)) (by simp)
      rw [hv] at ht
      exact ⟨_, t, Option.some.inj ht⟩
    clear F1 N1
    dsimp only at hS hl' hx
    have hoff0 := hoff
    simp only [led1, List.cons_append, List.nil_append] at N2 hoff
    have hb1 := fmod_bounds n 20 (by decide)
    have hb2 := fmod_bounds (n.fdiv 20) 8 (by decide)
    have hb3 := fmod_bounds (n.fdiv 20) 1112064 (by decide)
    have hsz : its.length ≤ 30 := by have h1 := hS.length; have h2 := (List.getElem?_eq_some_iff.mp hv).1; have h3 := hi.length; omega
    have hlt : @LT.lt Nat _ _ h.objs.size := Heap.lt_size (N2 _ (.head _)).1
    have hown : ∀ p ∈ own, p.1 ≠ _ := hoff.ne (.head _)
    w_strict (repeat' (first | (k_unfold; (try dsimp only)) | ((fail_if_success (with_reducible show InvPostG _ _ _ _ _ _ _ _)); first | walk1 | (dsimp only; walk1))))
    all_goals (refine led1_end (by assumption) (by assumption) ?_ hS hl' hx hoff0 (by kst_same))
    all_goals (first | assumption | exact Nat.le_of_ble_eq_true rfl)
  case done =>
    rintro ⟨its, xs, ep⟩ u h tk ⟨hS, hl', hx⟩ F2 N2
    clear F1 N1
    dsimp only at hS hl' hx
    simp only [led1] at N2
    dsimp only
    w_strict (repeat' (first | (k_unfold; (try dsimp only)) | ((fail_if_success (with_reducible show InvPostG _ _ _ _ _ _ _ _)); first | walk1 | (dsimp only; walk1))))
    refine join_made (B := 6) N2 (.head _) hS (by decide +kernel) hx (by have := hi.length; omega) ?_
    intro y t' k hy hyl
    w_strict (repeat' (first | (k_unfold; (try dsimp only)) | ((fail_if_success (with_reducible show InvPostG _ _ _ _ _ _ _ _)); first | walk1 | (dsimp only; walk1))))
    refine hret y t' _ _ (by have := hi.length; omega) (by k_asm) ?_
    rename News _ _ _ _ => N5
    exact fun p hp => N5 p (by simp at hp; subst hp; simp)
end
section
set_option maxRecDepth 100000
open PySem PySem.W PyProof.Rows PySem.Calls PySem.Spec
local macro_rules | `(tactic| ktr_enter) => `(tactic| first
  | (refine' code_def ?k1 ?k2 ?k3 ?k4 ?k5 ?kA ?kF ?kK ?k6 ?k7 ?k8 ?k9 ?kB ?_ ?c2 ?c3 ?c4 ?c5; (case kA => exact rfl); (case kF => exact rfl); (case kK => first | assumption | exact rfl); (case k1 => k_asm); (case k2 => k_asm); (case k3 => k_asm); (case k4 => k_asm); (case k5 => k_asm); (case k6 => k_is); (case k7 => k_is); (case k8 => ktr_room); (case k9 => first | exact BindsTo.of_eq rfl | exact binds_K (by k_in) rfl (by k_is) rfl rfl rfl); (case c5 => decide); (case kB => exact locs rfl); (case c2 => exact rfl); (case c3 => exact rfl); (case c4 => exact rfl); k_whole; intro g' L' h' FG' F' N' B' X' T'; (try dsimp only); (try k_lift B'); (try k_fold))
  | (refine' code_defC ?k1 ?k2 ?k3 ?k4 ?k5 ?kA ?kF ?kK ?k6 ?k7 ?k8 ?k9 ?kB ?kD ?_ ?c2 ?c3 ?c4; (case kA => exact rfl); (case kF => exact rfl); (case kK => first | assumption | exact rfl); (case k1 => k_asm); (case k2 => k_asm); (case k3 => k_asm); (case k4 => k_asm); (case k5 => k_asm); (case k6 => k_is); (case k7 => k_is); (case k8 => ktr_room); (case k9 => first | exact BindsTo.of_eq rfl | exact binds_K (by k_in) rfl (by k_is) rfl rfl rfl); (case kB => exact rfl); (case kD => decide +kernel); (case c2 => exact rfl); (case c3 => exact rfl); (case c4 => exact rfl); k_whole; intro g' L' h' tk' cells' FG' F' N' Y' B' X' T' l1; (try k_lt l1); k_cells Y'; (try simp only [List.cons_append, List.nil_append] at N'); (try dsimp only); (try k_lift B'); (try k_fold)))
local macro_rules | `(tactic| kst_same) => `(tactic| (intro z h1 h2 h3; (simp only [List.contains_cons, List.contains_nil, Bool.or_false, Bool.or_eq_false_iff, beq_eq_false_iff_ne, ne_eq] at h3); (simp only [List.forall_mem_cons, List.not_mem_nil, false_implies, implies_true, and_true, ne_eq] at h2); (simp [kstB, h1, h2, h3]; done)))
local macro_rules | `(tactic| k_all) => `(tactic| first | assumption | (intro p9 h9; refine LtAll.ne (by assumption) ?_; (repeat (first | exact h9 | refine List.Mem.tail _ ?_)); done))
local macro_rules | `(tactic| k_lt $h:ident) => `(tactic| ((have hk9 := LtAll.of $h); (replace $h := allLt_of $h); (try simp only [AllLt, and_true] at $h:ident)))
local macro_rules | `(tactic| ktr_rel) => `(tactic| (first | (k_unfold; (try dsimp only)) | ((fail_if_success (with_reducible show wpAny _ _ (exec (Stmt.For _ _ _ _ _) _) _ _ _)); (fail_if_success (with_reducible show wpAny _ _ (exec (Stmt.While _ _ _ _) _) _ _ _)); (fail_if_success (with_reducible show wpAny _ _ (call (Value.ref _) _ _) _ _ _)); (fail_if_success (with_reducible show wpAny _ _ (pyIter _) _ _ _)); (fail_if_success (with_reducible show InvPostG _ _ _ _ _ _ _ _)); (fail_if_success (with_reducible show KswPost _ _ _ _ _ _ _ _ _ _ _ _ _ _)); (fail_if_success (with_reducible show wpAny _ _ (exec (Stmt.Assign _ (Expr.ListComp _ _ _ _) _) _) _ _ _)); first | walk1 | (dsimp only; walk1))))
local macro_rules | `(tactic| walk_at "subscriptTail Name Constant ref int") => `(tactic| (k_here; k_dflt (first
  | (refine' list_item ?tN ?tm ?t0 ?t1 ?tv ?_ ?ts; (case tN => k_asm); (case tm => k_mem); (case t0 => decide); (case t1 => decide); (case tv => exact rfl); (case ts => with_unfolding_all rfl); k_whole)
  | (refine' tup_item ?tN ?tm ?t0 ?t1 ?tv ?_ ?ts; (case tN => k_asm); (case tm => k_mem); (case t0 => decide); (case t1 => decide); (case tv => exact rfl); (case ts => with_unfolding_all rfl); k_whole))))
local macro_rules | `(tactic| walk_at "subscriptTail Subscript Name Constant Constant ref int") => `(tactic| (k_here; k_dflt (first
  | (refine' list_item ?tN ?tm ?t0 ?t1 ?tv ?_ ?ts; (case tN => k_asm); (case tm => k_mem); (case t0 => decide); (case t1 => decide); (case tv => exact rfl); (case ts => with_unfolding_all rfl); k_whole)
  | (refine' tup_item ?tN ?tm ?t0 ?t1 ?tv ?_ ?ts; (case tN => k_asm); (case tm => k_mem); (case t0 => decide); (case t1 => decide); (case tv => exact rfl); (case ts => with_unfolding_all rfl); k_whole))))
local macro_rules | `(tactic| walk_at "binaryOp Add str str") => `(tactic| (k_here; (try dsimp only); refine add_short 100000 (by decide) (by first | omega | decide) (by first | omega | decide) ?_; intro t9 k9))
local macro_rules | `(tactic| walk_at "call builtin:list.append cons nil") => `(tactic| (k_here; k_dflt (refine' append_K ?k1 ?k2 ?k3 ?_ ?z; (case k1 => k_asm); (case k2 => k_asm); (case k3 => k_upd); (case z => (simp only [List.size_toArray, sizeLine_eq]; omega)); k_whole); intro h' F' N'; (try k_sweep)))
local macro_rules | `(tactic| ksw_same) => `(tactic| (intro z h2 h3; (simp only [List.contains_cons, List.contains_nil, Bool.or_false, Bool.or_eq_false_iff, beq_eq_false_iff_ne, ne_eq] at h3); (simp only [psW, List.forall_mem_cons, List.not_mem_nil, false_implies, implies_true, and_true, ne_eq] at h2); (simp [kstB, h2, h3]; done)))
local macro_rules | `(tactic| kst_mem) => `(tactic| (intro p9 h9; (repeat (first | exact h9 | refine List.Mem.tail _ ?_)); done))
local macro_rules | `(tactic| kst_allIn) => `(tactic| first | exact List.forall_mem_nil _ | (refine List.forall_mem_cons.mpr ⟨by k_mem, ?_⟩; kst_allIn))
set_option maxHeartbeats 8000000 in
theorem walk_spec_true {prog p : Program} {w : World} {loose : List Str} {mean : ExcName → Option Value} {mg mb : Str → Option Value}
  {dp un : Nat} {gd : Option (List Code)} {cn : Str} {cs : Scope} {a : Addr} {ccd : Value} {cl : List (Str × Addr)} {outer : List Env} {A₀ : Around} {base h₀ : Heap} {L : Addr} {m : Str → Option Value} {s : Shared}
    {Q E : Value → Shared → Prop} {x : Str} {t : Tok} {news : List (Addr × Obj)}
    (B : Below A₀ base outer h₀) (F : Fr h₀ L s.heap m) (X : (hd.heap_39 w.params).In h₀) (N : News h₀ L s.heap news) (T : Top p loose mean mg mb h₀) (hk : cs.kind = .function) (hx : x.length ≤ 40) (hd : dp + 1 < recursionLimit) (hu : un + 8 < cLine)
    (hret : ∀ (l : Addr) led acc h' tk', Fr h₀ L h' m → News h₀ L h' (led ++ news) → DatIn led (.ref l) (.list (datC acc)) → IsCh true x.cps.toList acc → (∀ p : List Nat × Nat, acc[acc.length - 1]? = some p → stepC true x.cps.toList p = none) → Q (.ref l) { s with heap := h', toks := tk' }) :
    wpAny (model prog w) (ktrTop dp un gd cn cs L a ccd cl outer) (call (.ref 34) [.str x t, .bool true]) Q E s := by
  w_top off
  refine wpAny_call ?_
  k_dflt ktr_enter
  rename LtAll news _ => hL0
  have hc1 := hL0.off (Nat.le_succ _)
  have hc2 := hL0.off (Nat.le_succ_of_le (Nat.le_succ _))
  w_strict (repeat' ktr_rel)
  rename Fr _ _ _ _ => F1
  rename News _ _ _ _ => N1
  refine walk_while (x := x) (b := true) (q := [_, _, _, _, _, _, _, _]) F1 N1 (by assumption) ?_ (by kst_all) ?_
  · exact .tuple (.head _) (.cons (.str _ _) (.cons (.int _ _) .nil))
  intro c u h tk hI F2 N2
  obtain ⟨told, tt, place, tp, going, items, ep, tl, cell, pre⟩ := c
  obtain ⟨hcell, hch, hdat, ho1, ho2, hstop⟩ := hI
  dsimp only at hcell hch hdat ho1 ho2 hstop
  clear F1 N1
  simp only [ledW, List.cons_append, List.nil_append] at N2
  simp only [psW] at F2
  have hinv := hch.inv pre.length (told, place) (by simp)
  obtain ⟨hp1, hp2, hp3, hp4⟩ := hinv
  dsimp only at hp1 hp2 hp3 hp4
  have hxl : x.cps.toList.length = x.length := by simp [Str.length]
  have htold : (tx told).length ≤ 40 := by rw [tx_length]; omega
  have hitem : (Txt.item x (place : Int)).length = 1 := rfl
  have hoA := off_append (b := news) ho1 (by k_all)
  have hoB := off_append (b := news) ho2 (by k_all)
  have hil : items.length ≤ 41 := by have := hdat.length; simp [datC] at this; omega
  w_strict (repeat' ktr_rel)
  · rename (Builtin.Str.occurrences _ _ _ _ _).isEmpty = true => hocc
    rename ((place : Int) < _) => hlt
    rename going = true => hgo
    obtain ⟨c, hc⟩ : ∃ c, x.cps.toList[place]? = some c := ⟨_, List.getElem?_eq_getElem (by omega)⟩
    have hit := item_at hc
    rw [hit, occ_spec (b := true) (by decide +kernel)] at hocc
    obtain ⟨hfit, hwr⟩ := plain_fits hc hocc
    rename Fr _ _ _ _ => F9
    rename News _ _ _ _ => N9
    refine walk_end hch hdat ho1 ho2 hfit ?_ ?_ F9 N9 (by k_mem) (by k_mem) (by assumption) (by k_mem) (by k_mem) (by kst_allIn) (by k_mem) (by kst_mem) (by k_ne) (by k_ne) hgo (by with_unfolding_all rfl) (by with_unfolding_all rfl) (by ksw_same)
    · rw [hit, tx_append]
    · rw [hit, hwr, tx_length]; rfl
  · k_dflt (refine LCt.Assign_ListComp_T (F₀ := by k_asm) (by rfl) (by with_unfolding_all rfl) (by with_unfolding_all rfl) (by decide) (by rfl) (by decide) (by rfl) (by rfl) (by rfl) ?_)
    w_strict (repeat' ((fail_if_success (with_reducible show LCt.CompSrcT _ _ _ _ _ _ _ _ _ _ _ _ _ _ _)); ktr_rel))
    k_dflt (refine LCt.CompSrcT.ledger (by rfl) (by k_asm) (by k_asm) (by k_mem) (by first | size_fits | exact Nat.le_of_ble_eq_true rfl) ?_)
    intro g9
    rename (Builtin.Str.occurrences _ _ _ _ _).isEmpty = false => hocc
    rename ((place : Int) < _) => hlt
    rename going = true => hgo
    obtain ⟨c, hc⟩ : ∃ c, x.cps.toList[place]? = some c := ⟨_, List.getElem?_eq_getElem (by omega)⟩
    have hit := item_at hc
    rw [hit] at hocc
    have hcs : c ∈ spec true := by
      refine Classical.byContradiction fun hn => ?_
      rw [(occ_spec (b := true) (by decide +kernel)).mpr hn] at hocc
      cases hocc
    refine restT_filter (n := 5) (selF true (x.cps.toList.drop place)) ?hS ?turn ?elem _ 0 [] rfl ?fin
    case hS => exact .inr ⟨_, by k_mem, rfl, _, rfl⟩
    case turn =>
      intro i v I oI C oC D ys m₂ h8 tk8 E8 QT hi hP hC hx8 F8 N8 off hne hQ
      clear F2 N2
      have h5 : i = 0 ∨ i = 1 ∨ i = 2 ∨ i = 3 ∨ i = 4 := by omega
      rcases h5 with rfl | rfl | rfl | rfl | rfl
      all_goals (
        have hv : Value.ref _ = v := Option.some.inj hP
        subst hv
        w_strict (repeat' ktr_rel))
      · rw [hit_slice (b := true) (c := 38) (by decide +kernel) (by decide)]
        exact hQ _ _ (by k_asm) (by k_asm)
      · rw [hit_slice (b := true) (c := 60) (by decide +kernel) (by decide)]
        exact hQ _ _ (by k_asm) (by k_asm)
      · rw [hit_slice (b := true) (c := 62) (by decide +kernel) (by decide)]
        exact hQ _ _ (by k_asm) (by k_asm)
      · rw [hit_slice (b := true) (c := 34) (by decide +kernel) (by decide)]
        exact hQ _ _ (by k_asm) (by k_asm)
      · rw [hit_slice (b := true) (c := 39) (by decide +kernel) (by decide)]
        exact hQ _ _ (by k_asm) (by k_asm)
    case elem =>
      intro i v I oI C oC D ys m₂ h8 tk8 E8 QE hi hP hC hx8 F8 N8 hQ
      clear F2 N2
      w_strict (repeat' ktr_rel)
    case fin =>
      intro zs hz
      clear F2 N2
      unfold LCg.FinA
      intro D8 h8 tk8 F8 N8 o8
      simp only [LCg.Off1, and_true] at o8
      rcases picked hc hcs hz with ⟨rfl, hnil⟩ | ⟨j, v, d, hj, hP, rfl, hd9, hfit⟩
      · simp only [List.nil_append] at N8
        w_strict (repeat' ktr_rel)
        rename Fr _ _ _ _ => F9
        rename News _ _ _ _ => N9
        exact walk_stop ⟨hcell, hch, hdat, ho1, ho2, hstop⟩ hnil F9 N9 (by k_mem) (by k_mem) (by k_mem) (by kst_allIn) (by k_mem) (by kst_mem) hgo (by with_unfolding_all rfl) (by with_unfolding_all rfl) (by ksw_same)
      · simp only [List.nil_append] at N8
        have h5 : j = 0 ∨ j = 1 ∨ j = 2 ∨ j = 3 ∨ j = 4 := by simp [spec] at hj; omega
        rcases h5 with rfl | rfl | rfl | rfl | rfl
        all_goals (
          have hv : Value.ref _ = v := Option.some.inj hP
          subst hv
          have hdd : _ = d := Option.some.inj hd9
          w_strict (repeat' ktr_rel)
          rename Fr _ _ _ _ => F9
          rename News _ _ _ _ => N9
          refine walk_end hch hdat ho1 ho2 hfit ?_ ?_ F9 N9 (by k_mem) (by k_mem) (by assumption) (by k_mem) (by k_mem) (by kst_allIn) (by k_mem) (by kst_mem) (by k_ne) (by k_ne) hgo (by with_unfolding_all rfl) (by with_unfolding_all rfl) (by ksw_same)
          · rw [← hdd, ← tx_append]; congr 1
          · rw [← hdd]; rfl)
  · rename Fr h₀ _ _ _ => F9
    rename News h₀ _ _ _ => N9
    exact walk_done hret hch hdat (step_past (by omega)) F9 N9 (by k_mem) (by k_mem) (by kst_mem)
  · rename Fr h₀ _ _ _ => F9
    rename News h₀ _ _ _ => N9
    exact walk_done hret hch hdat (hstop (by first | assumption | (rename ¬ going = true => hg9; cases going <;> simp_all))) F9 N9 (by k_mem) (by k_mem) (by kst_mem)
set_option maxHeartbeats 8000000 in
theorem walk_spec_false {prog p : Program} {w : World} {loose : List Str} {mean : ExcName → Option Value} {mg mb : Str → Option Value}
  {dp un : Nat} {gd : Option (List Code)} {cn : Str} {cs : Scope} {a : Addr} {ccd : Value} {cl : List (Str × Addr)} {outer : List Env} {A₀ : Around} {base h₀ : Heap} {L : Addr} {m : Str → Option Value} {s : Shared}
    {Q E : Value → Shared → Prop} {x : Str} {t : Tok} {news : List (Addr × Obj)}
    (B : Below A₀ base outer h₀) (F : Fr h₀ L s.heap m) (X : (hd.heap_39 w.params).In h₀) (N : News h₀ L s.heap news) (T : Top p loose mean mg mb h₀) (hk : cs.kind = .function) (hx : x.length ≤ 40) (hd : dp + 1 < recursionLimit) (hu : un + 8 < cLine)
    (hret : ∀ (l : Addr) led acc h' tk', Fr h₀ L h' m → News h₀ L h' (led ++ news) → DatIn led (.ref l) (.list (datC acc)) → IsCh false x.cps.toList acc → (∀ p : List Nat × Nat, acc[acc.length - 1]? = some p → stepC false x.cps.toList p = none) → Q (.ref l) { s with heap := h', toks := tk' }) :
    wpAny (model prog w) (ktrTop dp un gd cn cs L a ccd cl outer) (call (.ref 34) [.str x t, .bool false]) Q E s := by
  w_top off
  refine wpAny_call ?_
  k_dflt ktr_enter
  rename LtAll news _ => hL0
  have hc1 := hL0.off (Nat.le_succ _)
  have hc2 := hL0.off (Nat.le_succ_of_le (Nat.le_succ _))
  w_strict (repeat' ktr_rel)
  rename Fr _ _ _ _ => F1
  rename News _ _ _ _ => N1
  refine walk_while (x := x) (b := false) (q := [_, _, _, _]) F1 N1 (by assumption) ?_ (by kst_all) ?_
  · exact .tuple (.head _) (.cons (.str _ _) (.cons (.int _ _) .nil))
  intro c u h tk hI F2 N2
  obtain ⟨told, tt, place, tp, going, items, ep, tl, cell, pre⟩ := c
  obtain ⟨hcell, hch, hdat, ho1, ho2, hstop⟩ := hI
  dsimp only at hcell hch hdat ho1 ho2 hstop
  clear F1 N1
  simp only [ledW, List.cons_append, List.nil_append] at N2
  simp only [psW] at F2
  have hinv := hch.inv pre.length (told, place) (by simp)
  obtain ⟨hp1, hp2, hp3, hp4⟩ := hinv
  dsimp only at hp1 hp2 hp3 hp4
  have hxl : x.cps.toList.length = x.length := by simp [Str.length]
  have htold : (tx told).length ≤ 40 := by rw [tx_length]; omega
  have hitem : (Txt.item x (place : Int)).length = 1 := rfl
  have hoA := off_append (b := news) ho1 (by k_all)
  have hoB := off_append (b := news) ho2 (by k_all)
  have hil : items.length ≤ 41 := by have := hdat.length; simp [datC] at this; omega
  w_strict (repeat' ktr_rel)
  · rename (Builtin.Str.occurrences _ _ _ _ _).isEmpty = true => hocc
    rename ((place : Int) < _) => hlt
    rename going = true => hgo
    obtain ⟨c, hc⟩ : ∃ c, x.cps.toList[place]? = some c := ⟨_, List.getElem?_eq_getElem (by omega)⟩
    have hit := item_at hc
    rw [hit, occ_spec (b := false) (by decide +kernel)] at hocc
    obtain ⟨hfit, hwr⟩ := plain_fits hc hocc
    rename Fr _ _ _ _ => F9
    rename News _ _ _ _ => N9
    refine walk_end hch hdat ho1 ho2 hfit ?_ ?_ F9 N9 (by k_mem) (by k_mem) (by assumption) (by k_mem) (by k_mem) (by kst_allIn) (by k_mem) (by kst_mem) (by k_ne) (by k_ne) hgo (by with_unfolding_all rfl) (by with_unfolding_all rfl) (by ksw_same)
    · rw [hit, tx_append]
    · rw [hit, hwr, tx_length]; rfl
  · k_dflt (refine LCt.Assign_ListComp_T (F₀ := by k_asm) (by rfl) (by with_unfolding_all rfl) (by with_unfolding_all rfl) (by decide) (by rfl) (by decide) (by rfl) (by rfl) (by rfl) ?_)
    w_strict (repeat' ((fail_if_success (with_reducible show LCt.CompSrcT _ _ _ _ _ _ _ _ _ _ _ _ _ _ _)); ktr_rel))
    k_dflt (refine LCt.CompSrcT.ledger (by rfl) (by k_asm) (by k_asm) (by k_mem) (by first | size_fits | exact Nat.le_of_ble_eq_true rfl) ?_)
    intro g9
    rename (Builtin.Str.occurrences _ _ _ _ _).isEmpty = false => hocc
    rename ((place : Int) < _) => hlt
    rename going = true => hgo
    obtain ⟨c, hc⟩ : ∃ c, x.cps.toList[place]? = some c := ⟨_, List.getElem?_eq_getElem (by omega)⟩
    have hit := item_at hc
    rw [hit] at hocc
    have hcs : c ∈ spec false := by
      refine Classical.byContradiction fun hn => ?_
      rw [(occ_spec (b := false) (by decide +kernel)).mpr hn] at hocc
      cases hocc
    refine restT_filter (n := 3) (selF false (x.cps.toList.drop place)) ?hS ?turn ?elem _ 0 [] rfl ?fin
    case hS => exact .inr ⟨_, by k_mem, rfl, _, rfl⟩
    case turn =>
      intro i v I oI C oC D ys m₂ h8 tk8 E8 QT hi hP hC hx8 F8 N8 off hne hQ
      clear F2 N2
      have h5 : i = 0 ∨ i = 1 ∨ i = 2 := by omega
      rcases h5 with rfl | rfl | rfl
      all_goals (
        have hv : Value.ref _ = v := Option.some.inj hP
        subst hv
        w_strict (repeat' ktr_rel))
      · rw [hit_slice (b := false) (c := 38) (by decide +kernel) (by decide)]
        exact hQ _ _ (by k_asm) (by k_asm)
      · rw [hit_slice (b := false) (c := 60) (by decide +kernel) (by decide)]
        exact hQ _ _ (by k_asm) (by k_asm)
      · rw [hit_slice (b := false) (c := 62) (by decide +kernel) (by decide)]
        exact hQ _ _ (by k_asm) (by k_asm)
    case elem =>
      intro i v I oI C oC D ys m₂ h8 tk8 E8 QE hi hP hC hx8 F8 N8 hQ
      clear F2 N2
      w_strict (repeat' ktr_rel)
    case fin =>
      intro zs hz
      clear F2 N2
      unfold LCg.FinA
      intro D8 h8 tk8 F8 N8 o8
      simp only [LCg.Off1, and_true] at o8
      rcases picked hc hcs hz with ⟨rfl, hnil⟩ | ⟨j, v, d, hj, hP, rfl, hd9, hfit⟩
      · simp only [List.nil_append] at N8
        w_strict (repeat' ktr_rel)
        rename Fr _ _ _ _ => F9
        rename News _ _ _ _ => N9
        exact walk_stop ⟨hcell, hch, hdat, ho1, ho2, hstop⟩ hnil F9 N9 (by k_mem) (by k_mem) (by k_mem) (by kst_allIn) (by k_mem) (by kst_mem) hgo (by with_unfolding_all rfl) (by with_unfolding_all rfl) (by ksw_same)
      · simp only [List.nil_append] at N8
        have h5 : j = 0 ∨ j = 1 ∨ j = 2 := by simp [spec] at hj; omega
        rcases h5 with rfl | rfl | rfl
        all_goals (
          have hv : Value.ref _ = v := Option.some.inj hP
          subst hv
          have hdd : _ = d := Option.some.inj hd9
          w_strict (repeat' ktr_rel)
          rename Fr _ _ _ _ => F9
          rename News _ _ _ _ => N9
          refine walk_end hch hdat ho1 ho2 hfit ?_ ?_ F9 N9 (by k_mem) (by k_mem) (by assumption) (by k_mem) (by k_mem) (by kst_allIn) (by k_mem) (by kst_mem) (by k_ne) (by k_ne) hgo (by with_unfolding_all rfl) (by with_unfolding_all rfl) (by ksw_same)
          · rw [← hdd, ← tx_append]; congr 1
          · rw [← hdd]; rfl)
  · rename Fr h₀ _ _ _ => F9
    rename News h₀ _ _ _ => N9
    exact walk_done hret hch hdat (step_past (by omega)) F9 N9 (by k_mem) (by k_mem) (by kst_mem)
  · rename Fr h₀ _ _ _ => F9
    rename News h₀ _ _ _ => N9
    exact walk_done hret hch hdat (hstop (by first | assumption | (rename ¬ going = true => hg9; cases going <;> simp_all))) F9 N9 (by k_mem) (by k_mem) (by kst_mem)
end
section
set_option maxRecDepth 100000
open PySem PySem.W PyProof.Rows PySem.Calls PySem.Spec
local macro_rules | `(tactic| ktr_enter) => `(tactic| first
  | (refine' code_def ?k1 ?k2 ?k3 ?k4 ?k5 ?kA ?kF ?kK ?k6 ?k7 ?k8 ?k9 ?kB ?_ ?c2 ?c3 ?c4 ?c5; (case kA => exact rfl); (case kF => exact rfl); (case kK => first | assumption | exact rfl); (case k1 => k_asm); (case k2 => k_asm); (case k3 => k_asm); (case k4 => k_asm); (case k5 => k_asm); (case k6 => k_is); (case k7 => k_is); (case k8 => ktr_room); (case k9 => first | exact BindsTo.of_eq rfl | exact binds_K (by k_in) rfl (by k_is) rfl rfl rfl); (case c5 => decide); (case kB => exact locs rfl); (case c2 => exact rfl); (case c3 => exact rfl); (case c4 => exact rfl); k_whole; intro g' L' h' FG' F' N' B' X' T'; (try dsimp only); (try k_lift B'); (try k_fold))
  | (refine' code_defC ?k1 ?k2 ?k3 ?k4 ?k5 ?kA ?kF ?kK ?k6 ?k7 ?k8 ?k9 ?kB ?kD ?_ ?c2 ?c3 ?c4; (case kA => exact rfl); (case kF => exact rfl); (case kK => first | assumption | exact rfl); (case k1 => k_asm); (case k2 => k_asm); (case k3 => k_asm); (case k4 => k_asm); (case k5 => k_asm); (case k6 => k_is); (case k7 => k_is); (case k8 => ktr_room); (case k9 => first | exact BindsTo.of_eq rfl | exact binds_K (by k_in) rfl (by k_is) rfl rfl rfl); (case kB => exact rfl); (case kD => decide +kernel); (case c2 => exact rfl); (case c3 => exact rfl); (case c4 => exact rfl); k_whole; intro g' L' h' tk' cells' FG' F' N' Y' B' X' T' l1; (try k_lt l1); k_cells Y'; (try simp only [List.cons_append, List.nil_append] at N'); (try dsimp only); (try k_lift B'); (try k_fold)))
local macro_rules | `(tactic| kst_same) => `(tactic| (intro z h1 h2 h3; (simp only [List.contains_cons, List.contains_nil, Bool.or_false, Bool.or_eq_false_iff, beq_eq_false_iff_ne, ne_eq] at h3); (simp only [List.forall_mem_cons, List.not_mem_nil, false_implies, implies_true, and_true, ne_eq] at h2); (simp [kstB, h1, h2, h3]; done)))
local macro_rules | `(tactic| k_all) => `(tactic| first | assumption | (intro p9 h9; refine LtAll.ne (by assumption) ?_; (repeat (first | exact h9 | exact mem_app3 h9 | refine List.Mem.tail _ ?_)); done))
local macro_rules | `(tactic| k_lt $h:ident) => `(tactic| ((have hk9 := LtAll.of $h); (replace $h := allLt_of $h); (try simp only [AllLt, and_true] at $h:ident)))
local macro_rules | `(tactic| ktr_rel) => `(tactic| (first | (k_unfold; (try dsimp only)) | ((fail_if_success (with_reducible show wpAny _ _ (exec (Stmt.For _ _ _ _ _) _) _ _ _)); (fail_if_success (with_reducible show wpAny _ _ (exec (Stmt.While _ _ _ _) _) _ _ _)); (fail_if_success (with_reducible show wpAny _ _ (pyIter _) _ _ _)); (fail_if_success (with_reducible show InvPostG _ _ _ _ _ _ _ _)); (fail_if_success (with_reducible show KswPost _ _ _ _ _ _ _ _ _ _ _ _ _ _)); (fail_if_success (with_reducible show wpAny _ _ (exec (Stmt.Assign _ (Expr.ListComp _ _ _ _) _) _) _ _ _)); first | walk1 | (dsimp only; walk1))))
local macro_rules | `(tactic| walk_at "subscriptTail Name Constant ref int") => `(tactic| (k_here; k_dflt (first
  | (refine' list_item ?tN ?tm ?t0 ?t1 ?tv ?_ ?ts; (case tN => k_asm); (case tm => k_mem); (case t0 => decide); (case t1 => decide); (case tv => exact rfl); (case ts => with_unfolding_all rfl); k_whole)
  | (refine' tup_item ?tN ?tm ?t0 ?t1 ?tv ?_ ?ts; (case tN => k_asm); (case tm => k_mem); (case t0 => decide); (case t1 => decide); (case tv => exact rfl); (case ts => with_unfolding_all rfl); k_whole))))
local macro_rules | `(tactic| walk_at "subscriptTail Subscript Name Constant Constant ref int") => `(tactic| (k_here; k_dflt (first
  | (refine' list_item ?tN ?tm ?t0 ?t1 ?tv ?_ ?ts; (case tN => k_asm); (case tm => k_mem); (case t0 => decide); (case t1 => decide); (case tv => exact rfl); (case ts => with_unfolding_all rfl); k_whole)
  | (refine' tup_item ?tN ?tm ?t0 ?t1 ?tv ?_ ?ts; (case tN => k_asm); (case tm => k_mem); (case t0 => decide); (case t1 => decide); (case tv => exact rfl); (case ts => with_unfolding_all rfl); k_whole))))
local macro_rules | `(tactic| walk_at "binaryOp Add str str") => `(tactic| (k_here; (try dsimp only); refine add_short 100000 (by decide) (by first | omega | decide) (by first | omega | decide) ?_; intro t9 k9))
local macro_rules | `(tactic| walk_at "call builtin:list.append cons nil") => `(tactic| (k_here; k_dflt (refine' append_K ?k1 ?k2 ?k3 ?_ ?z; (case k1 => k_asm); (case k2 => k_asm); (case k3 => k_upd); (case z => (simp only [List.size_toArray, sizeLine_eq]; omega)); k_whole); intro h' F' N'; (try k_sweep)))
local macro_rules | `(tactic| ksw_same) => `(tactic| (intro z h2 h3; (simp only [storedT, List.contains_cons, List.contains_nil, Bool.or_false, Bool.or_eq_false_iff, beq_eq_false_iff_ne, ne_eq] at h3); (simp only [psT, storedT, List.forall_mem_cons, List.not_mem_nil, false_implies, implies_true, and_true, ne_eq] at h2); (simp [kstB, storedT, h2, h3]; done)))
local macro_rules | `(tactic| kst_mem) => `(tactic| (intro p9 h9; (repeat (first | exact h9 | refine List.Mem.tail _ ?_)); done))
local macro_rules | `(tactic| kst_allIn) => `(tactic| first | exact List.forall_mem_nil _ | (refine List.forall_mem_cons.mpr ⟨by k_mem, ?_⟩; kst_allIn))
local macro_rules | `(tactic| walk_at "call ref cons nil") => `(tactic| (k_here; (with_reducible show wpAny _ _ (call (Value.ref 22) _ _) _ _ _); k_dflt (refine' escape_spec ?k1 ?k2 ?k3 ?k4 ?k5 ?kK ?kx ?kd ?ku ?_; (case k1 => k_asm); (case k2 => k_asm); (case k3 => k_asm); (case k4 => k_asm); (case k5 => k_asm); (case kK => first | exact rfl | assumption); (case kx => first | assumption | omega); (case kd => ktr_room); (case ku => ktr_units); k_whole); intro t9 h9 tk9 F9 N9; (try dsimp only)))
local macro_rules | `(tactic| walk_at "call builtin:len cons nil") => `(tactic| (k_here; (with_reducible show wpAny _ _ (call (Value.builtin "len") [Value.ref _]) _ _ _); k_dflt (refine' kst_len ?k1 ?k2 rfl ?k4 ?_; (case k1 => k_asm); (case k2 => k_mem); (case k4 => omega); k_whole)))
local macro_rules | `(tactic| walk_at "subscriptTail Name Name ref int") => `(tactic| (k_here; k_dflt (refine' list_item ?tN ?tm ?t0 ?t1 ?tv ?_ ?ts; (case tN => k_asm); (case tm => k_mem); (case t0 => omega); (case t1 => omega); (case tv => assumption); (case ts => with_unfolding_all rfl); k_whole)))
set_option maxHeartbeats 8000000 in
theorem tried_spec {prog p : Program} {w : World} {loose : List Str} {mean : ExcName → Option Value} {mg mb : Str → Option Value}
  {dp un : Nat} {gd : Option (List Code)} {cn : Str} {cs : Scope} {a : Addr} {ccd : Value} {cl : List (Str × Addr)} {outer : List Env} {A₀ : Around} {base h₀ : Heap} {L : Addr} {m : Str → Option Value} {s : Shared}
    {Q E : Value → Shared → Prop} {x : Str} {t : Tok} {b : Bool} {news : List (Addr × Obj)}
    (B : Below A₀ base outer h₀) (F : Fr h₀ L s.heap m) (X : (hd.heap_39 w.params).In h₀) (N : News h₀ L s.heap news) (T : Top p loose mean mg mb h₀) (hk : cs.kind = .function) (hx : x.length ≤ 40) (hd : dp + 2 < recursionLimit) (hu : un + 16 < cLine)
    (hret : ∀ (l : Addr) led acc h' tk', Fr h₀ L h' m → News h₀ L h' (led ++ news) → DatIn led (.ref l) (.list (datC acc)) → IsCh b x.cps.toList acc → (∀ p : List Nat × Nat, acc[acc.length - 1]? = some p → stepC b x.cps.toList p = none) → Q (.ref l) { s with heap := h', toks := tk' }) :
    wpAny (model prog w) (ktrTop dp un gd cn cs L a ccd cl outer) (call (.ref 41) [.str x t, .bool b]) Q E s := by
  w_top off
  refine wpAny_call ?_
  k_dflt ktr_enter
  w_strict (repeat' ktr_rel)
  rename Fr _ _ _ _ => F1
  rename News _ _ _ _ => N1
  refine tried_while (x := x) (b := b) F1 N1 ?_ (by kst_all) ?_
  · exact .tuple (.head _) (.cons (.str _ _) (.cons (.int _ _) .nil))
  intro c u h tk hI F2 N2
  obtain ⟨k, tk1, items, ep, tl, acc⟩ := c
  obtain ⟨hch, hdat, hoff, hstat, hroom⟩ := hI
  dsimp only at hch hdat hoff hstat hroom
  clear F1 N1
  simp only [ledT] at N2
  simp only [psT] at F2
  have hxl : x.cps.toList.length = x.length := by simp [Str.length]
  have hil : items.length = acc.length := by have := hdat.length; simpa [datC] using this
  have hoA := off_append (b := news) hoff (by k_all)
  have hlen := hch.len
  by_cases hka : k < acc.length
  · obtain ⟨⟨told, n⟩, hacc⟩ : ∃ p, acc[k]? = some p := ⟨_, List.getElem?_eq_getElem hka⟩
    obtain ⟨ha1, ha2, ha3, ha4⟩ := hch.inv _ _ hacc
    dsimp only at ha1 ha2 ha3 ha4
    obtain ⟨qa, ta, ua, na, hv9, hm9⟩ := datC_get hdat hacc
    dsimp only at hm9
    have hv8 : items[((k : Nat) : Int).toNat]? = some (Value.ref qa) := by simpa using hv9
    have hqa : @Ne Nat qa _ := (List.mem_cons.mp hm9).elim (fun e => by have e1 := congrArg Prod.fst e; dsimp only at e1; rw [e1]; k_ne) (fun hm => hoff _ hm)
    have N3 : News _ _ h ((qa, ({ cls := .type "tuple", data := .seq [Value.str (tx told) ta, .int (n : Int) ua].toArray na } : Obj)) :: _) := fun p hp => by
      rcases List.mem_cons.mp hp with rfl | hp
      · exact N2 _ (.tail _ ((List.mem_cons.mp hm9).elim (fun e => e ▸ .head _) fun hm => .tail _ (List.mem_append.mpr (.inl hm))))
      · exact N2 _ hp
    clear N2
    have htold : (tx told).length ≤ 40 := by rw [tx_length]; omega
    have hk1 : k + 1 = acc.length := by omega
    w_strict (repeat' ktr_rel)
    rename Fr _ _ _ _ => F4
    k_dflt (refine For_invVF F4 rfl rfl ?_)
    w_strict (repeat' ktr_rel)
    · rename Fr _ _ _ _ => F5
      rename News _ _ _ _ => N5
      refine tried_for (b := b) (rest := x.cps.toList.drop n) (told := told) (n := n) (acc₀ := acc) (items := items) (ep := ep) (tl := tl) (news := news) (signs := five ++ ahead (x.cps.toList.drop n)) ?_ rfl F5 N5 hdat hoff ?_ ?_
      · rename (Builtin.Str.occurrences _ _ _ _ _).isEmpty = true => hocc
        rw [(ahead_in rfl).2 hocc, Str.cps_append, Array.toList_append, tx_toList]
        congr 1
      · intro i sg ts c u5 h5 tk5 own hsg hown hI5 F6 N6
        obtain ⟨its5, ep5, tl5, acc5⟩ := c
        clear F5 N5
        simp only [ledS, List.cons_append, List.append_assoc] at N6
        have hl9 : (tx told ++ tx [sg]).length ≤ 300 := by simp only [Str.length_append, tx_length, List.length_cons, List.length_nil] at htold ⊢; omega
        have hsl : (tx [sg]).length = 1 := by rw [tx_length]; rfl
        have hil6 : its5.length ≤ 60 := by have := its_len hI5; omega
        have hesc : (escT b (tx told ++ tx [sg])).length ≤ 246 := by have := escT_len b (tx told ++ tx [sg]); simp only [Str.length_append] at this; omega
        obtain ⟨htr1, htr2⟩ := try_hits (x := x) (b := b) (told := told) (n := n) (k := sg) (esc_sign b told sg) ha2 (by omega)
        have hoff5 : ∀ p ∈ tl5 ++ (news ++ own), p.1 ≠ _ := off_append hI5.off (off_append (by k_all) (hown.ne (.tail _ (.head _))))
        w_strict (repeat' ktr_rel)
        · rename (_ == _) = true => hq
          rename Fr _ _ _ _ => F9
          rename News _ _ _ _ => N9
          exact tried_push hI5 hsg (htr1.symm.trans hq) hown (tx_append _ _) htr2 F9 N9 (by k_mem) (by k_mem) (by k_mem) (by k_mem) (by kst_mem) (by k_ne) (by k_all) (by kst_same)
        · rename (_ == _) = false => hq
          rename Fr _ _ _ _ => F9
          rename News _ _ _ _ => N9
          exact tried_skip hI5 hsg (htr1.symm.trans hq) hown F9 N9 (by k_mem) (by k_mem) (by k_mem) (by kst_mem) (by kst_same)
      · intro c u5 h5 tk5 hI5 F6 N6
        obtain ⟨its5, ep5, tl5, acc5⟩ := c
        clear F5 N5
        simp only [ledS] at N6
        dsimp only
        w_strict (repeat' ktr_rel)
        rename Fr _ _ _ _ => F9
        rename News _ _ _ _ => N9
        exact tried_round hch hacc hk1 hI5 rfl F9 N9 (by k_mem) (by k_mem) (by kst_mem) (by with_unfolding_all rfl) (by ksw_same)
    · rename Fr _ _ _ _ => F5
      rename News _ _ _ _ => N5
      refine tried_for (b := b) (rest := x.cps.toList.drop n) (told := told) (n := n) (acc₀ := acc) (items := items) (ep := ep) (tl := tl) (news := news) (signs := five ++ ahead (x.cps.toList.drop n)) ?_ rfl F5 N5 hdat hoff ?_ ?_
      · rename (Builtin.Str.occurrences _ _ _ _ _).isEmpty = false => hocc
        rw [(ahead_in rfl).1 hocc]
        decide +kernel
      · intro i sg ts c u5 h5 tk5 own hsg hown hI5 F6 N6
        obtain ⟨its5, ep5, tl5, acc5⟩ := c
        clear F5 N5
        simp only [ledS, List.cons_append, List.append_assoc] at N6
        have hl9 : (tx told ++ tx [sg]).length ≤ 300 := by simp only [Str.length_append, tx_length, List.length_cons, List.length_nil] at htold ⊢; omega
        have hsl : (tx [sg]).length = 1 := by rw [tx_length]; rfl
        have hil6 : its5.length ≤ 60 := by have := its_len hI5; omega
        have hesc : (escT b (tx told ++ tx [sg])).length ≤ 246 := by have := escT_len b (tx told ++ tx [sg]); simp only [Str.length_append] at this; omega
        obtain ⟨htr1, htr2⟩ := try_hits (x := x) (b := b) (told := told) (n := n) (k := sg) (esc_sign b told sg) ha2 (by omega)
        have hoff5 : ∀ p ∈ tl5 ++ (news ++ own), p.1 ≠ _ := off_append hI5.off (off_append (by k_all) (hown.ne (.tail _ (.head _))))
        w_strict (repeat' ktr_rel)
        · rename (_ == _) = true => hq
          rename Fr _ _ _ _ => F9
          rename News _ _ _ _ => N9
          exact tried_push hI5 hsg (htr1.symm.trans hq) hown (tx_append _ _) htr2 F9 N9 (by k_mem) (by k_mem) (by k_mem) (by k_mem) (by kst_mem) (by k_ne) (by k_all) (by kst_same)
        · rename (_ == _) = false => hq
          rename Fr _ _ _ _ => F9
          rename News _ _ _ _ => N9
          exact tried_skip hI5 hsg (htr1.symm.trans hq) hown F9 N9 (by k_mem) (by k_mem) (by k_mem) (by kst_mem) (by kst_same)
      · intro c u5 h5 tk5 hI5 F6 N6
        obtain ⟨its5, ep5, tl5, acc5⟩ := c
        clear F5 N5
        simp only [ledS] at N6
        dsimp only
        w_strict (repeat' ktr_rel)
        rename Fr _ _ _ _ => F9
        rename News _ _ _ _ => N9
        exact tried_round hch hacc hk1 hI5 rfl F9 N9 (by k_mem) (by k_mem) (by kst_mem) (by with_unfolding_all rfl) (by ksw_same)
  · w_strict (repeat' ktr_rel)
    rename Fr h₀ _ _ _ => F9
    rename News h₀ _ _ _ => N9
    refine hret _ ((_, listOf items.toArray ep) :: _ :: tl) acc _ _ F9 (fun p hp => N9 p ?_) (.list (.head _) (hdat.mono fun p hp => .tail _ hp)) hch ?_
    · simpa using hp
    · rcases hstat with h9 | h9
      · omega
      · exact h9.2
end
section
set_option maxRecDepth 100000
open PySem PySem.W PyProof.Rows PySem.Calls PySem.Spec
local macro_rules | `(tactic| ktr_enter) => `(tactic| first
  | (refine' code_def ?k1 ?k2 ?k3 ?k4 ?k5 ?kA ?kF ?kK ?k6 ?k7 ?k8 ?k9 ?kB ?_ ?c2 ?c3 ?c4 ?c5; (case kA => exact rfl); (case kF => exact rfl); (case kK => first | assumption | exact rfl); (case k1 => k_asm); (case k2 => k_asm); (case k3 => k_asm); (case k4 => k_asm); (case k5 => k_asm); (case k6 => k_is); (case k7 => k_is); (case k8 => ktr_room); (case k9 => first | exact BindsTo.of_eq rfl | exact binds_K (by k_in) rfl (by k_is) rfl rfl rfl); (case c5 => decide); (case kB => exact locs rfl); (case c2 => exact rfl); (case c3 => exact rfl); (case c4 => exact rfl); k_whole; intro g' L' h' FG' F' N' B' X' T'; (try dsimp only); (try k_lift B'); (try k_fold))
  | (refine' code_defC ?k1 ?k2 ?k3 ?k4 ?k5 ?kA ?kF ?kK ?k6 ?k7 ?k8 ?k9 ?kB ?kD ?_ ?c2 ?c3 ?c4; (case kA => exact rfl); (case kF => exact rfl); (case kK => first | assumption | exact rfl); (case k1 => k_asm); (case k2 => k_asm); (case k3 => k_asm); (case k4 => k_asm); (case k5 => k_asm); (case k6 => k_is); (case k7 => k_is); (case k8 => ktr_room); (case k9 => first | exact BindsTo.of_eq rfl | exact binds_K (by k_in) rfl (by k_is) rfl rfl rfl); (case kB => exact rfl); (case kD => decide +kernel); (case c2 => exact rfl); (case c3 => exact rfl); (case c4 => exact rfl); k_whole; intro g' L' h' tk' cells' FG' F' N' Y' B' X' T' l1; (try k_lt l1); k_cells Y'; (try simp only [List.cons_append, List.nil_append] at N'); (try dsimp only); (try k_lift B'); (try k_fold)))
local macro_rules | `(tactic| kst_same) => `(tactic| (intro z h1 h2 h3; (simp only [List.contains_cons, List.contains_nil, Bool.or_false, Bool.or_eq_false_iff, beq_eq_false_iff_ne, ne_eq] at h3); (simp only [List.forall_mem_cons, List.not_mem_nil, false_implies, implies_true, and_true, ne_eq] at h2); (simp [kstB, h1, h2, h3]; done)))
local macro_rules | `(tactic| k_all) => `(tactic| first | assumption | (intro p9 h9; refine LtAll.ne (by assumption) ?_; (repeat (first | exact h9 | exact mem_app3 h9 | refine List.Mem.tail _ ?_)); done))
local macro_rules | `(tactic| k_lt $h:ident) => `(tactic| ((have hk9 := LtAll.of $h); (replace $h := allLt_of $h); (try simp only [AllLt, and_true] at $h:ident)))
local macro_rules | `(tactic| ktr_rel) => `(tactic| (first | (k_unfold; (try dsimp only)) | ((fail_if_success (with_reducible show wpAny _ _ (exec (Stmt.For _ _ _ _ _) _) _ _ _)); (fail_if_success (with_reducible show wpAny _ _ (exec (Stmt.While _ _ _ _) _) _ _ _)); (fail_if_success (with_reducible show wpAny _ _ (pyIter _) _ _ _)); (fail_if_success (with_reducible show wpAny _ _ (compareOp CmpOp.NotEq (Value.ref _) (Value.ref _)) _ _ _)); (fail_if_success (with_reducible show InvPostG _ _ _ _ _ _ _ _)); (fail_if_success (with_reducible show KswPost _ _ _ _ _ _ _ _ _ _ _ _ _ _)); (fail_if_success (with_reducible show wpAny _ _ (exec (Stmt.Assign _ (Expr.ListComp _ _ _ _) _) _) _ _ _)); first | walk1 | (dsimp only; walk1))))
local macro_rules | `(tactic| walk_at "subscriptTail Name Constant ref int") => `(tactic| (k_here; k_dflt (first
  | (refine' list_item ?tN ?tm ?t0 ?t1 ?tv ?_ ?ts; (case tN => k_asm); (case tm => k_mem); (case t0 => decide); (case t1 => decide); (case tv => exact rfl); (case ts => with_unfolding_all rfl); k_whole)
  | (refine' tup_item ?tN ?tm ?t0 ?t1 ?tv ?_ ?ts; (case tN => k_asm); (case tm => k_mem); (case t0 => decide); (case t1 => decide); (case tv => exact rfl); (case ts => with_unfolding_all rfl); k_whole))))
local macro_rules | `(tactic| walk_at "subscriptTail Subscript Name Constant Constant ref int") => `(tactic| (k_here; k_dflt (first
  | (refine' list_item ?tN ?tm ?t0 ?t1 ?tv ?_ ?ts; (case tN => k_asm); (case tm => k_mem); (case t0 => decide); (case t1 => decide); (case tv => exact rfl); (case ts => with_unfolding_all rfl); k_whole)
  | (refine' tup_item ?tN ?tm ?t0 ?t1 ?tv ?_ ?ts; (case tN => k_asm); (case tm => k_mem); (case t0 => decide); (case t1 => decide); (case tv => exact rfl); (case ts => with_unfolding_all rfl); k_whole))))
local macro_rules | `(tactic| walk_at "binaryOp Add str str") => `(tactic| (k_here; (try dsimp only); refine add_short 100000 (by decide) (by first | omega | decide) (by first | omega | decide) ?_; intro t9 k9))
local macro_rules | `(tactic| walk_at "call builtin:list.append cons nil") => `(tactic| (k_here; k_dflt (refine' append_K ?k1 ?k2 ?k3 ?_ ?z; (case k1 => k_asm); (case k2 => k_asm); (case k3 => k_upd); (case z => (simp only [List.size_toArray, sizeLine_eq]; omega)); k_whole); intro h' F' N'; (try k_sweep)))
local macro_rules | `(tactic| ksw_same) => `(tactic| (intro z h2 h3; (simp only [storedH, List.contains_cons, List.contains_nil, Bool.or_false, Bool.or_eq_false_iff, beq_eq_false_iff_ne, ne_eq] at h3); (simp only [psH, storedH, List.forall_mem_cons, List.not_mem_nil, false_implies, implies_true, and_true, ne_eq] at h2); (simp [kstB, storedH, h2, h3]; done)))
local macro_rules | `(tactic| kst_mem) => `(tactic| (intro p9 h9; (repeat (first | exact h9 | refine List.Mem.tail _ ?_)); done))
local macro_rules | `(tactic| kst_allIn) => `(tactic| first | exact List.forall_mem_nil _ | (refine List.forall_mem_cons.mpr ⟨by k_mem, ?_⟩; kst_allIn))
local macro_rules | `(tactic| walk_at "call ref cons nil") => `(tactic| (k_here; (with_reducible show wpAny _ _ (call (Value.ref 22) _ _) _ _ _); k_dflt (refine' escape_spec ?k1 ?k2 ?k3 ?k4 ?k5 ?kK ?kx ?kd ?ku ?_; (case k1 => k_asm); (case k2 => k_asm); (case k3 => k_asm); (case k4 => k_asm); (case k5 => k_asm); (case kK => first | exact rfl | assumption); (case kx => first | assumption | omega); (case kd => ktr_room); (case ku => ktr_units); k_whole); intro t9 h9 tk9 F9 N9; (try dsimp only)))
local macro_rules | `(tactic| walk_at "call builtin:len cons nil") => `(tactic| (k_here; (with_reducible show wpAny _ _ (call (Value.builtin "len") [Value.ref _]) _ _ _); k_dflt (refine' kst_len ?k1 ?k2 rfl ?k4 ?_; (case k1 => k_asm); (case k2 => k_mem); (case k4 => omega); k_whole)))
local macro_rules | `(tactic| walk_at "subscriptTail Name Name ref int") => `(tactic| (k_here; k_dflt (refine' list_item ?tN ?tm ?t0 ?t1 ?tv ?_ ?ts; (case tN => k_asm); (case tm => k_mem); (case t0 => omega); (case t1 => omega); (case tv => assumption); (case ts => with_unfolding_all rfl); k_whole)))
theorem walk_spec {prog p : Program} {w : World} {loose : List Str} {mean : ExcName → Option Value} {mg mb : Str → Option Value}
  {dp un : Nat} {gd : Option (List Code)} {cn : Str} {cs : Scope} {a : Addr} {ccd : Value} {cl : List (Str × Addr)} {outer : List Env} {A₀ : Around} {base h₀ : Heap} {L : Addr} {m : Str → Option Value} {s : Shared}
    {Q E : Value → Shared → Prop} {x : Str} {t : Tok} {b : Bool} {news : List (Addr × Obj)}
    (B : Below A₀ base outer h₀) (F : Fr h₀ L s.heap m) (X : (hd.heap_39 w.params).In h₀) (N : News h₀ L s.heap news) (T : Top p loose mean mg mb h₀) (hk : cs.kind = .function) (hx : x.length ≤ 40) (hd : dp + 1 < recursionLimit) (hu : un + 8 < cLine)
    (hret : ∀ (l : Addr) led acc h' tk', Fr h₀ L h' m → News h₀ L h' (led ++ news) → DatIn led (.ref l) (.list (datC acc)) → IsCh b x.cps.toList acc → (∀ p : List Nat × Nat, acc[acc.length - 1]? = some p → stepC b x.cps.toList p = none) → Q (.ref l) { s with heap := h', toks := tk' }) :
    wpAny (model prog w) (ktrTop dp un gd cn cs L a ccd cl outer) (call (.ref 34) [.str x t, .bool b]) Q E s := by
  cases b
  · exact walk_spec_false B F X N T hk hx hd hu hret
  · exact walk_spec_true B F X N T hk hx hd hu hret
local macro_rules | `(tactic| walk_at "call ref cons nil") => `(tactic| (k_here; (with_reducible show wpAny _ _ (call (Value.ref 34) _ _) _ _ _); k_dflt (refine' walk_spec ?k1 ?k2 ?k3 ?k4 ?k5 ?kK ?kx ?kd ?ku ?_; (case k1 => k_asm); (case k2 => k_asm); (case k3 => k_asm); (case k4 => k_asm); (case k5 => k_asm); (case kK => first | exact rfl | assumption); (case kx => first | assumption | omega); (case kd => ktr_room); (case ku => ktr_units); k_whole); intro l9 led9 acc9 h9 tk9 F9 N9 hd9 hch9 he9; (try dsimp only)))
local macro_rules | `(tactic| walk_at "call ref cons nil") => `(tactic| (k_here; (with_reducible show wpAny _ _ (call (Value.ref 41) _ _) _ _ _); k_dflt (refine' tried_spec ?k1 ?k2 ?k3 ?k4 ?k5 ?kK ?kx ?kd ?ku ?_; (case k1 => k_asm); (case k2 => k_asm); (case k3 => k_asm); (case k4 => k_asm); (case k5 => k_asm); (case kK => first | exact rfl | assumption); (case kx => first | assumption | omega); (case kd => ktr_room); (case ku => ktr_units); k_whole); intro l8 led8 acc8 h8 tk8 F8 N8 hd8 hch8 he8; (try dsimp only)))
local macro_rules | `(tactic| walk_at "subscriptTail Name UnaryOp ref int") => `(tactic| (k_here; k_dflt (refine' list_last ?tN ?tm ?tv ?_ ?ts; (case tN => k_asm); (case tm => k_mem); (case tv => assumption); (case ts => with_unfolding_all rfl); k_whole)))
set_option maxHeartbeats 8000000 in
theorem holds_spec {prog p : Program} {w : World} {loose : List Str} {mean : ExcName → Option Value} {mg mb : Str → Option Value}
  {dp un : Nat} {gd : Option (List Code)} {cn : Str} {cs : Scope} {a : Addr} {ccd : Value} {cl : List (Str × Addr)} {outer : List Env} {A₀ : Around} {base h₀ : Heap} {L : Addr} {m : Str → Option Value} {s : Shared}
    {Q E : Value → Shared → Prop} {l : List Nat} {t : Tok} {b : Bool} {news : List (Addr × Obj)}
    (B : Below A₀ base outer h₀) (F : Fr h₀ L s.heap m) (X : (hd.heap_39 w.params).In h₀) (N : News h₀ L s.heap news) (T : Top p loose mean mg mb h₀) (hk : cs.kind = .function) (hx : l.length ≤ 40) (hd : dp + 4 < recursionLimit) (hu : un + 24 < cLine)
    (hret : ∀ h' tk', Fr h₀ L h' m → News h₀ L h' news → Q (.bool true) { s with heap := h', toks := tk' }) :
    wpAny (model prog w) (ktrTop dp un gd cn cs L a ccd cl outer) (call (.ref 48) [.str (tx l) t, .bool b]) Q E s := by
  w_top off
  refine wpAny_call ?_
  k_dflt ktr_enter
  w_strict (repeat' ktr_rel)
  rename Fr _ _ _ _ => F1
  rename News _ _ _ _ => N1
  refine holds_while F1 N1 (by kst_all) hx ?_
  intro c u h tk hl F2 N2
  obtain ⟨lt, tt⟩ := c
  dsimp only at hl
  clear F1 N1
  simp only [psH] at F2
  have htl : (tx lt).length ≤ 40 := by rw [tx_length]; exact hl
  w_strict (repeat' ktr_rel)
  · rename_i hne tkA l9 led9 acc9 h9 tk9 hd9 hch9 he9 h10 F10 N10 l8 led8 acc8 h8 tk8 F8 N8 hd8 hch8 he8
    rw [tx_toList] at hch9 hch8
    simp only [tx_toList] at he9 he8
    have hac : acc8 = acc9 := hch8.uniq hch9 he8 he9
    subst hac
    refine ne_chains N8 (hd8.mono fun p hp => List.mem_append.mpr (.inl hp)) (hd9.mono fun p hp => List.mem_append.mpr (.inr (List.mem_append.mpr (.inl hp)))) (by show un + 3 + 2 < cLine; omega) ?_
    have hlen := hch8.len
    obtain ⟨⟨told, n⟩, hp⟩ : ∃ p, acc8[acc8.length - 1]? = some p := ⟨_, List.getElem?_eq_getElem (by omega)⟩
    obtain ⟨i1, i2, i3, i4⟩ := hch8.inv _ _ hp
    dsimp only at i1 i2 i3 i4
    obtain ⟨vs, ep, qa, ta, ua, na, hm1, hvl, hv, hm2⟩ := last_link hd9 hp
    dsimp only at hm2
    have hv' : vs[vs.length - 1]? = some (Value.ref qa) := by rw [hvl]; exact hv
    have N11 : News _ _ h8 ((l9, listOf vs.toArray ep) :: (qa, ({ cls := .type "tuple", data := .seq [Value.str (tx told) ta, .int (n : Int) ua].toArray na } : Obj)) :: news) := fun p hp9 => by
      rcases List.mem_cons.mp hp9 with rfl | hp9
      · exact N8 _ (List.mem_append.mpr (.inr (List.mem_append.mpr (.inl hm1))))
      rcases List.mem_cons.mp hp9 with rfl | hp9
      · exact N8 _ (List.mem_append.mpr (.inr (List.mem_append.mpr (.inl hm2))))
      · exact N8 _ (List.mem_append.mpr (.inr (List.mem_append.mpr (.inr hp9))))
    clear N8 N10 F10
    have htold : (tx told).length ≤ 40 := by rw [tx_length]; omega
    w_strict (repeat' ktr_rel)
    rename Fr _ _ _ _ => F4
    k_dflt (refine For_invVF F4 rfl rfl ?_)
    w_strict (repeat' ktr_rel)
    rename Fr _ _ _ _ => F5
    rename News _ _ _ _ => N5
    rename IsRange _ _ _ _ _ _ _ _ => hR
    refine cut_for ((l9, listOf vs.toArray ep) :: (qa, ({ cls := .type "tuple", data := .seq [Value.str (tx told) ta, .int (n : Int) ua].toArray na } : Obj)) :: news) ?_ rfl hR (small_one (by omega) (by omega) (by omega) (by omega)) (rangeSize_nat _ _) F5 N5 ?_ ?_
    · exact fun p hp9 => hp9
    · intro i ti u5 h5 tk5 own hi F6 N6 hown
      clear F5 N5 hR
      simp only [List.cons_append] at N6
      have hs1 : (Txt.slice (tx told) none (some (i : Int))).length ≤ 40 := Nat.le_trans (Txt.slice_le _ _ _) htold
      have hs2 : (Txt.slice (tx told) (some (i : Int)) none).length ≤ 40 := Nat.le_trans (Txt.slice_le _ _ _) htold
      have he1 := escT_len b (Txt.slice (tx told) none (some (i : Int)))
      have he2 := escT_len b (Txt.slice (tx told) (some (i : Int)) none)
      have hcut := cut_eq (b := b) (told := told) (t := lt) (n := n) (i := i) i2
      w_strict (repeat' ktr_rel)
      · rename (_ != _) = true => hq
        rw [bne, hcut] at hq
        cases hq
      · rename Fr _ _ _ _ => F9
        rename News _ _ _ _ => N9
        exact cut_end F9 N9 (fun p hp9 => (List.mem_append.mpr (.inl hp9) : p ∈ (_ :: _ :: news) ++ own)) (fun p hp9 => (List.mem_append.mpr (.inr hp9) : p ∈ (_ :: _ :: news) ++ own)) hown (fun z hz => by simp [hz])
    · intro u5 h5 tk5 F6 N6
      clear F5 N5 hR
      dsimp only
      w_strict (repeat' ktr_rel)
      rename Fr _ _ _ _ => F9
      rename News _ _ _ _ => N9
      have hne' : lt ≠ [] := fun e => by
        subst e
        have : (tx [] != Str.ofString "") = false := by decide +kernel
        rw [this] at hne
        cases hne
      refine holds_round (n := n) hl hne' ?_ F9 N9 (by kst_mem) (by with_unfolding_all rfl) (by ksw_same)
      rw [slice_sn (by omega), tx_toList]
      congr 1
  · exact hret _ _ (by k_asm) (by k_asm)
end
section
set_option maxRecDepth 100000
open PySem PySem.W PyProof.Rows PySem.Calls PySem.Spec
local macro_rules | `(tactic| ktr_enter) => `(tactic| first
  | (refine' code_def ?k1 ?k2 ?k3 ?k4 ?k5 ?kA ?kF ?kK ?k6 ?k7 ?k8 ?k9 ?kB ?_ ?c2 ?c3 ?c4 ?c5; (case kA => exact rfl); (case kF => exact rfl); (case kK => first | assumption | exact rfl); (case k1 => k_asm); (case k2 => k_asm); (case k3 => k_asm); (case k4 => k_asm); (case k5 => k_asm); (case k6 => k_is); (case k7 => k_is); (case k8 => ktr_room); (case k9 => first | exact BindsTo.of_eq rfl | exact binds_K (by k_in) rfl (by k_is) rfl rfl rfl); (case c5 => decide); (case kB => exact locs rfl); (case c2 => exact rfl); (case c3 => exact rfl); (case c4 => exact rfl); k_whole; intro g' L' h' FG' F' N' B' X' T'; (try dsimp only); (try k_lift B'); (try k_fold))
  | (refine' code_defC ?k1 ?k2 ?k3 ?k4 ?k5 ?kA ?kF ?kK ?k6 ?k7 ?k8 ?k9 ?kB ?kD ?_ ?c2 ?c3 ?c4; (case kA => exact rfl); (case kF => exact rfl); (case kK => first | assumption | exact rfl); (case k1 => k_asm); (case k2 => k_asm); (case k3 => k_asm); (case k4 => k_asm); (case k5 => k_asm); (case k6 => k_is); (case k7 => k_is); (case k8 => ktr_room); (case k9 => first | exact BindsTo.of_eq rfl | exact binds_K (by k_in) rfl (by k_is) rfl rfl rfl); (case kB => exact rfl); (case kD => decide +kernel); (case c2 => exact rfl); (case c3 => exact rfl); (case c4 => exact rfl); k_whole; intro g' L' h' tk' cells' FG' F' N' Y' B' X' T' l1; (try k_lt l1); k_cells Y'; (try simp only [List.cons_append, List.nil_append] at N'); (try dsimp only); (try k_lift B'); (try k_fold)))
local macro_rules | `(tactic| kst_same) => `(tactic| (intro z h1 h2 h3; (simp only [List.contains_cons, List.contains_nil, Bool.or_false, Bool.or_eq_false_iff, beq_eq_false_iff_ne, ne_eq] at h3); (simp only [List.forall_mem_cons, List.not_mem_nil, false_implies, implies_true, and_true, ne_eq] at h2); (simp [kstB, h1, h2, h3]; done)))
local macro_rules | `(tactic| k_all) => `(tactic| first | assumption | (intro p9 h9; refine LtAll.ne (by assumption) ?_; (repeat (first | exact h9 | exact mem_app3 h9 | refine List.Mem.tail _ ?_)); done))
local macro_rules | `(tactic| k_lt $h:ident) => `(tactic| ((have hk9 := LtAll.of $h); (replace $h := allLt_of $h); (try simp only [AllLt, and_true] at $h:ident)))
local macro_rules | `(tactic| ktr_rel) => `(tactic| (first | (k_unfold; (try dsimp only)) | ((fail_if_success (with_reducible show wpAny _ _ (exec (Stmt.For _ _ _ _ _) _) _ _ _)); (fail_if_success (with_reducible show wpAny _ _ (exec (Stmt.While _ _ _ _) _) _ _ _)); (fail_if_success (with_reducible show wpAny _ _ (pyIter _) _ _ _)); (fail_if_success (with_reducible show wpAny _ _ (compareOp CmpOp.NotEq (Value.ref _) (Value.ref _)) _ _ _)); (fail_if_success (with_reducible show InvPostG _ _ _ _ _ _ _ _)); (fail_if_success (with_reducible show KswPost _ _ _ _ _ _ _ _ _ _ _ _ _ _)); (fail_if_success (with_reducible show wpAny _ _ (exec (Stmt.Assign _ (Expr.ListComp _ _ _ _) _) _) _ _ _)); first | walk1 | (dsimp only; walk1))))
local macro_rules | `(tactic| walk_at "subscriptTail Name Constant ref int") => `(tactic| (k_here; k_dflt (first
  | (refine' list_item ?tN ?tm ?t0 ?t1 ?tv ?_ ?ts; (case tN => k_asm); (case tm => k_mem); (case t0 => decide); (case t1 => decide); (case tv => exact rfl); (case ts => with_unfolding_all rfl); k_whole)
  | (refine' tup_item ?tN ?tm ?t0 ?t1 ?tv ?_ ?ts; (case tN => k_asm); (case tm => k_mem); (case t0 => decide); (case t1 => decide); (case tv => exact rfl); (case ts => with_unfolding_all rfl); k_whole))))
local macro_rules | `(tactic| walk_at "subscriptTail Subscript Name Constant Constant ref int") => `(tactic| (k_here; k_dflt (first
  | (refine' list_item ?tN ?tm ?t0 ?t1 ?tv ?_ ?ts; (case tN => k_asm); (case tm => k_mem); (case t0 => decide); (case t1 => decide); (case tv => exact rfl); (case ts => with_unfolding_all rfl); k_whole)
  | (refine' tup_item ?tN ?tm ?t0 ?t1 ?tv ?_ ?ts; (case tN => k_asm); (case tm => k_mem); (case t0 => decide); (case t1 => decide); (case tv => exact rfl); (case ts => with_unfolding_all rfl); k_whole))))
local macro_rules | `(tactic| walk_at "binaryOp Add str str") => `(tactic| (k_here; (try dsimp only); refine add_short 100000 (by decide) (by first | omega | decide) (by first | omega | decide) ?_; intro t9 k9))
local macro_rules | `(tactic| walk_at "call builtin:list.append cons nil") => `(tactic| (k_here; k_dflt (refine' append_K ?k1 ?k2 ?k3 ?_ ?z; (case k1 => k_asm); (case k2 => k_asm); (case k3 => k_upd); (case z => (simp only [List.size_toArray, sizeLine_eq]; omega)); k_whole); intro h' F' N'; (try k_sweep)))
local macro_rules | `(tactic| ksw_same) => `(tactic| (intro z h2 h3; (simp only [storedH, List.contains_cons, List.contains_nil, Bool.or_false, Bool.or_eq_false_iff, beq_eq_false_iff_ne, ne_eq] at h3); (simp only [psH, storedH, List.forall_mem_cons, List.not_mem_nil, false_implies, implies_true, and_true, ne_eq] at h2); (simp [kstB, storedH, h2, h3]; done)))
local macro_rules | `(tactic| kst_mem) => `(tactic| (intro p9 h9; (repeat (first | exact h9 | refine List.Mem.tail _ ?_)); done))
local macro_rules | `(tactic| kst_allIn) => `(tactic| first | exact List.forall_mem_nil _ | (refine List.forall_mem_cons.mpr ⟨by k_mem, ?_⟩; kst_allIn))
local macro_rules | `(tactic| walk_at "call ref cons nil") => `(tactic| (k_here; (with_reducible show wpAny _ _ (call (Value.ref 22) _ _) _ _ _); k_dflt (refine' escape_spec ?k1 ?k2 ?k3 ?k4 ?k5 ?kK ?kx ?kd ?ku ?_; (case k1 => k_asm); (case k2 => k_asm); (case k3 => k_asm); (case k4 => k_asm); (case k5 => k_asm); (case kK => first | exact rfl | assumption); (case kx => first | assumption | omega); (case kd => ktr_room); (case ku => ktr_units); k_whole); intro t9 h9 tk9 F9 N9; (try dsimp only)))
local macro_rules | `(tactic| walk_at "call builtin:len cons nil") => `(tactic| (k_here; (with_reducible show wpAny _ _ (call (Value.builtin "len") [Value.ref _]) _ _ _); k_dflt (refine' kst_len ?k1 ?k2 rfl ?k4 ?_; (case k1 => k_asm); (case k2 => k_mem); (case k4 => omega); k_whole)))
local macro_rules | `(tactic| walk_at "subscriptTail Name Name ref int") => `(tactic| (k_here; k_dflt (refine' list_item ?tN ?tm ?t0 ?t1 ?tv ?_ ?ts; (case tN => k_asm); (case tm => k_mem); (case t0 => omega); (case t1 => omega); (case tv => assumption); (case ts => with_unfolding_all rfl); k_whole)))
theorem drawn_len (y : Str) : (Str.ofString "\"&#x27;<" ++ Txt.slice y none (some 30)).length ≤ 40 := by
  have h1 : (Str.ofString "\"&#x27;<").length = 8 := by decide +kernel
  rw [Str.length_append, h1, slice_ns (by decide), tx_length, List.length_take]
  omega
theorem holds_specS {prog p : Program} {w : World} {loose : List Str} {mean : ExcName → Option Value} {mg mb : Str → Option Value}
  {dp un : Nat} {gd : Option (List Code)} {cn : Str} {cs : Scope} {a : Addr} {ccd : Value} {cl : List (Str × Addr)} {outer : List Env} {A₀ : Around} {base h₀ : Heap} {L : Addr} {m : Str → Option Value} {s : Shared}
    {Q E : Value → Shared → Prop} {x : Str} {t : Tok} {b : Bool} {news : List (Addr × Obj)}
    (B : Below A₀ base outer h₀) (F : Fr h₀ L s.heap m) (X : (hd.heap_39 w.params).In h₀) (N : News h₀ L s.heap news) (T : Top p loose mean mg mb h₀) (hk : cs.kind = .function) (hx : x.length ≤ 40) (hd : dp + 4 < recursionLimit) (hu : un + 24 < cLine)
    (hret : ∀ h' tk', Fr h₀ L h' m → News h₀ L h' news → Q (.bool true) { s with heap := h', toks := tk' }) :
    wpAny (model prog w) (ktrTop dp un gd cn cs L a ccd cl outer) (call (.ref 48) [.str x t, .bool b]) Q E s := by
  rw [← tx_cps x]
  exact holds_spec B F X N T hk (by simpa [Str.length] using hx) hd hu hret
local macro_rules | `(tactic| walk_at "call ref cons nil") => `(tactic| (k_here; (with_reducible show wpAny _ _ (call (Value.ref 29) _ _) _ _ _); k_dflt (refine' text_spec ?k1 ?k2 ?k3 ?k4 ?k5 ?kK ?ki ?kx ?kd ?ku ?_; (case k1 => k_asm); (case k2 => k_asm); (case k3 => k_asm); (case k4 => k_asm); (case k5 => k_asm); (case kK => first | exact rfl | assumption); (case ki => first | assumption | l_ints); (case kx => first | assumption | omega); (case kd => ktr_room); (case ku => ktr_units); k_whole); intro x9 t9 h9 tk9 hx9 F9 N9; (try dsimp only)))
local macro_rules | `(tactic| walk_at "call ref cons nil") => `(tactic| (k_here; (with_reducible show wpAny _ _ (call (Value.ref 48) _ _) _ _ _); k_dflt (refine' holds_specS ?k1 ?k2 ?k3 ?k4 ?k5 ?kK ?kx ?kd ?ku ?_; (case k1 => k_asm); (case k2 => k_asm); (case k3 => k_asm); (case k4 => k_asm); (case k5 => k_asm); (case kK => first | exact rfl | assumption); (case kx => exact drawn_len _); (case kd => ktr_room); (case ku => ktr_units); k_whole); intro h9 tk9 F9 N9; (try dsimp only)))
set_option maxHeartbeats 8000000 in
theorem fin : PySem.Challenge.rw_dz0044_01.Holds := Mine.hd (by
  k_go0
  (all_goals try k_fold)
  w_strict (repeat' ktr_rel)
  all_goals (k_end; wrow_close))
end
end Mine
theorem PySem.Challenge.cw_dz0044_01_holds : PySem.Challenge.rw_dz0044_01.Holds := by
  exact Mine.fin
