import PyProof.Rows.All
import Wide.All
import OpenK.AllK
import Wide.FinOn
import PySem.Challenge.RW_dz0044_02
open PySem PySem.W PyProof.Rows PySem.Calls PySem.Spec
set_option Elab.async false
namespace Mine
set_option maxRecDepth 100000 in
set_option maxHeartbeats 8000000 in
open_top hd for PySem.Challenge.rw_dz0044_02
section
open PySem PySem.W PyProof.Rows PySem.Calls PySem.Spec
/-- a text from its signs -/
def tx (l : List Nat) : Str := ⟨l.toArray⟩
theorem tx_cps (x : Str) : tx x.cps.toList = x := by cases x; simp [tx]
theorem tx_inj {a b : List Nat} (h : tx a = tx b) : a = b := by
  have := congrArg (fun x : Str => x.cps.toList) h
  simpa [tx] using this
theorem tx_toList (l : List Nat) : (tx l).cps.toList = l := by simp [tx]
theorem tx_length (l : List Nat) : (tx l).length = l.length := by simp [tx, Str.length]
theorem tx_append (a b : List Nat) : tx a ++ tx b = tx (a ++ b) := by
  refine Str.ext' ?_
  rw [Str.cps_append]
  simp [tx]
theorem tx_ext {x : Str} {l : List Nat} (h : x.cps.toList = l) : x = tx l := by rw [← h, tx_cps]

/-- each sign c turned into z -/
def sub1 (c : Nat) (z : List Nat) (l : List Nat) : List Nat := l.flatMap fun k => if k = c then z else [k]
theorem sub1_free (c : Nat) (z l : List Nat) (h : c ∉ l) : sub1 c z l = l := by
  induction l with
  | nil => rfl
  | cons k r ih =>
    have h1 : ¬ k = c := fun e => h (e ▸ List.mem_cons_self ..)
    have h2 : c ∉ r := fun m => h (List.mem_cons_of_mem _ m)
    have := ih h2
    simp only [sub1, List.flatMap_cons, if_neg h1] at this ⊢
    rw [this]; rfl
theorem sub1_join (c : Nat) (z : List Nat) : ∀ parts : List Str, (∀ p ∈ parts, c ∉ p.cps.toList) → sub1 c z (Str.join ⟨#[c]⟩ parts).cps.toList = (Str.join (tx z) parts).cps.toList
  | [], _ => rfl
  | [p], h => sub1_free c z _ (h p (List.mem_singleton.mpr rfl))
  | p :: q :: r, h => by
    have ih := sub1_join c z (q :: r) fun a ha => h a (List.mem_cons_of_mem _ ha)
    show sub1 c z (p ++ ⟨#[c]⟩ ++ Str.join ⟨#[c]⟩ (q :: r)).cps.toList = (p ++ tx z ++ Str.join (tx z) (q :: r)).cps.toList
    simp only [Str.cps_append, Array.toList_append]
    rw [← ih, tx_toList]
    have hp := sub1_free c z _ (h p (List.mem_cons_self ..))
    simp only [sub1, List.flatMap_append] at hp ⊢
    rw [hp]
    simp
theorem replace_tx (c : Nat) (z l : List Nat) : Txt.replace (tx l) ⟨#[c]⟩ (tx z) = tx (sub1 c z l) := by
  refine tx_ext ?_
  rw [StrLaws.replace_one, ← sub1_join c z _ (StrLaws.split_free _ c), StrLaws.join_split, tx_toList]

/-- what escape writes for a sign -/
def wr (b : Bool) (c : Nat) : List Nat :=
  if c = 38 then [38, 97, 109, 112, 59] else if c = 60 then [38, 108, 116, 59] else if c = 62 then [38, 103, 116, 59]
  else if b = true ∧ c = 34 then [38, 113, 117, 111, 116, 59] else if b = true ∧ c = 39 then [38, 35, 120, 50, 55, 59] else [c]
def wrs (b : Bool) (l : List Nat) : List Nat := l.flatMap (wr b)
def escT (b : Bool) (x : Str) : Str :=
  let y := Txt.replace (Txt.replace (Txt.replace x (Str.ofString "&") (Str.ofString "&amp;")) (Str.ofString "<") (Str.ofString "&lt;")) (Str.ofString ">") (Str.ofString "&gt;")
  if b then Txt.replace (Txt.replace y (Str.ofString "\"") (Str.ofString "&quot;")) (Str.ofString "'") (Str.ofString "&#x27;") else y
theorem repl_of {x y z : Str} {c : Nat} {l zs : List Nat} (hx : x = tx l) (hy : y = ⟨#[c]⟩) (hz : z = tx zs) : Txt.replace x y z = tx (sub1 c zs l) := by
  rw [hx, hy, hz, replace_tx]
def sb (c : Nat) (z : List Nat) : Nat → List Nat := fun k => if k = c then z else [k]
theorem sub1_flat (c : Nat) (z : List Nat) (f : Nat → List Nat) (l : List Nat) : sub1 c z (l.flatMap f) = l.flatMap fun k => (f k).flatMap (sb c z) := by
  simp only [sub1, List.flatMap_assoc]; rfl
theorem escT_tx (b : Bool) (l : List Nat) : escT b (tx l) = tx (wrs b l) := by
  have e1 : Str.ofString "&" = ⟨#[38]⟩ := by decide +kernel
  have e2 : Str.ofString "&amp;" = tx [38, 97, 109, 112, 59] := by decide +kernel
  have e3 : Str.ofString "<" = ⟨#[60]⟩ := by decide +kernel
  have e4 : Str.ofString "&lt;" = tx [38, 108, 116, 59] := by decide +kernel
  have e5 : Str.ofString ">" = ⟨#[62]⟩ := by decide +kernel
  have e6 : Str.ofString "&gt;" = tx [38, 103, 116, 59] := by decide +kernel
  have e7 : Str.ofString "\"" = ⟨#[34]⟩ := by decide +kernel
  have e8 : Str.ofString "&quot;" = tx [38, 113, 117, 111, 116, 59] := by decide +kernel
  have e9 : Str.ofString "'" = ⟨#[39]⟩ := by decide +kernel
  have e10 : Str.ofString "&#x27;" = tx [38, 35, 120, 50, 55, 59] := by decide +kernel
  have h0 : l = l.flatMap fun k => [k] := by simp
  have key : ∀ k, (((([k] : List Nat).flatMap (sb 38 [38, 97, 109, 112, 59])).flatMap (sb 60 [38, 108, 116, 59])).flatMap (sb 62 [38, 103, 116, 59])) = wr false k := by
    intro k
    by_cases h1 : k = 38
    · subst h1; decide
    by_cases h2 : k = 60
    · subst h2; decide
    by_cases h3 : k = 62
    · subst h3; decide
    simp [wr, sb, h1, h2, h3]
  have key2 : ∀ k, (((wr false k).flatMap (sb 34 [38, 113, 117, 111, 116, 59])).flatMap (sb 39 [38, 35, 120, 50, 55, 59])) = wr true k := by
    intro k
    by_cases h1 : k = 38
    · subst h1; decide
    by_cases h2 : k = 60
    · subst h2; decide
    by_cases h3 : k = 62
    · subst h3; decide
    by_cases h4 : k = 34
    · subst h4; decide
    by_cases h5 : k = 39
    · subst h5; decide
    simp [wr, sb, h1, h2, h3, h4, h5]
  have base : Txt.replace (Txt.replace (Txt.replace (tx l) (Str.ofString "&") (Str.ofString "&amp;")) (Str.ofString "<") (Str.ofString "&lt;")) (Str.ofString ">") (Str.ofString "&gt;") = tx (wrs false l) := by
    rw [repl_of (repl_of (repl_of rfl e1 e2) e3 e4) e5 e6]
    congr 1
    conv => lhs; rw [h0]
    rw [sub1_flat, sub1_flat, sub1_flat]
    simp only [key]
    rfl
  unfold escT
  rw [base]
  cases b with
  | false => rfl
  | true =>
    simp only [if_true]
    rw [repl_of (repl_of rfl e7 e8) e9 e10]
    congr 1
    unfold wrs
    rw [sub1_flat, sub1_flat]
    simp only [key2]
theorem wr_len (b : Bool) (c : Nat) : 1 ≤ (wr b c).length ∧ (wr b c).length ≤ 6 := by
  unfold wr
  repeat' split
  all_goals simp
theorem wrs_len (b : Bool) (l : List Nat) : (wrs b l).length ≤ 6 * l.length := by
  induction l with
  | nil => simp [wrs]
  | cons c r ih =>
    have := (wr_len b c).2
    simp only [wrs, List.flatMap_cons, List.length_append, List.length_cons] at ih ⊢
    omega
theorem wrs_append (b : Bool) (l r : List Nat) : wrs b (l ++ r) = wrs b l ++ wrs b r := by simp [wrs]
theorem escT_eq (b : Bool) (x : Str) : escT b x = tx (wrs b x.cps.toList) := by
  rw [← escT_tx, tx_cps]
theorem escT_len (b : Bool) (x : Str) : (escT b x).length ≤ 6 * x.length := by
  rw [escT_eq, tx_length]
  have := wrs_len b x.cps.toList
  simpa [Str.length] using this
/-- a rough bound on one replacement's length -/
theorem repl_len {x y z : Str} {n k : Nat} {c : Nat} (hy : y = ⟨#[c]⟩) (hx : x.length ≤ n) (hz : z.length ≤ k + 1) : (Txt.replace x y z).length ≤ n * (k + 1) := by
  rw [repl_of (l := x.cps.toList) (zs := z.cps.toList) (tx_cps x).symm hy (tx_cps z).symm, tx_length]
  have hz' : z.cps.toList.length ≤ k + 1 := by simpa [Str.length] using hz
  have hx' : x.cps.toList.length ≤ n := by simpa [Str.length] using hx
  refine Nat.le_trans ?_ (Nat.mul_le_mul_right _ hx')
  generalize x.cps.toList = l
  induction l with
  | nil => simp [sub1]
  | cons a r ih =>
    simp only [sub1, List.flatMap_cons, List.length_append, List.length_cons, Nat.add_mul] at ih ⊢
    split
    · omega
    · simp only [List.length_cons, List.length_nil]; omega
end
section
open PySem PySem.W PyProof.Rows PySem.Calls PySem.Spec PySem.Builtin PySem.Builtin.Str
theorem slice_ss {x : Str} {i j : Int} (hi : 0 ≤ i) (hj : 0 ≤ j) : Txt.slice x (some i) (some j) = tx ((x.cps.toList.drop i.toNat).take (j.toNat - i.toNat)) := by
  obtain ⟨a, rfl⟩ := Int.eq_ofNat_of_zero_le hi
  obtain ⟨b, rfl⟩ := Int.eq_ofNat_of_zero_le hj
  have hl : x.cps.toList.length = x.length := by simp [PySem.Str.length]
  have a1 : ¬ ((a : Int) < 0) := by omega
  have b1 : ¬ ((b : Int) < 0) := by omega
  simp only [Int.toNat_natCast]
  by_cases h : min a x.length ≤ min b x.length
  · have e : strSliceIndices (some (a : Int)) (some (b : Int)) 1 x.length = strSliceIndices (some ((min a x.length : Nat) : Int)) (some ((min b x.length : Nat) : Int)) 1 x.length := by
      have a2 : ¬ (((min a x.length : Nat) : Int) < 0) := by omega
      have b2 : ¬ (((min b x.length : Nat) : Int) < 0) := by omega
      have e1 : max (0 : Int) (min (a : Int) (x.length : Int)) = max (0 : Int) (min ((min a x.length : Nat) : Int) (x.length : Int)) := by omega
      have e2 : max (0 : Int) (min (b : Int) (x.length : Int)) = max (0 : Int) (min ((min b x.length : Nat) : Int) (x.length : Int)) := by omega
      simp only [strSliceIndices, a1, a2, b1, b2, if_false, e1, e2, show ((1 : Int) > 0) = True from eq_true (by decide), if_true]
    have key : Txt.slice x (some (a : Int)) (some (b : Int)) = StrLaws.sliceText x (some ((min a x.length : Nat) : Int)) (some ((min b x.length : Nat) : Int)) := by
      unfold Txt.slice StrLaws.sliceText
      rw [e]
    rw [key, StrLaws.sliceText_nat x h (by omega)]
    show tx _ = tx _
    congr 1
    by_cases ha : a ≤ x.length
    · rw [Nat.min_eq_left ha]
      by_cases hb : b ≤ x.length
      · rw [Nat.min_eq_left hb]
      · rw [Nat.min_eq_right (by omega), List.take_of_length_le (by rw [List.length_drop]; omega), List.take_of_length_le (by rw [List.length_drop]; omega)]
    · rw [List.drop_eq_nil_of_le (by omega), List.drop_eq_nil_of_le (by omega)]
      simp
  · have hab : b < a ∧ b < x.length := by omega
    have e : strSliceIndices (some (a : Int)) (some (b : Int)) 1 x.length = [] := by
      simp only [strSliceIndices, a1, b1, if_false, show ((1 : Int) > 0) = True from eq_true (by decide), if_true]
      unfold sliceRange
      have : ((max (0 : Int) (min (b : Int) (x.length : Int))) - (max (0 : Int) (min (a : Int) (x.length : Int)))) ≤ 0 := by omega
      simp only [show ((1 : Int) > 0) = True from eq_true (by decide), if_true]
      split <;> simp <;> omega
    unfold Txt.slice
    rw [e, if_neg (by simp; omega)]
    show tx _ = tx _
    have z : b - a = 0 := by omega
    rw [z]
    rfl
theorem slice_ns {x : Str} {j : Int} (hj : 0 ≤ j) : Txt.slice x none (some j) = tx (x.cps.toList.take j.toNat) := by
  have e : Txt.slice x none (some j) = Txt.slice x (some 0) (some j) := by unfold Txt.slice; rw [StrLaws.sliceIdx_none_lo]
  rw [e, slice_ss (Int.le_refl 0) hj]
  simp
theorem slice_sn {x : Str} {i : Int} (hi : 0 ≤ i) : Txt.slice x (some i) none = tx (x.cps.toList.drop i.toNat) := by
  have hl : x.cps.toList.length = x.length := by simp [PySem.Str.length]
  have e : Txt.slice x (some i) none = Txt.slice x (some i) (some (x.length : Int)) := by unfold Txt.slice; rw [StrLaws.sliceIdx_none_hi]
  rw [e, slice_ss hi (by omega), List.take_of_length_le (by rw [List.length_drop]; omega)]
theorem item_at {x : Str} {i c : Nat} (h : x.cps.toList[i]? = some c) : Txt.item x (i : Int) = tx [c] := by
  have h' : x.cps[i]? = some c := by simpa using h
  have hlt : i < x.length := by
    have := (List.getElem?_eq_some_iff.mp h).1
    simpa [PySem.Str.length] using this
  unfold Txt.item Txt.charAt seqIndex?
  simp only [show ¬ ((i : Int) < 0) by omega, if_false]
  rw [if_pos (by simp; omega)]
  simp [h', tx]
end
section
open PySem PySem.W PyProof.Rows PySem.Calls PySem.Spec
/-- the writing of S stands in the writing of l at p -/
def hit (b : Bool) (S l : List Nat) (p : Nat) : Bool := ((wrs b l).drop p).take (wrs b S).length == wrs b S
theorem take_pre {A B : List Nat} : (B.take A.length == A) = true ↔ A <+: B := by
  rw [beq_iff_eq]
  constructor
  · intro h; rw [← h]; exact List.take_prefix _ _
  · rintro ⟨C, rfl⟩; simp
theorem wrs_cons (b : Bool) (c : Nat) (l : List Nat) : wrs b (c :: l) = wr b c ++ wrs b l := by simp [wrs]
theorem wr_ne (b : Bool) (c : Nat) : wr b c ≠ [] := fun e => by have := (wr_len b c).1; rw [e] at this; simp at this
/-- a sign that is written as itself -/
def plain (b : Bool) (c : Nat) : Prop := wr b c = [c]
theorem wr_cases (b : Bool) (c : Nat) : (plain b c ∧ c ≠ 38) ∨ ∃ d r, wr b c = 38 :: d :: r ∧ ((c = 38 ∧ d = 97) ∨ (c = 60 ∧ d = 108) ∨ (c = 62 ∧ d = 103) ∨ (c = 34 ∧ d = 113) ∨ (c = 39 ∧ d = 35)) := by
  unfold plain
  by_cases h1 : c = 38
  · subst h1; exact .inr ⟨_, _, rfl, by simp⟩
  by_cases h2 : c = 60
  · subst h2; exact .inr ⟨_, _, rfl, by simp⟩
  by_cases h3 : c = 62
  · subst h3; exact .inr ⟨_, _, rfl, by simp⟩
  by_cases h4 : b = true ∧ c = 34
  · obtain ⟨rfl, rfl⟩ := h4; exact .inr ⟨_, _, rfl, by simp⟩
  by_cases h5 : b = true ∧ c = 39
  · obtain ⟨rfl, rfl⟩ := h5; exact .inr ⟨_, _, rfl, by simp⟩
  · exact .inl ⟨by simp [wr, h1, h2, h3, h4, h5], h1⟩
theorem wr_inj {b : Bool} {s t : Nat} {A B : List Nat} (h : wr b s ++ A <+: wr b t ++ B) : s = t := by
  rcases wr_cases b s with ⟨hs, hs8⟩ | ⟨d, r, hs, hd⟩ <;> rcases wr_cases b t with ⟨ht, ht8⟩ | ⟨e, r', ht, he⟩
  · unfold plain at hs ht
    rw [hs, ht] at h
    exact (List.cons_prefix_cons.mp h).1
  · unfold plain at hs
    rw [hs, ht] at h
    exact absurd (List.cons_prefix_cons.mp h).1 hs8
  · unfold plain at ht
    rw [hs, ht] at h
    exact absurd (List.cons_prefix_cons.mp h).1.symm ht8
  · rw [hs, ht] at h
    have h2 := (List.cons_prefix_cons.mp (List.cons_prefix_cons.mp h).2).1
    omega
theorem pre_wrs {b : Bool} : ∀ {S T : List Nat}, wrs b S <+: wrs b T ↔ S <+: T
  | [], T => by simp [wrs]
  | s :: S, [] => by
    rw [wrs_cons]
    constructor
    · intro h
      have h1 : wr b s ++ wrs b S = [] := List.prefix_nil.mp h
      exact absurd (List.append_eq_nil_iff.mp h1).1 (wr_ne b s)
    · intro h; exact absurd (List.prefix_nil.mp h) (by simp)
  | s :: S, t :: T => by
    rw [wrs_cons, wrs_cons, List.cons_prefix_cons]
    constructor
    · intro h
      have e := wr_inj h
      subst e
      exact ⟨rfl, pre_wrs.mp ((List.prefix_append_right_inj _).mp h)⟩
    · rintro ⟨rfl, h⟩
      exact (List.prefix_append_right_inj _).mpr (pre_wrs.mpr h)
theorem pre_tail {b : Bool} : ∀ {tail S T : List Nat}, (∀ d ∈ tail, plain b d ∧ d ≠ 38) → (wrs b S <+: tail ++ wrs b T ↔ (S.take tail.length = tail.take S.length ∧ S.drop tail.length <+: T))
  | [], S, T, _ => by simpa using pre_wrs
  | d :: tail, [], T, _ => by simp [wrs]
  | d :: tail, s :: S, T, h => by
    have ih := pre_tail (S := S) (T := T) fun e he => h e (.tail _ he)
    obtain ⟨hd, hd8⟩ := h d (.head _)
    rw [wrs_cons]
    simp only [List.length_cons, List.take_succ_cons, List.drop_succ_cons, List.cons.injEq, List.cons_append]
    rcases wr_cases b s with ⟨hs, hs8⟩ | ⟨e, r, hs, he⟩
    · unfold plain at hs
      rw [hs, List.cons_append, List.nil_append, List.cons_prefix_cons, ih, and_assoc]
    · constructor
      · intro hp
        rw [hs] at hp
        exact absurd (List.cons_prefix_cons.mp hp).1.symm hd8
      · rintro ⟨⟨rfl, _⟩, _⟩
        unfold plain at hd
        rw [hd] at hs
        simp at hs
theorem drop_plain {b : Bool} {c k : Nat} (hk : 1 ≤ k) : ∀ d ∈ (wr b c).drop k, plain b d ∧ d ≠ 38 := by
  have key : ∀ d ∈ (wr b c).drop 1, plain b d ∧ d ≠ 38 := by
    rcases wr_cases b c with ⟨h, _⟩ | ⟨e, r, h, he⟩
    · unfold plain at h; rw [h]; simp
    · rcases he with ⟨rfl, _⟩ | ⟨rfl, _⟩ | ⟨rfl, _⟩ | ⟨rfl, _⟩ | ⟨rfl, _⟩ <;> cases b <;> simp [wr, plain]
  intro d hd
  obtain ⟨j, rfl⟩ : ∃ j, k = 1 + j := ⟨k - 1, by omega⟩
  rw [← List.drop_drop] at hd
  exact key d (List.mem_of_mem_drop hd)
theorem drop_wrs {b : Bool} {l : List Nat} {i c k : Nat} (h : l[i]? = some c) (hk : k ≤ (wr b c).length) : (wrs b l).drop ((wrs b (l.take i)).length + k) = (wr b c).drop k ++ wrs b (l.drop (i + 1)) := by
  obtain ⟨hlt, e⟩ := List.getElem?_eq_some_iff.mp h
  have hl : l = l.take i ++ c :: l.drop (i + 1) := by
    rw [← e, ← List.drop_eq_getElem_cons hlt, List.take_append_drop]
  have hw : wrs b l = wrs b (l.take i) ++ (wr b c ++ wrs b (l.drop (i + 1))) := by
    conv => lhs; rw [hl]
    rw [wrs_append, wrs_cons]
  rw [hw, ← List.drop_drop, List.drop_left, List.drop_append_of_le_length hk]
theorem hit_zero {b : Bool} {S l : List Nat} {i c : Nat} (h : l[i]? = some c) : hit b S l (wrs b (l.take i)).length = ((l.drop i).take S.length == S) := by
  have hd := drop_wrs (b := b) h (Nat.zero_le _)
  rw [Nat.add_zero, List.drop_zero, ← wrs_cons] at hd
  have hc : l.drop i = c :: l.drop (i + 1) := by
    obtain ⟨hlt, e⟩ := List.getElem?_eq_some_iff.mp h
    rw [← e]; exact List.drop_eq_getElem_cons hlt
  rw [← hc] at hd
  rw [Bool.eq_iff_iff]
  unfold hit
  rw [take_pre, take_pre, hd, pre_wrs]
theorem hit_in {b : Bool} {S l : List Nat} {i c k : Nat} (h : l[i]? = some c) (h1 : 1 ≤ k) (h2 : k ≤ (wr b c).length) :
    hit b S l ((wrs b (l.take i)).length + k) = (S.take ((wr b c).drop k).length == ((wr b c).drop k).take S.length && (l.drop (i + 1)).take (S.drop ((wr b c).drop k).length).length == S.drop ((wr b c).drop k).length) := by
  rw [Bool.eq_iff_iff, Bool.and_eq_true, take_pre, beq_iff_eq]
  unfold hit
  rw [take_pre, drop_wrs h h2, pre_tail (drop_plain h1)]
/-- the places up to n -/
def found (b : Bool) (S l : List Nat) (n : Nat) : List Int := ((List.range n).filter (hit b S l)).map fun (p : Nat) => (p : Int)
theorem found_succ (b : Bool) (S l : List Nat) (n : Nat) : found b S l (n + 1) = found b S l n ++ (if hit b S l n = true then [(n : Int)] else []) := by
  simp only [found, List.range_succ, List.filter_append, List.map_append, List.filter_cons, List.filter_nil]
  split <;> simp
theorem found_len (b : Bool) (S l : List Nat) (n : Nat) : (found b S l n).length ≤ n := by
  simp only [found, List.length_map]
  exact Nat.le_trans (List.length_filter_le _ _) (by simp)
theorem wrs_take_succ {b : Bool} {l : List Nat} {i c : Nat} (h : l[i]? = some c) : wrs b (l.take (i + 1)) = wrs b (l.take i) ++ wr b c := by
  rw [List.take_add_one, h, Option.toList_some, wrs_append]
  simp [wrs]
end
section
open PySem PySem.W PyProof.Rows PySem.Calls PySem.Spec
/-- a loop's state c: its ledger, its names, its word -/
def LS {σ : Type} (Led : σ → List (Addr × Obj)) (ps : σ → List (Str × Value)) (x : Str) (stored : List Str) (m₀ : Str → Option Value) (I : Nat → σ → Prop) (i : Nat) (m : Str → Option Value) (nx : List (Addr × Obj)) : Prop :=
  ∃ c : σ, nx = Led c ∧ (∀ p ∈ ps c, m p.1 = some p.2) ∧ (∀ z, z ≠ x → (∀ p ∈ ps c, z ≠ p.1) → stored.contains z = false → m z = m₀ z) ∧ I i c
section
variable {prog : Program} {w : World} {A : Around} {E : Value → Shared → Prop} {s : Shared} {env : Env} {h₀ : Heap} {x : Str} {body : List Stmt} {Q : Flow → Shared → Prop}
theorem ls_end {σ : Type} {Led : σ → List (Addr × Obj)} {ps : σ → List (Str × Value)} {stored : List Str} {m₀ : Str → Option Value} {I : Nat → σ → Prop} {i : Nat} {L : Addr} {m' : Str → Option Value} {own news' : List (Addr × Obj)} {s₁ : Shared} {h' : Heap} {tk : Nat} (c : σ)
    (F : Fr h₀ L h' m') (N : News h₀ L h' news') (hn : ∀ p ∈ Led c, p ∈ news') (ho : ∀ p ∈ own, p ∈ news') (hoff : OwnOff own ((Led c).map (·.1))) (hk : ∀ p ∈ ps c, m' p.1 = some p.2)
    (hr : ∀ z, z ≠ x → (∀ p ∈ ps c, z ≠ p.1) → stored.contains z = false → m' z = m₀ z) (hI : I i c) :
    InvEndG h₀ L (LS Led ps x stored m₀ I i) own s₁ { s₁ with heap := h', toks := tk } := InvEndG.intro F N ⟨c, rfl, hk, hr, hI⟩ hoff hn ho

theorem for_walk {σ : Type} {It : Addr} {n : Nat} {P : Nat → Value → Prop} {St : Nat → Heap → Prop} {m₀ : Str → Option Value} (Led : σ → List (Addr × Obj)) (ps : σ → List (Str × Value)) (stored : List Str) (I : Nat → σ → Prop) (c₀ : σ)
    (W : Walks prog w A It [It] [It] n P St) (hob : ∀ i h, St i h → ∃ o, h.get? It = some o) (hL : env.locals ≠ It) (hnew : h₀.get? It = none) (hnw : ∀ p ∈ Led c₀, p.1 ≠ It) (hst : St 0 s.heap)
    (F : Fr h₀ env.locals s.heap m₀) (N : News h₀ env.locals s.heap (Led c₀)) (hk : ∀ p ∈ ps c₀, m₀ p.1 = some p.2) (hI : I 0 c₀)
    (turn : ∀ i v (c : σ) (u : Str → Option Value) h tk own, i < n → P i v → OwnOff own ((Led c).map (·.1)) → I i c →
      Fr h₀ env.locals h (fun y => if y = x then some v else kstB (fun z => if stored.contains z then u z else m₀ z) (ps c) y) → News h₀ env.locals h (Led c ++ own) →
      wpAny (model prog w) A (execs body env) (InvPostG h₀ env.locals (LS Led ps x stored m₀ I (i + 1)) own { s with heap := h, toks := tk } Q) E { s with heap := h, toks := tk })
    (done : ∀ (c : σ) (u : Str → Option Value) h tk, I n c → Fr h₀ env.locals h (fun y => if y = x then u y else kstB (fun z => if stored.contains z then u z else m₀ z) (ps c) y) → News h₀ env.locals h (Led c) → Q .next { s with heap := h, toks := tk }) :
    LoopAtV prog w A h₀ env x body Q E (.ref It) s := by
  refine kdr_loop (fun i m nx => LS Led ps x stored m₀ I i m nx) W (fun _ h => h) (fun _ h => h) ?_ ?_ ?_ ?_ hst F N ⟨c₀, rfl, hk, fun _ _ _ _ => rfl, hI⟩ ?_ ?_
  · intro i h hi b hb
    rw [List.mem_singleton.mp hb]
    exact hob i h hi
  · intro hm
    exact hL (List.mem_singleton.mp hm)
  · intro b hb
    rw [List.mem_singleton.mp hb]
    exact hnew
  · intro p hp hI'
    exact hnw p hp (List.mem_singleton.mp hI')
  · rintro i v m₁ nx h tk own hi hP hoff ⟨c, rfl, h1, h2, hI'⟩ F₁ N₁
    exact turn i v c m₁ h tk own hi hP hoff hI' (kst_fr h1 h2 F₁) N₁
  · rintro m₁ nx h tk ⟨c, rfl, h1, h2, hI'⟩ F₁ N₁
    exact done c m₁ h tk hI' (kst_frOut h1 h2 F₁) N₁

theorem for_str {σ : Type} {xt : Str} {tt : Tok} {m₀ : Str → Option Value} (Led : σ → List (Addr × Obj)) (ps : σ → List (Str × Value)) (stored : List Str) (I : Nat → σ → Prop) (c₀ : σ)
    (hh : A.handled = none) (F : Fr h₀ env.locals s.heap m₀) (N : News h₀ env.locals s.heap (Led c₀)) (hk : ∀ p ∈ ps c₀, m₀ p.1 = some p.2) (hI : I 0 c₀)
    (turn : ∀ i n t (c : σ) (u : Str → Option Value) h tk own, xt.cps[i]? = some n → OwnOff own ((Led c).map (·.1)) → I i c →
      Fr h₀ env.locals h (fun y => if y = x then some (.str ⟨#[n]⟩ t) else kstB (fun z => if stored.contains z then u z else m₀ z) (ps c) y) → News h₀ env.locals h (Led c ++ own) →
      wpAny (model prog w) A (execs body env) (InvPostG h₀ env.locals (LS Led ps x stored m₀ I (i + 1)) own { s with heap := h, toks := tk } Q) E { s with heap := h, toks := tk })
    (done : ∀ (c : σ) (u : Str → Option Value) h tk, I xt.cps.size c → Fr h₀ env.locals h (fun y => if y = x then u y else kstB (fun z => if stored.contains z then u z else m₀ z) (ps c) y) → News h₀ env.locals h (Led c) → Q .next { s with heap := h, toks := tk }) :
    wpAny (model prog w) A (pyIter (.str xt tt)) (fun it s₂ => LoopAtV prog w A h₀ env x body Q E it s₂) E s := by
  have hL : env.locals ≠ s.heap.objs.size := fun e => absurd F.ns.lt (e ▸ Nat.lt_irrefl _)
  have hnw : ∀ p ∈ Led c₀, p.1 ≠ s.heap.objs.size := fun p hp e => absurd (Heap.lt_size (N p hp).1) (e ▸ Nat.lt_irrefl _)
  have N' : ∀ o, News h₀ env.locals (s.heap.push o) (Led c₀) := fun o p hp => ⟨Heap.get?_push_of_some _ (N p hp).1, (N p hp).2⟩
  cases ha : xt.cps.all (· < 128)
  · refine wpAny_pyIter_wide ha ?_
    refine for_walk (s := { s with heap := s.heap.push _ }) Led ps stored I c₀ (Walks.strWide hh _ xt tt) (fun i h hs => ⟨_, hs.choose_spec.1⟩) hL (next_is_new F) hnw ⟨_, Heap.get?_push_size _ rfl, rfl, rfl⟩ (F.push _) (N' _) hk hI ?_ ?_
    · rintro i v c u h tk own hi ⟨n, t, hn, rfl⟩ hoff hI' F₁ N₁
      exact turn i n t c u h tk own hn hoff hI' F₁ N₁
    · exact fun c u h tk hI' F₁ N₁ => done c u h tk hI' F₁ N₁
  · refine wpAny_pyIter_ascii ha ?_
    refine for_walk (s := { s with heap := s.heap.push _ }) Led ps stored I c₀ (Walks.strAscii hh _ xt tt) (fun i h hs => ⟨_, hs.choose_spec.1⟩) hL (next_is_new F) hnw ⟨_, Heap.get?_push_size _ rfl, rfl, rfl⟩ (F.push _) (N' _) hk hI ?_ ?_
    · rintro i v c u h tk own hi ⟨n, t, hn, rfl⟩ hoff hI' F₁ N₁
      exact turn i n t c u h tk own hn hoff hI' F₁ N₁
    · exact fun c u h tk hI' F₁ N₁ => done c u h tk hI' F₁ N₁

theorem for_range {σ : Type} {r : Addr} {a₀ b₀ : Int} {t₀ u₀ v₀ : Tok} {n : Nat} {m₀ : Str → Option Value} (Led : σ → List (Addr × Obj)) (ps : σ → List (Str × Value)) (stored : List Str) (I : Nat → σ → Prop) (c₀ : σ)
    (hh : A.handled = none) (hr : IsRange s.heap r a₀ b₀ 1 t₀ u₀ v₀) (hsmall : Builtin.Range.small a₀ b₀ 1 = true) (hsz : Builtin.Range.rangeSize a₀ b₀ 1 = (n : Int)) (F : Fr h₀ env.locals s.heap m₀) (N : News h₀ env.locals s.heap (Led c₀)) (hk : ∀ p ∈ ps c₀, m₀ p.1 = some p.2) (hI : I 0 c₀)
    (turn : ∀ i t (c : σ) (u : Str → Option Value) h tk own, i < n → OwnOff own ((Led c).map (·.1)) → I i c →
      Fr h₀ env.locals h (fun y => if y = x then some (.int (a₀ + (i : Int)) t) else kstB (fun z => if stored.contains z then u z else m₀ z) (ps c) y) → News h₀ env.locals h (Led c ++ own) →
      wpAny (model prog w) A (execs body env) (InvPostG h₀ env.locals (LS Led ps x stored m₀ I (i + 1)) own { s with heap := h, toks := tk } Q) E { s with heap := h, toks := tk })
    (done : ∀ (c : σ) (u : Str → Option Value) h tk, I n c → Fr h₀ env.locals h (fun y => if y = x then u y else kstB (fun z => if stored.contains z then u z else m₀ z) (ps c) y) → News h₀ env.locals h (Led c) → Q .next { s with heap := h, toks := tk }) :
    wpAny (model prog w) A (pyIter (.ref r)) (fun it s₂ => LoopAtV prog w A h₀ env x body Q E it s₂) E s := by
  have hL : env.locals ≠ s.heap.objs.size := fun e => absurd F.ns.lt (e ▸ Nat.lt_irrefl _)
  have hnw : ∀ p ∈ Led c₀, p.1 ≠ s.heap.objs.size := fun p hp e => absurd (Heap.lt_size (N p hp).1) (e ▸ Nat.lt_irrefl _)
  have N' : ∀ o, News h₀ env.locals (s.heap.push o) (Led c₀) := fun o p hp => ⟨Heap.get?_push_of_some _ (N p hp).1, (N p hp).2⟩
  refine wpAny_pyIter_range hr hsmall ?_
  refine for_walk (s := { s with heap := s.heap.push _ }) Led ps stored I c₀ (Walks.range hh _ a₀ 1 n) (fun i h hs => ⟨_, hs⟩) hL (next_is_new F) hnw (by show IsRangeIter _ _ _ _ _; rw [hsz]; simpa using Heap.get?_push_size _ rfl) (F.push _) (N' _) hk hI ?_ ?_
  · rintro i v c u h tk own hi ⟨t, rfl⟩ hoff hI' F₁ N₁
    rw [Int.mul_one] at F₁
    exact turn i t c u h tk own hi hoff hI' F₁ N₁
  · exact fun c u h tk hI' F₁ N₁ => done c u h tk hI' F₁ N₁

theorem for_list {σ : Type} {l : Addr} {vs : List Value} {nn : Nat} {m₀ : Str → Option Value} (Led : σ → List (Addr × Obj)) (ps : σ → List (Str × Value)) (stored : List Str) (I : Nat → σ → Prop) (c₀ : σ)
    (hh : A.handled = none) (hl : ∀ c, (l, listOf vs.toArray nn) ∈ Led c) (F : Fr h₀ env.locals s.heap m₀) (N : News h₀ env.locals s.heap (Led c₀)) (hk : ∀ p ∈ ps c₀, m₀ p.1 = some p.2) (hI : I 0 c₀)
    (turn : ∀ i v (c : σ) (u : Str → Option Value) h tk own, vs[i]? = some v → OwnOff own ((Led c).map (·.1)) → I i c →
      Fr h₀ env.locals h (fun y => if y = x then some v else kstB (fun z => if stored.contains z then u z else m₀ z) (ps c) y) → News h₀ env.locals h (Led c ++ own) →
      wpAny (model prog w) A (execs body env) (InvPostG h₀ env.locals (LS Led ps x stored m₀ I (i + 1)) own { s with heap := h, toks := tk } Q) E { s with heap := h, toks := tk })
    (done : ∀ (c : σ) (u : Str → Option Value) h tk, I vs.length c → Fr h₀ env.locals h (fun y => if y = x then u y else kstB (fun z => if stored.contains z then u z else m₀ z) (ps c) y) → News h₀ env.locals h (Led c) → Q .next { s with heap := h, toks := tk }) :
    wpAny (model prog w) A (pyIter (.ref l)) (fun it s₂ => LoopAtV prog w A h₀ env x body Q E it s₂) E s := by
  refine kdl_iter (fun i m nx => LS Led ps x stored m₀ I i m nx) hh (hl c₀) F N ⟨c₀, rfl, hk, fun _ _ _ _ => rfl, hI⟩ ?_ ?_
  · rintro i v m₁ nx h tk own hv hoff _ ⟨c, rfl, h1, h2, hI'⟩ F₁ N₁
    refine wpAny_mono (turn i v c m₁ h tk own hv hoff hI' (kst_fr h1 h2 F₁) N₁) (fun f s₂ p => ?_) fun _ _ e => e
    have up : InvEndG h₀ env.locals (LS Led ps x stored m₀ I (i + 1)) own { s with heap := h, toks := tk } s₂ →
        InvEndG h₀ env.locals (fun m' nx => (l, listOf vs.toArray nn) ∈ nx ∧ LS Led ps x stored m₀ I (i + 1) m' nx) own { s with heap := h, toks := tk } s₂ := by
      rintro ⟨h', tk', m', news', nx', e', F', N', hn', ho', ha, hS⟩
      refine ⟨h', tk', m', news', nx', e', F', N', hn', ho', ha, ?_, hS⟩
      obtain ⟨c', rfl, _⟩ := hS
      exact hl c'
    cases f with
    | ret v => exact p
    | brk => exact p
    | next => exact up p
    | cont => exact up p
  · rintro m₁ nx h tk ⟨c, rfl, h1, h2, hI'⟩ F₁ N₁
    exact done c m₁ h tk hI' (kst_frOut h1 h2 F₁) N₁

/-- an item of a tuple of texts at a place within it -/
theorem tab_item {h₀ : Heap} {L a : Addr} {news : List (Addr × Obj)} {vs : List Value} {nn : Nat} {k : Int} {tk : Tok} {B : Nat} {value slice : Expr} {Q : Value → Shared → Prop} (N : News h₀ L s.heap news)
    (hm : (a, ({ cls := .type "tuple", data := .seq vs.toArray nn } : Obj)) ∈ news) (hv : ∀ v ∈ vs, ∃ x t, v = .str x t ∧ x.length ≤ B) (h0 : 0 ≤ k) (h1 : k < vs.length) (hlen : vs.length < 1000)
    (h : ∀ x t, x.length ≤ B → Q (.str x t) s)
    (hs : subscripted slice false (.ref a) (.int k tk) = operate [.ref a, .int k tk] (getItem (.ref a) (.int k tk)) := by with_unfolding_all rfl) :
    wpAny (model prog w) A (subscriptTail value slice (.ref a) (.int k tk)) Q E s := by
  have hk : k.toNat < vs.length := by omega
  obtain ⟨x, t, e, hx⟩ := hv vs[k.toNat] (List.getElem_mem hk)
  have hj : seqIndex? k vs.length = some k.toNat := by
    unfold seqIndex?
    simp only
    split
    · omega
    · split <;> simp_all
  refine item_tupleT ⟨_, (N _ hm).1, rfl, nn, rfl⟩ (by omega) (by omega) hj (by rw [List.getElem?_eq_getElem hk, e]) (h x t hx) hs
end
theorem fmod_bounds (n k : Int) (hk : 0 < k) : 0 ≤ n.fmod k ∧ n.fmod k < k := ⟨Int.fmod_nonneg_of_pos n hk, Int.fmod_lt_of_pos n hk⟩
theorem sum_short {B : Nat} : ∀ ys : List Str, (∀ y ∈ ys, y.length ≤ B) → (ys.map (·.length)).sum ≤ B * ys.length
  | [], _ => by simp
  | y :: r, h => by
    have ih := sum_short r fun z hz => h z (.tail _ hz)
    have := h y (.head _)
    simp only [List.map_cons, List.sum_cons, List.length_cons, Nat.mul_add, Nat.mul_one]
    omega
theorem join_short' {x : Str} (hx : x.length = 0) : ∀ ys : List Str, (Str.join x ys).length = (ys.map (·.length)).sum
  | [] => rfl
  | [y] => by simp [Str.join]
  | y :: z :: r => by
    have ih := join_short' hx (z :: r)
    show (y ++ x ++ Str.join x (z :: r)).length = _
    simp only [Str.length_append, hx, ih, List.map_cons, List.sum_cons]
    omega
theorem join_short {x : Str} (hx : x.length = 0) (ys : List Str) : (Txt.join x ys).length = (ys.map (·.length)).sum := by
  unfold Txt.join
  rw [StrLaws.glued_eq_join]
  exact join_short' hx ys
/-- ''.join of a made list of short texts -/
theorem join_made {prog : Program} {w : World} {A : Around} {E : Value → Shared → Prop} {s : Shared} {h₀ : Heap} {L l : Addr} {news : List (Addr × Obj)} {its : List Value} {ys : List Str} {ep B : Nat} {x : Str} {t : Tok} {Q : Value → Shared → Prop} (N : News h₀ L s.heap news)
    (hm : (l, listOf its.toArray ep) ∈ news) (hi : StrsAre its ys) (hx : x.length = 0) (hy : ∀ y ∈ ys, y.length ≤ B) (hB : B * ys.length ≤ 1000000)
    (h : ∀ y t' k, y = Txt.join x ys → y.length ≤ B * ys.length → Q (.str y t') { s with toks := k }) : wpAny (model prog w) A (call (.builtin "str.join") [.str x t, .ref l]) Q E s := by
  have h1 := sum_short ys hy
  refine join_list (items := its.toArray) (ys := ys) ⟨_, (N _ hm).1, rfl, ep, rfl⟩ (by simpa using hi) (by rw [hx]; omega) fun t' k => h _ t' k rfl ?_
  rw [join_short hx]; exact h1
/-- every entry of the ledger lies below d -/
structure LtAll (l : List (Addr × Obj)) (d : Addr) : Prop where
  all : ∀ p ∈ l, p.1 < d
theorem LtAll.of {l : List (Addr × Obj)} {d : Addr} (h : ∀ p ∈ l, p.1 < d) : LtAll l d := ⟨h⟩
theorem LtAll.ne {l : List (Addr × Obj)} {d : Addr} (h : LtAll l d) {p : Addr × Obj} (hp : p ∈ l) : p.1 ≠ d := Nat.ne_of_lt (h.all p hp)
theorem LtAll.off {l : List (Addr × Obj)} {d e : Addr} (h : LtAll l d) (he : @LE.le Nat _ d e) : ∀ p ∈ l, p.1 ≠ e := fun p hp => Nat.ne_of_lt (Nat.lt_of_lt_of_le (h.all p hp) he)
section
variable {prog : Program} {w : World} {A : Around} {E : Value → Shared → Prop} {s : Shared} {h₀ : Heap} {L a : Addr} {news : List (Addr × Obj)} {vs : List Value} {ep : Nat} {i : Int} {u : Tok} {v : Value} {value slice : Expr} {Q : Value → Shared → Prop}
theorem list_item (N : News h₀ L s.heap news) (hm : (a, listOf vs.toArray ep) ∈ news) (h0 : 0 ≤ i) (h1 : i < 2 ^ 63) (hv : vs[i.toNat]? = some v) (h : Q v s)
    (hs : subscripted slice false (.ref a) (.int i u) = operate [.ref a, .int i u] (getItem (.ref a) (.int i u)) := by with_unfolding_all rfl) :
    wpAny (model prog w) A (subscriptTail value slice (.ref a) (.int i u)) Q E s := by
  have hL : s.heap.IsList a vs.toArray := ⟨_, (N _ hm).1, rfl, ep, rfl⟩
  exact tail_any hL.typeIs slot_list_getitem.lookup (wpAny_getItem_list hL h0 h1 (by simpa using hv) h) hs
theorem tup_item (N : News h₀ L s.heap news) (hm : (a, ({ cls := .type "tuple", data := .seq vs.toArray ep } : Obj)) ∈ news) (h0 : 0 ≤ i) (h1 : i < 2 ^ 63) (hv : vs[i.toNat]? = some v) (h : Q v s)
    (hs : subscripted slice false (.ref a) (.int i u) = operate [.ref a, .int i u] (getItem (.ref a) (.int i u)) := by with_unfolding_all rfl) :
    wpAny (model prog w) A (subscriptTail value slice (.ref a) (.int i u)) Q E s := by
  have hlt := (List.getElem?_eq_some_iff.mp hv).1
  have hj : seqIndex? i vs.length = some i.toNat := by
    unfold seqIndex?
    simp only
    split
    · omega
    · split <;> simp_all
  exact item_tupleT ⟨_, (N _ hm).1, rfl, ep, rfl⟩ (by omega) h1 hj hv h hs
theorem add_short {x y : Str} {t u : Tok} {Q : Value → Shared → Prop} (n : Nat) (hn : n ≤ 1000000) (hx : x.length ≤ n) (hy : y.length ≤ n) (h : ∀ t' tk, Q (.str (x ++ y) t') { s with toks := tk }) :
    wpAny (model prog w) A (binaryOp .Add (.str x t) (.str y u)) Q E s := PyProof.Rows.add_str h (by rw [sizeLine_eq]; omega)
end
theorem off_append {d : Addr} {a b : List (Addr × Obj)} (h1 : ∀ p ∈ a, p.1 ≠ d) (h2 : ∀ p ∈ b, p.1 ≠ d) : ∀ p ∈ a ++ b, p.1 ≠ d := fun p hp => (List.mem_append.mp hp).elim (h1 p) (h2 p)
/-- the values a filter keeps: those of the places k from i on at which f says yes -/
def Sel (P : Nat → Value → Prop) (f : Nat → Bool) : Nat → Nat → List Value → Prop
  | 0, _, zs => zs = []
  | k + 1, i, zs => if f i = true then ∃ v r, P i v ∧ zs = v :: r ∧ Sel P f k (i + 1) r else Sel P f k (i + 1) zs
open LCg LCt in
theorem restT_filter {prog : Program} {w : World} {A : Around} {h₀ : Heap} {L : Addr} {m : Str → Option Value} {env : Env} {ct elt : Expr} {x : Str} {scope : Scope} {cl : List (Str × Addr)} {s : Shared} {S : List (Addr × Obj) → Prop} {P : Nat → Value → Prop} {Fin : List Value → List (Addr × Obj) → Prop} {news : List (Addr × Obj)} {n : Nat}
    (f : Nat → Bool) (hS : S news)
    (turn : ∀ i v I oI C oC D ys m₂ h tk (E' : Value → Shared → Prop) (QT : Bool → Shared → Prop), i < n → P i v → NsObj oC m₂ → m₂ x = some v → Fr h₀ L h m → News h₀ L h ((I, oI) :: (C, oC) :: (D, lst ys) :: news) → Off3 I C D news → ((@Ne Nat I C) ∧ (@Ne Nat I D) ∧ (@Ne Nat C D)) →
      (∀ h' tk', Fr h₀ L h' m → News h₀ L h' ((I, oI) :: (C, oC) :: (D, lst ys) :: news) → QT (f i) { s with heap := h', toks := tk' }) →
      wpAny (model prog w) A (isTrue ct (compEnvC scope cl C env) (eval ct (compEnvC scope cl C env))) QT E' { s with heap := h, toks := tk })
    (elem : ∀ i v I oI C oC D ys m₂ h tk (E' : Value → Shared → Prop) (QE : Value → Shared → Prop), i < n → P i v → NsObj oC m₂ → m₂ x = some v → Fr h₀ L h m → News h₀ L h ((I, oI) :: (C, oC) :: (D, lst ys) :: news) →
      QE v { s with heap := h, toks := tk } → wpAny (model prog w) A (eval elt (compEnvC scope cl C env)) QE E' { s with heap := h, toks := tk })
    : ∀ k i ys, i + k = n → (∀ zs, Sel P f k i zs → Fin (ys ++ zs) news) → CompRestT prog w A h₀ L m env ct elt x scope cl s S P Fin k i ys news := by
  intro k
  induction k with
  | zero =>
    intro i ys hn fin
    have := fin [] rfl
    rw [List.append_nil] at this
    exact CompRestT.zero this
  | succ k ih =>
    intro i ys hn fin
    refine CompRestT.succ fun v I oI C oC D m₂ h tk E' hP hC hx F N off hne => ?_
    refine turn i v I oI C oC D ys m₂ h tk E' _ (by omega) hP hC hx F N off hne fun h' tk' F' N' => ?_
    cases hf : f i with
    | true =>
      simp only [if_true]
      refine elem i v I oI C oC D ys m₂ h' tk' E' _ (by omega) hP hC hx F' N' ?_
      refine ⟨h', tk', news, rfl, F', N', off, hS, ih (i + 1) (ys ++ [v]) (by omega) fun zs hz => ?_⟩
      rw [List.append_assoc]
      refine fin (v :: zs) ?_
      unfold Sel
      rw [if_pos hf]
      exact ⟨v, zs, hP, rfl, hz⟩
    | false =>
      simp only [Bool.false_eq_true, if_false]
      refine ⟨h', tk', news, rfl, F', N', off, hS, ih (i + 1) ys (by omega) fun zs hz => fin zs ?_⟩
      unfold Sel
      rw [if_neg (by rw [hf]; exact Bool.false_ne_true)]
      exact hz
theorem sel_cases {P : Nat → Value → Prop} {f : Nat → Bool} : ∀ {k i : Nat} {zs : List Value}, Sel P f k i zs → (zs = [] ∧ ∀ j, i ≤ j → j < i + k → f j = false) ∨ ∃ j v r, i ≤ j ∧ j < i + k ∧ f j = true ∧ P j v ∧ zs = v :: r
  | 0, i, zs, h => .inl ⟨h, fun j h1 h2 => by omega⟩
  | k + 1, i, zs, h => by
    unfold Sel at h
    cases hf : f i with
    | true =>
      rw [if_pos hf] at h
      obtain ⟨v, r, hP, e, _⟩ := h
      exact .inr ⟨i, v, r, Nat.le_refl _, by omega, hf, hP, e⟩
    | false =>
      rw [if_neg (by rw [hf]; exact Bool.false_ne_true)] at h
      rcases sel_cases h with ⟨e, q⟩ | ⟨j, v, r, h1, h2, h3, h4, h5⟩
      · refine .inl ⟨e, fun j h1 h2 => ?_⟩
        by_cases hj : j = i
        · rw [hj]; exact hf
        · exact q j (by omega) (by omega)
      · exact .inr ⟨j, v, r, by omega, by omega, h3, h4, h5⟩
theorem sel_len {P : Nat → Value → Prop} {f : Nat → Bool} : ∀ {k i : Nat} {zs : List Value}, Sel P f k i zs → zs.length = ((List.range' i k).filter f).length
  | 0, i, zs, h => by rw [show zs = [] from h]; rfl
  | k + 1, i, zs, h => by
    unfold Sel at h
    rw [List.range'_succ, List.filter_cons]
    cases hf : f i with
    | true =>
      rw [if_pos hf] at h
      obtain ⟨v, r, _, e, hr⟩ := h
      rw [e, if_pos rfl, List.length_cons, List.length_cons, sel_len hr]
    | false =>
      rw [if_neg (by rw [hf]; exact Bool.false_ne_true)] at h
      rw [if_neg Bool.false_ne_true, sel_len h]
end
section
open PySem PySem.W PyProof.Rows PySem.Calls PySem.Spec PySem.SeqAt
theorem sel_dat {led : List (Addr × Obj)} {f : Nat → Bool} : ∀ {k i : Nat} {zs : List Value}, Sel (fun i v => ∃ t, v = Value.int (0 + (i : Int)) t) f k i zs → DatAll led zs (((List.range' i k).filter f).map fun (p : Nat) => Dat.int (p : Int))
  | 0, i, zs, h => by rw [show zs = [] from h]; exact .nil
  | k + 1, i, zs, h => by
    unfold Sel at h
    rw [List.range'_succ, List.filter_cons]
    cases hf : f i with
    | true =>
      rw [if_pos hf] at h
      obtain ⟨v, r, ⟨t, rfl⟩, e, hr⟩ := h
      rw [e, if_pos rfl, List.map_cons, Int.zero_add]
      exact .cons (.int _ _) (sel_dat hr)
    | false =>
      rw [if_neg (by rw [hf]; exact Bool.false_ne_true)] at h
      rw [if_neg Bool.false_ne_true]
      exact sel_dat h
theorem hit_slice2 {b : Bool} {S l : List Nat} {W V : Str} {i : Nat} (hW : W = escT b (tx l)) (hV : V = escT b (tx S)) :
    (Txt.slice W (some (0 + (i : Int))) (some (0 + (i : Int) + (V.length : Int))) == V) = hit b S l i := by
  rw [escT_tx] at hW hV
  have hl : V.length = (wrs b S).length := by rw [hV, tx_length]
  rw [slice_ss (by omega) (by omega), hl, hW, hV, tx_toList]
  have e1 : (0 + (i : Int)).toNat = i := by omega
  have e2 : (0 + (i : Int) + ((wrs b S).length : Int)).toNat - i = (wrs b S).length := by omega
  rw [e1, e2]
  unfold hit
  by_cases h : ((wrs b l).drop i).take (wrs b S).length = wrs b S
  · rw [h, beq_self_eq_true, beq_self_eq_true]
  · have h' : tx (((wrs b l).drop i).take (wrs b S).length) ≠ tx (wrs b S) := fun e => h (tx_inj e)
    rw [beq_eq_false_iff_ne.mpr h', beq_eq_false_iff_ne.mpr h]
theorem found_ret {h₀ : Heap} {L q D : Addr} {m : Str → Option Value} {s : Shared} {Q : Value → Shared → Prop} {b : Bool} {l S : List Nat} {news all : List (Addr × Obj)} {h' : Heap} {tk n nq k : Nat} {t : Tok} {zs : List Value} {W : Str}
    (hret : ∀ (q : Addr) led h' tk', Fr h₀ L h' m → News h₀ L h' (led ++ news) → DatIn led (.ref q) (.tuple [.str (tx (wrs b l)), .list ((found b S l (wrs b l).length).map .int)]) → Q (.ref q) { s with heap := h', toks := tk' })
    (hW : W = escT b (tx l)) (hn : k = W.length) (hz : Sel (fun i v => ∃ t, v = Value.int (0 + (i : Int)) t) (hit b S l) k 0 zs)
    (F : Fr h₀ L h' m) (N : News h₀ L h' all) (hmq : (q, ({ cls := .type "tuple", data := .seq [Value.str W t, .ref D].toArray nq } : Obj)) ∈ all) (hmD : (D, listOf zs.toArray n) ∈ all) (hmn : ∀ p ∈ news, p ∈ all) : Q (.ref q) { s with heap := h', toks := tk } := by
  rw [escT_tx] at hW
  have hk : k = (wrs b l).length := by rw [hn, hW, tx_length]
  have hd := sel_dat (led := [(q, ({ cls := .type "tuple", data := .seq [Value.str W t, .ref D].toArray nq } : Obj)), (D, listOf zs.toArray n)]) hz
  have e : ((List.range' 0 k).filter (hit b S l)).map (fun (p : Nat) => Dat.int (p : Int)) = (found b S l (wrs b l).length).map .int := by
    rw [hk, ← List.range_eq_range']
    simp [found]
  rw [e] at hd
  refine hret q [(q, ({ cls := .type "tuple", data := .seq [Value.str W t, .ref D].toArray nq } : Obj)), (D, listOf zs.toArray n)] h' tk F ?_ (.tuple (.head _) (.cons ?_ (.cons (.list (.tail _ (.head _)) hd) .nil)))
  · intro p hp
    refine N p ?_
    simp only [List.cons_append, List.nil_append, List.mem_cons] at hp
    rcases hp with rfl | rfl | hp
    · exact hmq
    · exact hmD
    · exact hmn p hp
  · rw [hW]; exact .str _ _
end
section
open PySem PySem.W PyProof.Rows PySem.Calls PySem.Spec PySem.SeqAt
def refD (b : Bool) : List (PyData × PyData) :=
  if b then [(.str (Str.ofString "&"), .str (Str.ofString "&amp;")), (.str (Str.ofString "<"), .str (Str.ofString "&lt;")), (.str (Str.ofString ">"), .str (Str.ofString "&gt;")), (.str (Str.ofString "\""), .str (Str.ofString "&quot;")), (.str (Str.ofString "'"), .str (Str.ofString "&#x27;"))]
  else [(.str (Str.ofString "&"), .str (Str.ofString "&amp;")), (.str (Str.ofString "<"), .str (Str.ofString "&lt;")), (.str (Str.ofString ">"), .str (Str.ofString "&gt;"))]
theorem tx_one {a c : Nat} : (tx [a] = tx [c]) = (a = c) := by
  refine propext ⟨fun h => ?_, fun h => by rw [h]⟩
  have := tx_inj h
  simpa using this
theorem look_ref (b : Bool) (c : Nat) : (PySem.Spec.lookup (.str (tx [c])) (refD b)).getD (.str (tx [c])) = .str (tx (wr b c)) := by
  have e1 : Str.ofString "&" = tx [38] := by decide +kernel
  have e2 : Str.ofString "&amp;" = tx [38, 97, 109, 112, 59] := by decide +kernel
  have e3 : Str.ofString "<" = tx [60] := by decide +kernel
  have e4 : Str.ofString "&lt;" = tx [38, 108, 116, 59] := by decide +kernel
  have e5 : Str.ofString ">" = tx [62] := by decide +kernel
  have e6 : Str.ofString "&gt;" = tx [38, 103, 116, 59] := by decide +kernel
  have e7 : Str.ofString "\"" = tx [34] := by decide +kernel
  have e8 : Str.ofString "&quot;" = tx [38, 113, 117, 111, 116, 59] := by decide +kernel
  have e9 : Str.ofString "'" = tx [39] := by decide +kernel
  have e10 : Str.ofString "&#x27;" = tx [38, 35, 120, 50, 55, 59] := by decide +kernel
  cases b
  · simp only [refD, Bool.false_eq_true, if_false, PySem.Spec.lookup, PyProof.V.same_str, e1, e2, e3, e4, e5, e6, tx_one, decide_eq_true_eq]
    by_cases h1 : c = 38
    · subst h1; rfl
    by_cases h2 : c = 60
    · subst h2; rfl
    by_cases h3 : c = 62
    · subst h3; rfl
    have g1 : ¬ 38 = c := fun e => h1 e.symm
    have g2 : ¬ 60 = c := fun e => h2 e.symm
    have g3 : ¬ 62 = c := fun e => h3 e.symm
    simp [wr, h1, h2, h3, g1, g2, g3]
  · simp only [refD, if_true, PySem.Spec.lookup, PyProof.V.same_str, e1, e2, e3, e4, e5, e6, e7, e8, e9, e10, tx_one, decide_eq_true_eq]
    by_cases h1 : c = 38
    · subst h1; rfl
    by_cases h2 : c = 60
    · subst h2; rfl
    by_cases h3 : c = 62
    · subst h3; rfl
    by_cases h4 : c = 34
    · subst h4; rfl
    by_cases h5 : c = 39
    · subst h5; rfl
    have g1 : ¬ 38 = c := fun e => h1 e.symm
    have g2 : ¬ 60 = c := fun e => h2 e.symm
    have g3 : ¬ 62 = c := fun e => h3 e.symm
    have g4 : ¬ 34 = c := fun e => h4 e.symm
    have g5 : ¬ 39 = c := fun e => h5 e.symm
    simp [wr, h1, h2, h3, h4, h5, g1, g2, g3, g4, g5]
theorem get_ref {prog : Program} {w : World} {A : Around} {E : Value → Shared → Prop} {s : Shared} {h₀ : Heap} {L d : Addr} {o : Obj} {news : List (Addr × Obj)} {kvs : List (Str × Value)} {D : List (PyData × PyData)} {b : Bool} {c : Nat} {t u : Tok} {Q : Value → Shared → Prop}
    (N : News h₀ L s.heap news) (hm : (d, o) ∈ news) (lo : (d == sysModules) = false) (hd : o.IsDictOf (strKind prog w) kvs) (hf : PyProof.V.FlatPairs PyData.str kvs D) (hD : D = refD b)
    (h : ∀ t', Q (.str (tx (wr b c)) t') { s with toks := s.toks + 1 }) : wpAny (model prog w) A (call (.builtin "dict.get") [.ref d, .str (tx [c]) t, .str (tx [c]) u]) Q E s := by
  subst hD
  refine call_get2_strTab (TabAt.ofNews N hm lo hd hf) (PyProof.V.Flat.str _ _) fun v hv => ?_
  rw [look_ref] at hv
  obtain ⟨t', rfl⟩ := hv.str_inv
  exact h t'
end
section
open PySem PySem.W PyProof.Rows PySem.Calls PySem.Spec PySem.SeqAt
theorem ints_snoc : ∀ {vs : List Value} {ns : List Int} {k : Int} {t : Tok}, IntsAre vs ns → IntsAre (vs ++ [.int k t]) (ns ++ [k])
  | _, _, _, _, .nil => .cons _ _ .nil
  | _, _, _, _, .cons i t h => .cons i t (ints_snoc h)
structure PSt where
  items : List Value
  ep : Nat
  w : List Nat
  tk : Tok
def ledP (lp : Addr) (rest : List (Addr × Obj)) (c : PSt) : List (Addr × Obj) := (lp, listOf c.items.toArray c.ep) :: rest
def psP (c : PSt) : List (Str × Value) := [(Str.ofString "ahead", .str (tx c.w) c.tk)]
def storedP : List Str := [Str.ofString "written", Str.ofString "inside", Str.ofString "tail", Str.ofString "rest"]
def InvP (b : Bool) (S l : List Nat) (i : Nat) (c : PSt) : Prop := c.w = wrs b (l.take i) ∧ IntsAre c.items (found b S l c.w.length)
structure ISt where
  items : List Value
  ep : Nat
def ledI (lp : Addr) (rest : List (Addr × Obj)) (c : ISt) : List (Addr × Obj) := (lp, listOf c.items.toArray c.ep) :: rest
def storedI : List Str := [Str.ofString "tail", Str.ofString "rest"]
def InvI (b : Bool) (S l : List Nat) (W : Nat) (j : Nat) (c : ISt) : Prop := IntsAre c.items (found b S l (W + 1 + j))
section
variable {prog : Program} {w : World} {A : Around} {E : Value → Shared → Prop} {s : Shared} {env : Env} {h₀ : Heap} {x : Str} {body : List Stmt} {Q : Flow → Shared → Prop}
theorem places_for {b : Bool} {S l : List Nat} {lp r : Addr} {rest : List (Addr × Obj)} {b₀ : Int} {t₀ u₀ v₀ tk₀ : Tok} {m₀ : Str → Option Value} (hb : b₀ = (l.length : Int)) (hl : l.length ≤ 1000)
    (hh : A.handled = none) (hr : IsRange s.heap r 0 b₀ 1 t₀ u₀ v₀) (F : Fr h₀ env.locals s.heap m₀) (N : News h₀ env.locals s.heap (ledP lp rest ⟨[], 0, [], tk₀⟩)) (hk : ∀ p ∈ psP ⟨[], 0, [], tk₀⟩, m₀ p.1 = some p.2)
    (turn : ∀ i c t (st : PSt) (u : Str → Option Value) h tk own, l[i]? = some c → OwnOff own ((ledP lp rest st).map (·.1)) → InvP b S l i st →
      Fr h₀ env.locals h (fun y => if y = x then some (.int (i : Int) t) else kstB (fun z => if storedP.contains z then u z else m₀ z) (psP st) y) → News h₀ env.locals h (ledP lp rest st ++ own) →
      wpAny (model prog w) A (execs body env) (InvPostG h₀ env.locals (LS (ledP lp rest) psP x storedP m₀ (InvP b S l) (i + 1)) own { s with heap := h, toks := tk } Q) E { s with heap := h, toks := tk })
    (done : ∀ (st : PSt) (u : Str → Option Value) h tk, InvP b S l l.length st → Fr h₀ env.locals h (fun y => if y = x then u y else kstB (fun z => if storedP.contains z then u z else m₀ z) (psP st) y) → News h₀ env.locals h (ledP lp rest st) → Q .next { s with heap := h, toks := tk }) :
    wpAny (model prog w) A (pyIter (.ref r)) (fun it s₂ => LoopAtV prog w A h₀ env x body Q E it s₂) E s := by
  subst hb
  refine for_range (n := l.length) (ledP lp rest) psP storedP (InvP b S l) ⟨[], 0, [], tk₀⟩ hh hr (small_one (by omega) (by omega) (by omega) (by omega)) (by rw [rangeSize_nat]; omega) F N hk ⟨by simp [wrs], .nil⟩ ?_ done
  intro i t st u h tk own hi hoff hI F₁ N₁
  rw [Int.zero_add] at F₁
  exact turn i _ t st u h tk own (List.getElem?_eq_getElem hi) hoff hI F₁ N₁
theorem inside_for {b : Bool} {S l : List Nat} {lp r : Addr} {rest : List (Addr × Obj)} {b₀ : Int} {t₀ u₀ v₀ : Tok} {m₀ : Str → Option Value} {W k ep : Nat} {items : List Value} (hb : b₀ = (k : Int)) (hk1 : 1 ≤ k) (hk2 : k ≤ 1000)
    (hh : A.handled = none) (hr : IsRange s.heap r 1 b₀ 1 t₀ u₀ v₀) (F : Fr h₀ env.locals s.heap m₀) (N : News h₀ env.locals s.heap (ledI lp rest ⟨items, ep⟩)) (hi : IntsAre items (found b S l (W + 1)))
    (turn : ∀ j t (st : ISt) (u : Str → Option Value) h tk own, 1 + j < k → OwnOff own ((ledI lp rest st).map (·.1)) → InvI b S l W j st →
      Fr h₀ env.locals h (fun y => if y = x then some (.int (1 + (j : Int)) t) else kstB (fun z => if storedI.contains z then u z else m₀ z) [] y) → News h₀ env.locals h (ledI lp rest st ++ own) →
      wpAny (model prog w) A (execs body env) (InvPostG h₀ env.locals (LS (ledI lp rest) (fun _ => []) x storedI m₀ (InvI b S l W) (j + 1)) own { s with heap := h, toks := tk } Q) E { s with heap := h, toks := tk })
    (done : ∀ (st : ISt) (u : Str → Option Value) h tk, IntsAre st.items (found b S l (W + k)) → Fr h₀ env.locals h (fun y => if y = x then u y else kstB (fun z => if storedI.contains z then u z else m₀ z) [] y) → News h₀ env.locals h (ledI lp rest st) → Q .next { s with heap := h, toks := tk }) :
    wpAny (model prog w) A (pyIter (.ref r)) (fun it s₂ => LoopAtV prog w A h₀ env x body Q E it s₂) E s := by
  subst hb
  refine for_range (n := k - 1) (ledI lp rest) (fun _ => []) storedI (InvI b S l W) ⟨items, ep⟩ hh hr (small_one (by omega) (by omega) (by omega) (by omega)) (by rw [rangeSize_nat]; omega) F N (fun _ hp => nomatch hp) hi ?_ ?_
  · exact fun j t st u h tk own hj hoff hI F₁ N₁ => turn j t st u h tk own (by omega) hoff hI F₁ N₁
  · intro st u h tk hI F₁ N₁
    refine done st u h tk ?_ F₁ N₁
    have e : W + 1 + (k - 1) = W + k := by omega
    unfold InvI at hI
    rw [e] at hI
    exact hI
theorem ints_next {b : Bool} {S l : List Nat} {n : Nat} {items : List Value} {k : Int} {t : Tok} (h : IntsAre items (found b S l n)) (hh : hit b S l n = true) (hk : k = (n : Int)) : IntsAre (items ++ [.int k t]) (found b S l (n + 1)) := by
  rw [found_succ, if_pos hh, hk]
  exact ints_snoc h
theorem ints_same {b : Bool} {S l : List Nat} {n : Nat} {items : List Value} (h : IntsAre items (found b S l n)) (hh : hit b S l n = false) : IntsAre items (found b S l (n + 1)) := by
  rw [found_succ, hh]
  simpa using h
end
theorem tx_beq (a b : List Nat) : (tx a == tx b) = (a == b) := by
  by_cases h : a = b
  · rw [h, beq_self_eq_true, beq_self_eq_true]
  · have h' : tx a ≠ tx b := fun e => h (tx_inj e)
    rw [beq_eq_false_iff_ne.mpr h', beq_eq_false_iff_ne.mpr h]
theorem zero_slice {b : Bool} {S l : List Nat} {i c : Nat} (h : l[i]? = some c) : (Txt.slice (tx l) (some (i : Int)) (some ((i : Int) + ((tx S).length : Int))) == tx S) = hit b S l (wrs b (l.take i)).length := by
  rw [hit_zero h, slice_ss (by omega) (by omega), tx_toList, tx_length, tx_beq]
  have e : ((i : Int) + (S.length : Int)).toNat - (i : Int).toNat = S.length := by omega
  rw [e, Int.toNat_natCast]
theorem in_slice {b : Bool} {S l : List Nat} {i c j : Nat} (h : l[i]? = some c) (hj : 1 + j ≤ (wr b c).length) {tail rest : Str} (ht : tail = Txt.slice (tx (wr b c)) (some (1 + (j : Int))) none) (hr : rest = Txt.slice (tx S) (some (tail.length : Int)) none) :
    ((Txt.slice (tx S) none (some (tail.length : Int)) == Txt.slice tail none (some ((tx S).length : Int))) && (Txt.slice (tx l) (some ((i : Int) + 1)) (some ((i : Int) + 1 + (rest.length : Int))) == rest)) = hit b S l ((wrs b (l.take i)).length + (1 + j)) := by
  rw [hit_in h (by omega) hj]
  have e1 : (1 + (j : Int)).toNat = 1 + j := by omega
  rw [slice_sn (by omega), tx_toList, e1] at ht
  have hl : tail.length = ((wr b c).drop (1 + j)).length := by rw [ht, tx_length]
  rw [slice_sn (by omega), tx_toList, Int.toNat_natCast, hl] at hr
  have hl2 : rest.length = (S.drop ((wr b c).drop (1 + j)).length).length := by rw [hr, tx_length]
  have e2 : ((i : Int) + 1 + (rest.length : Int)).toNat - ((i : Int) + 1).toNat = rest.length := by omega
  have e3 : ((i : Int) + 1).toNat = i + 1 := by omega
  rw [slice_ns (by omega), slice_ns (by omega), slice_ss (by omega) (by omega), e2, e3, tx_toList, tx_toList, Int.toNat_natCast, Int.toNat_natCast, hl, tx_length, hl2]
  conv => lhs; rw [ht, tx_toList, tx_beq, hr, tx_beq]
section
variable {h₀ : Heap} {L lp : Addr} {b : Bool} {S l : List Nat} {rest own all : List (Addr × Obj)} {items : List Value} {ep W j tk : Nat} {m₀ m' : Str → Option Value} {x : Str} {s₁ : Shared} {h' : Heap}
theorem in_skip (hI : InvI b S l W j ⟨items, ep⟩) (hh : hit b S l (W + 1 + j) = false) (hoff : OwnOff own ((ledI lp rest ⟨items, ep⟩).map (·.1)))
    (F : Fr h₀ L h' m') (N : News h₀ L h' all) (hm1 : (lp, listOf items.toArray ep) ∈ all) (hmr : ∀ p ∈ rest, p ∈ all) (hmo : ∀ p ∈ own, p ∈ all)
    (hr : ∀ z, z ≠ x → (∀ p ∈ ([] : List (Str × Value)), z ≠ p.1) → storedI.contains z = false → m' z = m₀ z) :
    InvEndG h₀ L (LS (ledI lp rest) (fun _ => []) x storedI m₀ (InvI b S l W) (j + 1)) own s₁ { s₁ with heap := h', toks := tk } := by
  refine ls_end ⟨items, ep⟩ F N ?_ hmo hoff (fun _ hp => nomatch hp) hr (ints_same hI hh)
  intro p hp
  rcases List.mem_cons.mp hp with rfl | hp
  · exact hm1
  · exact hmr p hp
theorem in_push {k : Int} {t : Tok} (hI : InvI b S l W j ⟨items, ep⟩) (hh : hit b S l (W + 1 + j) = true) (hk : k = ((W + 1 + j : Nat) : Int)) (hoff : OwnOff own ((ledI lp rest ⟨items, ep⟩).map (·.1)))
    (F : Fr h₀ L h' m') (N : News h₀ L h' all) (hm1 : (lp, listOf (items.toArray.push (.int k t)) (ep + 1)) ∈ all) (hmr : ∀ p ∈ rest, p ∈ all) (hmo : ∀ p ∈ own, p ∈ all)
    (hr : ∀ z, z ≠ x → (∀ p ∈ ([] : List (Str × Value)), z ≠ p.1) → storedI.contains z = false → m' z = m₀ z) :
    InvEndG h₀ L (LS (ledI lp rest) (fun _ => []) x storedI m₀ (InvI b S l W) (j + 1)) own s₁ { s₁ with heap := h', toks := tk } := by
  refine ls_end ⟨items ++ [.int k t], ep + 1⟩ F N ?_ hmo hoff (fun _ hp => nomatch hp) hr (ints_next hI hh hk)
  intro p hp
  rcases List.mem_cons.mp hp with rfl | hp
  · rw [List.push_toArray] at hm1; exact hm1
  · exact hmr p hp
theorem out_end {i c : Nat} {w : List Nat} {t : Tok} {Y : Str} {items₀ : List Value} {ep₀ : Nat} {tk₀ : Tok} (hc : l[i]? = some c) (hw : w = wrs b (l.take i)) (hi : IntsAre items (found b S l (w.length + (wr b c).length))) (hY : Y = tx (w ++ wr b c)) (hoff : OwnOff own ((ledP lp rest ⟨items₀, ep₀, w, tk₀⟩).map (·.1)))
    (F : Fr h₀ L h' m') (N : News h₀ L h' all) (hm1 : (lp, listOf items.toArray ep) ∈ all) (hmr : ∀ p ∈ rest, p ∈ all) (hmo : ∀ p ∈ own, p ∈ all) (hps : m' (Str.ofString "ahead") = some (.str Y t))
    (hr : ∀ z, z ≠ x → (∀ p ∈ psP ⟨items, ep, w ++ wr b c, t⟩, z ≠ p.1) → storedP.contains z = false → m' z = m₀ z) :
    InvEndG h₀ L (LS (ledP lp rest) psP x storedP m₀ (InvP b S l) (i + 1)) own s₁ { s₁ with heap := h', toks := tk } := by
  subst hY
  refine ls_end ⟨items, ep, w ++ wr b c, t⟩ F N ?_ hmo hoff ?_ hr ⟨by rw [hw]; exact (wrs_take_succ hc).symm, ?_⟩
  · intro p hp
    rcases List.mem_cons.mp hp with rfl | hp
    · exact hm1
    · exact hmr p hp
  · intro p hp
    simp only [psP, List.mem_cons, List.not_mem_nil, or_false] at hp
    rw [hp]; exact hps
  · show IntsAre items (found b S l (w ++ wr b c).length)
    rw [List.length_append]
    exact hi
end
theorem ints_dat {led : List (Addr × Obj)} : ∀ {zs : List Value} {ns : List Int}, IntsAre zs ns → DatAll led zs (ns.map .int)
  | _, _, .nil => .nil
  | _, _, .cons i t h => .cons (.int _ _) (ints_dat h)
theorem places_ret {h₀ : Heap} {L q D : Addr} {m : Str → Option Value} {s : Shared} {Q : Value → Shared → Prop} {b : Bool} {l S : List Nat} {news all : List (Addr × Obj)} {h' : Heap} {tk n nq : Nat} {t : Tok} {zs : List Value} {W : List Nat}
    (hret : ∀ (q : Addr) led h' tk', Fr h₀ L h' m → News h₀ L h' (led ++ news) → DatIn led (.ref q) (.tuple [.str (tx (wrs b l)), .list ((found b S l (wrs b l).length).map .int)]) → Q (.ref q) { s with heap := h', toks := tk' })
    (hW : W = wrs b (l.take l.length)) (hz : IntsAre zs (found b S l W.length))
    (F : Fr h₀ L h' m) (N : News h₀ L h' all) (hmq : (q, ({ cls := .type "tuple", data := .seq [Value.str (tx W) t, .ref D].toArray nq } : Obj)) ∈ all) (hmD : (D, listOf zs.toArray n) ∈ all) (hmn : ∀ p ∈ news, p ∈ all) : Q (.ref q) { s with heap := h', toks := tk } := by
  rw [List.take_length] at hW
  subst hW
  have hd := ints_dat (led := [(q, ({ cls := .type "tuple", data := .seq [Value.str (tx (wrs b l)) t, .ref D].toArray nq } : Obj)), (D, listOf zs.toArray n)]) hz
  refine hret q [(q, ({ cls := .type "tuple", data := .seq [Value.str (tx (wrs b l)) t, .ref D].toArray nq } : Obj)), (D, listOf zs.toArray n)] h' tk F ?_ (.tuple (.head _) (.cons (.str _ _) (.cons (.list (.tail _ (.head _)) hd) .nil)))
  intro p hp
  refine N p ?_
  simp only [List.cons_append, List.nil_append, List.mem_cons] at hp
  rcases hp with rfl | rfl | hp
  · exact hmq
  · exact hmD
  · exact hmn p hp
end
section
open PySem PySem.W PyProof.Rows PySem.Calls PySem.Spec PySem.SeqAt
section
variable {prog : Program} {w : World} {A : Around} {E : Value → Shared → Prop} {s : Shared} {h₀ : Heap} {L : Addr} {news : List (Addr × Obj)}
theorem dat_int {led : List (Addr × Obj)} {v : Value} {i : Int} (h : DatIn led v (.int i)) : ∃ t, v = .int i t := by
  cases h; exact ⟨_, rfl⟩
theorem dat_str {led : List (Addr × Obj)} {v : Value} {x : Str} (h : DatIn led v (.str x)) : ∃ t, v = .str x t := by
  cases h; exact ⟨_, rfl⟩
theorem eq_ints {v v' : Value} {ns : List Int} (N : News h₀ L s.heap news) (d1 : DatIn news v (.list (ns.map .int))) (d2 : DatIn news v' (.list (ns.map .int))) (hu : A.units + 1 < cLine) : EqAt A s v v' true := by
  cases d1 with
  | list m1 r1 =>
    cases d2 with
    | list m2 r2 =>
      rename_i a vs n a' vs' n'
      have l1 := r1.length
      have l2 := r2.length
      rw [List.length_map] at l1 l2
      by_cases e : a = a'
      · subst e; exact EqAt.same _
      · refine EqAt.of_refs e ?_
        have q := RcAt.lists (A := A) (e := fun _ => true) ⟨_, (N _ m1).1, rfl, _, rfl⟩ ⟨_, (N _ m2).1, rfl, _, rfl⟩ (by simp; omega) (by omega) ?_
        · have e : ((List.range vs.toArray.size).all fun _ => true) = true := by simp
          rw [e] at q
          exact q
        · intro j j1 j2
          have hj : j < (ns.map Dat.int).length := by rw [List.length_map]; simp at j1; omega
          obtain ⟨x1, e1, k1⟩ := r1.get hj
          obtain ⟨x2, e2, k2⟩ := r2.get hj
          rw [List.getElem_map] at k1 k2
          obtain ⟨t1, rfl⟩ := dat_int k1
          obtain ⟨t2, rfl⟩ := dat_int k2
          have h5 : j < ns.length := by rw [List.length_map] at hj; exact hj
          have f1 : vs.toArray[j] = .int (ns[j]) t1 := by have := (List.getElem?_eq_some_iff.mp e1).2; simpa using this
          have f2 : vs'.toArray[j] = .int (ns[j]) t2 := by have := (List.getElem?_eq_some_iff.mp e2).2; simpa using this
          rw [f1, f2]
          have := (MeetsSeq.EqGives.int (ns[j]) (ns[j]) t1 t2).at A.in1 s
          rw [beq_self_eq_true] at this
          exact this
theorem eq_pairs {q q' : Addr} {n1 n2 : List (Addr × Obj)} {x : Str} {ns : List Int} {Q : Value → Shared → Prop} (N : News h₀ L s.heap news)
    (d1 : DatIn n1 (.ref q) (.tuple [.str x, .list (ns.map .int)])) (s1 : ∀ p ∈ n1, p ∈ news) (d2 : DatIn n2 (.ref q') (.tuple [.str x, .list (ns.map .int)])) (s2 : ∀ p ∈ n2, p ∈ news) (hu : A.units + 3 < cLine) (h : Q (.bool true) s) :
    wpAny (model prog w) A (compareOp .Eq (.ref q) (.ref q')) Q E s := by
  have d1' := d1.mono s1
  have d2' := d2.mono s2
  cases d1' with
  | tuple m1 r1 =>
    cases d2' with
    | tuple m2 r2 =>
      rename_i vs n vs' n'
      cases r1 with
      | cons a1 r1 =>
        cases r1 with
        | cons b1 r1 =>
          cases r1
          cases r2 with
          | cons a2 r2 =>
            cases r2 with
            | cons b2 r2 =>
              cases r2
              obtain ⟨t1, rfl⟩ := dat_str a1
              obtain ⟨t2, rfl⟩ := dat_str a2
              have q := RcAt.tuples (A := A) (s := s) (e := fun _ => true) ⟨_, (N _ m1).1, rfl, _, rfl⟩ ⟨_, (N _ m2).1, rfl, _, rfl⟩ (by omega) ?_
              · exact q prog w E Q h
              · intro j j1 j2
                have hj : j = 0 ∨ j = 1 := by simp at j1; omega
                rcases hj with rfl | rfl
                · have := (eqGives_str x x t1 t2).at A.in1 s
                  rw [beq_self_eq_true] at this
                  exact this
                · exact eq_ints N b1 b2 (by show A.units + 1 + 1 < cLine; omega)
end
section
variable {prog : Program} {w : World} {A : Around} {h₀ : Heap} {L : Addr} {m : Str → Option Value} {env : Env} {elt : Expr} {x : Str} {scope : Scope} {cl : List (Str × Addr)} {s : Shared} {S : List (Addr × Obj) → Prop} {Fin : List Value → List (Addr × Obj) → Prop} {news : List (Addr × Obj)}
open LCg in
theorem rest_texts {vs : List Value} {ns : List Int} (B : Nat) (hi : IntsAre vs ns) (hS : S news)
    (turn : ∀ k t I oI C oC D m₂ ys h tk (E' : Value → Shared → Prop) (QE : Value → Shared → Prop), NsObj oC m₂ → m₂ x = some (.int k t) → Fr h₀ L h m → News h₀ L h ((I, oI) :: (C, oC) :: (D, lst ys) :: news) → Off3 I C D news → ((@Ne Nat I C) ∧ (@Ne Nat I D) ∧ (@Ne Nat C D)) →
      (∀ (y : Str) t' h' tk', y.length ≤ B → Fr h₀ L h' m → News h₀ L h' ((I, oI) :: (C, oC) :: (D, lst ys) :: news) → QE (.str y t') { s with heap := h', toks := tk' }) →
      wpAny (model prog w) A (eval elt (compEnvC scope cl C env)) QE E' { s with heap := h, toks := tk })
    (fin : ∀ ys xs, StrsAre ys xs → xs.length = ns.length → (∀ z ∈ xs, z.length ≤ B) → Fin ys news) :
    CompRest prog w A h₀ L m env elt x scope cl s S (fun i v => vs.toArray[i]? = some v) Fin vs.toArray.size 0 [] news := by
  have key : ∀ (j i : Nat) (ys : List Value) (xs : List Str), i + j = vs.toArray.size → StrsAre ys xs → xs.length = i → (∀ z ∈ xs, z.length ≤ B) → CompRest prog w A h₀ L m env elt x scope cl s S (fun i v => vs.toArray[i]? = some v) Fin j i ys news := by
    intro j
    induction j with
    | zero =>
      intro i ys xs hn hy hl hb
      refine CompRest.zero (fin ys xs hy ?_ hb)
      have := hi.length
      simp at hn
      omega
    | succ j ih =>
      intro i ys xs hn hy hl hb
      refine CompRest.succ fun v I oI C oC D m₂ h tk E' hP hC hx F N off hne => ?_
      obtain ⟨k, t, e, hk⟩ := IntsAre.at hi i v (by simpa using hP)
      subst e
      refine turn k t I oI C oC D m₂ ys h tk E' _ hC hx F N off hne fun y t' h' tk' hyl F' N' => ?_
      refine ⟨h', tk', news, rfl, F', N', off, hS, ih (i + 1) (ys ++ [.str y t']) (xs ++ [y]) (by omega) (kct_snoc hy) (by simp; omega) ?_⟩
      intro z hz
      rcases List.mem_append.mp hz with hz | hz
      · exact hb z hz
      · cases List.mem_singleton.mp hz; exact hyl
  exact key _ 0 [] [] (Nat.zero_add _) .nil rfl fun _ hz => nomatch hz
end
/-- what law asks of the two texts: the writing, and where the sought one's stands -/
def asked (b : Bool) (x y : Str) : Dat := .tuple [.str (tx (wrs b x.cps.toList)), .list ((found b y.cps.toList x.cps.toList (wrs b x.cps.toList).length).map .int)]
theorem whole_len (y : Str) : (Txt.slice y none (some 60)).length ≤ 60 := by
  rw [slice_ns (by decide), tx_length, List.length_take]
  omega
end
section
set_option maxRecDepth 100000
open PySem PySem.W PyProof.Rows PySem.Calls PySem.Spec
local macro_rules | `(tactic| ktr_enter) => `(tactic| (refine' code_def ?k1 ?k2 ?k3 ?k4 ?k5 ?kA ?kF ?kK ?k6 ?k7 ?k8 ?k9 ?kB ?_ ?c2 ?c3 ?c4 ?c5; (case kA => exact rfl); (case kF => exact rfl); (case kK => first | assumption | exact rfl); (case k1 => k_asm); (case k2 => k_asm); (case k3 => k_asm); (case k4 => k_asm); (case k5 => k_asm); (case k6 => k_is); (case k7 => k_is); (case k8 => ktr_room); (case k9 => first | exact BindsTo.of_eq rfl | exact binds_K (by k_in) rfl (by k_is) rfl rfl rfl); (case c5 => decide); (case kB => exact locs rfl); (case c2 => exact rfl); (case c3 => exact rfl); (case c4 => exact rfl); k_whole; intro g' L' h' FG' F' N' B' X' T'; (try dsimp only); (try k_lift B'); (try k_fold)))
local macro_rules | `(tactic| walk_at "execs cons") => `(tactic| refine wpAny_execs_cons ?_)
set_option maxHeartbeats 8000000 in
theorem escape_spec {prog p : Program} {w : World} {loose : List Str} {mean : ExcName → Option Value} {mg mb : Str → Option Value}
  {dp un : Nat} {gd : Option (List Code)} {cn : Str} {cs : Scope} {a : Addr} {ccd : Value} {cl : List (Str × Addr)} {outer : List Env} {A₀ : Around} {base h₀ : Heap} {L : Addr} {m : Str → Option Value} {news : List (Addr × Obj)} {s : Shared}
    {Q E : Value → Shared → Prop} {x : Str} {tx : Tok} {b : Bool} 
    (B : Below A₀ base outer h₀) (F : Fr h₀ L s.heap m) (X : (hd.heap_39 w.params).In h₀) (N : News h₀ L s.heap news) (T : Top p loose mean mg mb h₀) (hk : cs.kind = .function) (hx : x.length ≤ 300) (hd : dp + 1 < recursionLimit) (hu : un + 8 < cLine)
    (hret : ∀ t h' tk', Fr h₀ L h' m → News h₀ L h' news → Q (.str (escT b x) t) { s with heap := h', toks := tk' }) : 
    wpAny (model prog w) (ktrTop dp un gd cn cs L a ccd cl outer) (call (.ref 22) [.str x tx, .bool b]) Q E s := by
  have l1 := repl_len (x := x) (y := Str.ofString "&") (z := Str.ofString "&amp;") (k := 4) (c := 38) (by decide +kernel) hx (by decide +kernel)
  have l2 := repl_len (y := Str.ofString "<") (z := Str.ofString "&lt;") (k := 3) (c := 60) (by decide +kernel) l1 (by decide +kernel)
  have l3 := repl_len (y := Str.ofString ">") (z := Str.ofString "&gt;") (k := 3) (c := 62) (by decide +kernel) l2 (by decide +kernel)
  have l4 := repl_len (y := Str.ofString "\"") (z := Str.ofString "&quot;") (k := 5) (c := 34) (by decide +kernel) l3 (by decide +kernel)
  w_top off
  refine wpAny_call ?_
  k_dflt ktr_enter
  k_steps
  all_goals (refine cb_retS (Q := Q) hret ?_ (by k_asm) (by k_asm))
  all_goals (simp_all [escT]; done)
end
section
set_option maxRecDepth 100000
open PySem PySem.W PyProof.Rows PySem.Calls PySem.Spec
local macro_rules | `(tactic| ktr_enter) => `(tactic| first
  | (refine' code_def ?k1 ?k2 ?k3 ?k4 ?k5 ?kA ?kF ?kK ?k6 ?k7 ?k8 ?k9 ?kB ?_ ?c2 ?c3 ?c4 ?c5; (case kA => exact rfl); (case kF => exact rfl); (case kK => first | assumption | exact rfl); (case k1 => k_asm); (case k2 => k_asm); (case k3 => k_asm); (case k4 => k_asm); (case k5 => k_asm); (case k6 => k_is); (case k7 => k_is); (case k8 => ktr_room); (case k9 => first | exact BindsTo.of_eq rfl | exact binds_K (by k_in) rfl (by k_is) rfl rfl rfl); (case c5 => decide); (case kB => exact locs rfl); (case c2 => exact rfl); (case c3 => exact rfl); (case c4 => exact rfl); k_whole; intro g' L' h' FG' F' N' B' X' T'; (try dsimp only); (try k_lift B'); (try k_fold))
  | (refine' code_defC ?k1 ?k2 ?k3 ?k4 ?k5 ?kA ?kF ?kK ?k6 ?k7 ?k8 ?k9 ?kB ?kD ?_ ?c2 ?c3 ?c4; (case kA => exact rfl); (case kF => exact rfl); (case kK => first | assumption | exact rfl); (case k1 => k_asm); (case k2 => k_asm); (case k3 => k_asm); (case k4 => k_asm); (case k5 => k_asm); (case k6 => k_is); (case k7 => k_is); (case k8 => ktr_room); (case k9 => first | exact BindsTo.of_eq rfl | exact binds_K (by k_in) rfl (by k_is) rfl rfl rfl); (case kB => exact rfl); (case kD => decide +kernel); (case c2 => exact rfl); (case c3 => exact rfl); (case c4 => exact rfl); k_whole; intro g' L' h' tk' cells' FG' F' N' Y' B' X' T' l1; (try k_lt l1); k_cells Y'; (try simp only [List.cons_append, List.nil_append] at N'); (try dsimp only); (try k_lift B'); (try k_fold)))
local macro_rules | `(tactic| kst_same) => `(tactic| (intro z h1 h2 h3; (simp only [List.contains_cons, List.contains_nil, Bool.or_false, Bool.or_eq_false_iff, beq_eq_false_iff_ne, ne_eq] at h3); (simp only [List.forall_mem_cons, List.not_mem_nil, false_implies, implies_true, and_true, ne_eq] at h2); (simp [kstB, h1, h2, h3]; done)))
local macro_rules | `(tactic| k_all) => `(tactic| first | assumption | (intro p9 h9; refine LtAll.ne (by assumption) ?_; (repeat (first | exact h9 | refine List.Mem.tail _ ?_)); done))
local macro_rules | `(tactic| k_lt $h:ident) => `(tactic| ((have hk9 := LtAll.of $h); (replace $h := allLt_of $h); (try simp only [AllLt, and_true] at $h:ident)))
local macro_rules | `(tactic| ktr_rel) => `(tactic| (first | (k_unfold; (try dsimp only)) | ((fail_if_success (with_reducible show wpAny _ _ (exec (Stmt.For _ _ _ _ _) _) _ _ _)); (fail_if_success (with_reducible show wpAny _ _ (exec (Stmt.While _ _ _ _) _) _ _ _)); (fail_if_success (with_reducible show wpAny _ _ (pyIter _) _ _ _)); (fail_if_success (with_reducible show InvPostG _ _ _ _ _ _ _ _)); (fail_if_success (with_reducible show KswPost _ _ _ _ _ _ _ _ _ _ _ _ _ _)); (fail_if_success (with_reducible show wpAny _ _ (exec (Stmt.Assign _ (Expr.ListComp _ _ _ _) _) _) _ _ _)); first | walk1 | (dsimp only; walk1))))
local macro_rules | `(tactic| walk_at "subscriptTail Name Constant ref int") => `(tactic| (k_here; k_dflt (first
  | (refine' list_item ?tN ?tm ?t0 ?t1 ?tv ?_ ?ts; (case tN => k_asm); (case tm => k_mem); (case t0 => decide); (case t1 => decide); (case tv => exact rfl); (case ts => with_unfolding_all rfl); k_whole)
  | (refine' tup_item ?tN ?tm ?t0 ?t1 ?tv ?_ ?ts; (case tN => k_asm); (case tm => k_mem); (case t0 => decide); (case t1 => decide); (case tv => exact rfl); (case ts => with_unfolding_all rfl); k_whole))))
local macro_rules | `(tactic| walk_at "subscriptTail Subscript Name Constant Constant ref int") => `(tactic| (k_here; k_dflt (first
  | (refine' list_item ?tN ?tm ?t0 ?t1 ?tv ?_ ?ts; (case tN => k_asm); (case tm => k_mem); (case t0 => decide); (case t1 => decide); (case tv => exact rfl); (case ts => with_unfolding_all rfl); k_whole)
  | (refine' tup_item ?tN ?tm ?t0 ?t1 ?tv ?_ ?ts; (case tN => k_asm); (case tm => k_mem); (case t0 => decide); (case t1 => decide); (case tv => exact rfl); (case ts => with_unfolding_all rfl); k_whole))))
local macro_rules | `(tactic| walk_at "binaryOp Add str str") => `(tactic| (k_here; (try dsimp only); refine add_short 100000 (by decide) (by first | omega | decide) (by first | omega | decide) ?_; intro t9 k9))
local macro_rules | `(tactic| walk_at "call builtin:list.append cons nil") => `(tactic| (k_here; k_dflt (refine' append_K ?k1 ?k2 ?k3 ?_ ?z; (case k1 => k_asm); (case k2 => k_asm); (case k3 => k_upd); (case z => (simp only [List.size_toArray, sizeLine_eq]; omega)); k_whole); intro h' F' N'; (try k_sweep)))
local macro_rules | `(tactic| ksw_same) => `(tactic| (intro z h2 h3; (simp only [List.contains_cons, List.contains_nil, Bool.or_false, Bool.or_eq_false_iff, beq_eq_false_iff_ne, ne_eq] at h3); (simp only [List.forall_mem_cons, List.not_mem_nil, false_implies, implies_true, and_true, ne_eq] at h2); (simp [kstB, h2, h3]; done)))
local macro_rules | `(tactic| kst_mem) => `(tactic| (intro p9 h9; (repeat (first | exact h9 | refine List.Mem.tail _ ?_)); done))
local macro_rules | `(tactic| kst_allIn) => `(tactic| first | exact List.forall_mem_nil _ | (refine List.forall_mem_cons.mpr ⟨by k_mem, ?_⟩; kst_allIn))
local macro_rules | `(tactic| walk_at "subscriptTail Name Name ref int") => `(tactic| (k_here; k_dflt (refine' tab_item (B := 5) ?tN ?tm ?tv ?t0 ?t1 ?tl ?_ ?ts; (case tN => k_asm); (case tm => k_mem); (case tv => simp only [List.forall_mem_cons]; repeat' (first | exact List.forall_mem_nil _ | exact ⟨_, _, rfl, by decide +kernel⟩ | constructor)); (case t0 => omega); (case t1 => simp only [List.length_cons, List.length_nil]; omega); (case tl => (simp only [List.length_cons, List.length_nil]; decide)); (case ts => with_unfolding_all rfl); k_whole); intro xT tT hT))
local macro_rules | `(tactic| walk_at "subscriptTail Tuple cons Name ref int") => `(tactic| (k_here; k_dflt (refine' tab_item (B := 5) ?tN ?tm ?tv ?t0 ?t1 ?tl ?_ ?ts; (case tN => k_asm); (case tm => k_mem); (case tv => simp only [List.forall_mem_cons]; repeat' (first | exact List.forall_mem_nil _ | exact ⟨_, _, rfl, by decide +kernel⟩ | constructor)); (case t0 => omega); (case t1 => simp only [List.length_cons, List.length_nil]; omega); (case tl => (simp only [List.length_cons, List.length_nil]; decide)); (case ts => with_unfolding_all rfl); k_whole); intro xT tT hT))
set_option maxHeartbeats 8000000 in
theorem piece_spec {prog p : Program} {w : World} {loose : List Str} {mean : ExcName → Option Value} {mg mb : Str → Option Value}
  {dp un : Nat} {gd : Option (List Code)} {cn : Str} {cs : Scope} {a : Addr} {ccd : Value} {cl : List (Str × Addr)} {outer : List Env} {A₀ : Around} {base h₀ : Heap} {L : Addr} {m : Str → Option Value} {s : Shared}
    {Q E : Value → Shared → Prop} {n : Int} {tn : Tok} {x : Str} {t : Tok} {news : List (Addr × Obj)}
    (B : Below A₀ base outer h₀) (F : Fr h₀ L s.heap m) (X : (hd.heap_39 w.params).In h₀) (N : News h₀ L s.heap news) (T : Top p loose mean mg mb h₀) (hk : cs.kind = .function) (hx : x.length ≤ 1000) (hd : dp + 1 < recursionLimit) (hu : un + 8 < cLine)
    (hret : ∀ (y : Str) t h' tk', y.length ≤ x.length + 5 → Fr h₀ L h' m → News h₀ L h' news → Q (.str y t) { s with heap := h', toks := tk' }) :
    wpAny (model prog w) (ktrTop dp un gd cn cs L a ccd cl outer) (call (.ref 29) [.int n tn, .str x t]) Q E s := by
  w_top off
  refine wpAny_call ?_
  k_dflt ktr_enter
  have hb1 := fmod_bounds n 19 (by decide)
  have hb2 := fmod_bounds (n.fdiv 19) 5 (by decide)
  have hb3 := fmod_bounds (n.fdiv 19) 1112064 (by decide)
  have hb4 := fmod_bounds ((n.fdiv 19).fdiv 5) 5 (by decide)
  have hs5 : ∀ k : Int, (Txt.slice x (some k) none).length ≤ x.length := fun k => Txt.slice_le _ _ _
  have hs6 := hs5 (((n.fdiv 19).fdiv 5).fmod 5 + 1)
  w_strict (repeat' ktr_rel)
  all_goals (rename Fr h₀ _ _ _ => F5; rename News h₀ _ _ _ => N5)
  · exact hret _ _ _ _ (by omega) F5 (kst_newsOf N5 (by kst_mem))
  · exact hret _ _ _ _ (by show 1 ≤ _; omega) F5 (kst_newsOf N5 (by kst_mem))
  · exact hret _ _ _ _ (by show 1 ≤ _; omega) F5 (kst_newsOf N5 (by kst_mem))
  · exact hret _ _ _ _ (by omega) F5 (kst_newsOf N5 (by kst_mem))
  · exact hret _ _ _ _ (by rw [Str.length_append]; show 1 + _ ≤ _; omega) F5 (kst_newsOf N5 (by kst_mem))
end
section
set_option maxRecDepth 100000
open PySem PySem.W PyProof.Rows PySem.Calls PySem.Spec
local macro_rules | `(tactic| ktr_enter) => `(tactic| first
  | (refine' code_def ?k1 ?k2 ?k3 ?k4 ?k5 ?kA ?kF ?kK ?k6 ?k7 ?k8 ?k9 ?kB ?_ ?c2 ?c3 ?c4 ?c5; (case kA => exact rfl); (case kF => exact rfl); (case kK => first | assumption | exact rfl); (case k1 => k_asm); (case k2 => k_asm); (case k3 => k_asm); (case k4 => k_asm); (case k5 => k_asm); (case k6 => k_is); (case k7 => k_is); (case k8 => ktr_room); (case k9 => first | exact BindsTo.of_eq rfl | exact binds_K (by k_in) rfl (by k_is) rfl rfl rfl); (case c5 => decide); (case kB => exact locs rfl); (case c2 => exact rfl); (case c3 => exact rfl); (case c4 => exact rfl); k_whole; intro g' L' h' FG' F' N' B' X' T'; (try dsimp only); (try k_lift B'); (try k_fold))
  | (refine' code_defC ?k1 ?k2 ?k3 ?k4 ?k5 ?kA ?kF ?kK ?k6 ?k7 ?k8 ?k9 ?kB ?kD ?_ ?c2 ?c3 ?c4; (case kA => exact rfl); (case kF => exact rfl); (case kK => first | assumption | exact rfl); (case k1 => k_asm); (case k2 => k_asm); (case k3 => k_asm); (case k4 => k_asm); (case k5 => k_asm); (case k6 => k_is); (case k7 => k_is); (case k8 => ktr_room); (case k9 => first | exact BindsTo.of_eq rfl | exact binds_K (by k_in) rfl (by k_is) rfl rfl rfl); (case kB => exact rfl); (case kD => decide +kernel); (case c2 => exact rfl); (case c3 => exact rfl); (case c4 => exact rfl); k_whole; intro g' L' h' tk' cells' FG' F' N' Y' B' X' T' l1; (try k_lt l1); k_cells Y'; (try simp only [List.cons_append, List.nil_append] at N'); (try dsimp only); (try k_lift B'); (try k_fold)))
local macro_rules | `(tactic| kst_same) => `(tactic| (intro z h1 h2 h3; (simp only [List.contains_cons, List.contains_nil, Bool.or_false, Bool.or_eq_false_iff, beq_eq_false_iff_ne, ne_eq] at h3); (simp only [List.forall_mem_cons, List.not_mem_nil, false_implies, implies_true, and_true, ne_eq] at h2); (simp [kstB, h1, h2, h3]; done)))
local macro_rules | `(tactic| k_all) => `(tactic| first | assumption | (intro p9 h9; refine LtAll.ne (by assumption) ?_; (repeat (first | exact h9 | refine List.Mem.tail _ ?_)); done))
local macro_rules | `(tactic| k_lt $h:ident) => `(tactic| ((have hk9 := LtAll.of $h); (replace $h := allLt_of $h); (try simp only [AllLt, and_true] at $h:ident)))
local macro_rules | `(tactic| ktr_rel) => `(tactic| (first | (k_unfold; (try dsimp only)) | ((fail_if_success (with_reducible show wpAny _ _ (exec (Stmt.For _ _ _ _ _) _) _ _ _)); (fail_if_success (with_reducible show wpAny _ _ (exec (Stmt.While _ _ _ _) _) _ _ _)); (fail_if_success (with_reducible show wpAny _ _ (pyIter _) _ _ _)); (fail_if_success (with_reducible show InvPostG _ _ _ _ _ _ _ _)); (fail_if_success (with_reducible show KswPost _ _ _ _ _ _ _ _ _ _ _ _ _ _)); (fail_if_success (with_reducible show wpAny _ _ (exec (Stmt.Assign _ (Expr.ListComp _ _ _ _) _) _) _ _ _)); first | walk1 | (dsimp only; walk1))))
local macro_rules | `(tactic| walk_at "subscriptTail Name Constant ref int") => `(tactic| (k_here; k_dflt (first
  | (refine' list_item ?tN ?tm ?t0 ?t1 ?tv ?_ ?ts; (case tN => k_asm); (case tm => k_mem); (case t0 => decide); (case t1 => decide); (case tv => exact rfl); (case ts => with_unfolding_all rfl); k_whole)
  | (refine' tup_item ?tN ?tm ?t0 ?t1 ?tv ?_ ?ts; (case tN => k_asm); (case tm => k_mem); (case t0 => decide); (case t1 => decide); (case tv => exact rfl); (case ts => with_unfolding_all rfl); k_whole))))
local macro_rules | `(tactic| walk_at "subscriptTail Subscript Name Constant Constant ref int") => `(tactic| (k_here; k_dflt (first
  | (refine' list_item ?tN ?tm ?t0 ?t1 ?tv ?_ ?ts; (case tN => k_asm); (case tm => k_mem); (case t0 => decide); (case t1 => decide); (case tv => exact rfl); (case ts => with_unfolding_all rfl); k_whole)
  | (refine' tup_item ?tN ?tm ?t0 ?t1 ?tv ?_ ?ts; (case tN => k_asm); (case tm => k_mem); (case t0 => decide); (case t1 => decide); (case tv => exact rfl); (case ts => with_unfolding_all rfl); k_whole))))
local macro_rules | `(tactic| walk_at "binaryOp Add str str") => `(tactic| (k_here; (try dsimp only); refine add_short 100000 (by decide) (by first | omega | decide) (by first | omega | decide) ?_; intro t9 k9))
local macro_rules | `(tactic| walk_at "call builtin:list.append cons nil") => `(tactic| (k_here; k_dflt (refine' append_K ?k1 ?k2 ?k3 ?_ ?z; (case k1 => k_asm); (case k2 => k_asm); (case k3 => k_upd); (case z => (simp only [List.size_toArray, sizeLine_eq]; omega)); k_whole); intro h' F' N'; (try k_sweep)))
local macro_rules | `(tactic| ksw_same) => `(tactic| (intro z h2 h3; (simp only [List.contains_cons, List.contains_nil, Bool.or_false, Bool.or_eq_false_iff, beq_eq_false_iff_ne, ne_eq] at h3); (simp only [List.forall_mem_cons, List.not_mem_nil, false_implies, implies_true, and_true, ne_eq] at h2); (simp [kstB, h2, h3]; done)))
local macro_rules | `(tactic| kst_mem) => `(tactic| (intro p9 h9; (repeat (first | exact h9 | refine List.Mem.tail _ ?_)); done))
local macro_rules | `(tactic| kst_allIn) => `(tactic| first | exact List.forall_mem_nil _ | (refine List.forall_mem_cons.mpr ⟨by k_mem, ?_⟩; kst_allIn))
local macro_rules | `(tactic| walk_at "call ref cons nil") => `(tactic| (k_here; (with_reducible show wpAny _ _ (call (Value.ref 29) _ _) _ _ _); k_dflt (refine' piece_spec ?k1 ?k2 ?k3 ?k4 ?k5 ?kK ?kx ?kd ?ku ?_; (case k1 => k_asm); (case k2 => k_asm); (case k3 => k_asm); (case k4 => k_asm); (case k5 => k_asm); (case kK => first | exact rfl | assumption); (case kx => first | assumption | omega); (case kd => ktr_room); (case ku => ktr_units); k_whole); intro y9 t9 h9 tk9 hy9 F9 N9; (try dsimp only)))
theorem pow_three {i : Nat} (h : i ≤ 3) : 5 * 2 ^ i ≤ 40 := by
  have h3 : i = 0 ∨ i = 1 ∨ i = 2 ∨ i = 3 := by omega
  rcases h3 with rfl | rfl | rfl | rfl <;> decide
theorem pow_bound {i a c : Nat} (hi : i < 3) (ha : a + 5 ≤ 5 * 2 ^ i) (hc : c ≤ a + 5) : a ≤ 35 ∧ (a + c) + 5 ≤ 5 * 2 ^ (i + 1) := by
  have h3 : i = 0 ∨ i = 1 ∨ i = 2 := by omega
  rcases h3 with rfl | rfl | rfl <;> simp at ha ⊢ <;> omega
set_option maxHeartbeats 8000000 in
theorem sought_spec {prog p : Program} {w : World} {loose : List Str} {mean : ExcName → Option Value} {mg mb : Str → Option Value}
  {dp un : Nat} {gd : Option (List Code)} {cn : Str} {cs : Scope} {a : Addr} {ccd : Value} {cl : List (Str × Addr)} {outer : List Env} {A₀ : Around} {base h₀ : Heap} {L : Addr} {m : Str → Option Value} {s : Shared}
    {Q E : Value → Shared → Prop} {l : Addr} {vs : List Value} {ns : List Int} {nn : Nat} {news : List (Addr × Obj)}
    (B : Below A₀ base outer h₀) (F : Fr h₀ L s.heap m) (X : (hd.heap_39 w.params).In h₀) (N : News h₀ L s.heap ((l, listOf vs.toArray nn) :: news)) (T : Top p loose mean mg mb h₀) (hk : cs.kind = .function) (hi : IntsAre vs ns) (hlen : ns.length ≤ 3) (hd : dp + 2 < recursionLimit) (hu : un + 16 < cLine)
    (hret : ∀ (x : Str) t h' tk', x.length ≤ 35 → 0 < x.length → Fr h₀ L h' m → News h₀ L h' news → Q (.str x t) { s with heap := h', toks := tk' }) :
    wpAny (model prog w) (ktrTop dp un gd cn cs L a ccd cl outer) (call (.ref 36) [.ref l]) Q E s := by
  w_top off
  refine wpAny_call ?_
  k_dflt ktr_enter
  w_strict (repeat' ktr_rel)
  rename Fr _ _ _ _ => F1
  k_dflt (refine For_invVF F1 rfl rfl ?_)
  w_strict (repeat' ktr_rel)
  rename News _ _ _ _ => N1
  refine for_list (vs := vs) (nn := nn) (σ := Str × Tok) (fun _ => (l, listOf vs.toArray nn) :: news) (fun c => [(Str.ofString "sought", .str c.1 c.2)]) [] (fun i c => c.1.length + 5 ≤ 5 * 2 ^ i ∧ i ≤ 3) (Str.ofString "", _) rfl ?_ F1 N1 (by kst_all) ?_ ?_ ?_
  · intro c; exact .head _
  · exact ⟨by show (Str.ofString "").length + 5 ≤ 5 * 2 ^ 0; decide +kernel, by decide⟩
  · rintro i v ⟨y, ty⟩ u h tk own hv hoff ⟨hy, hi3⟩ F2 N2
    have hvl := hi.length
    have hi4 : i < ns.length := by have := (List.getElem?_eq_some_iff.mp hv).1; omega
    obtain ⟨n, tn, rfl⟩ : ∃ n t, v = .int n t := by
      obtain ⟨t, ht⟩ := hi.get i (ns[i]'hi4) (by simp)
      rw [hv] at ht
      exact ⟨_, t, Option.some.inj ht⟩
    clear F1 N1
    dsimp only at hy hi3
    have hy35 : y.length ≤ 35 := (pow_bound (i := i) (c := 0) (by omega) hy (by omega)).1
    simp only [List.cons_append] at N2
    w_strict (repeat' ktr_rel)
    rename (Str.length _ ≤ y.length + 5) => hy9
    rename Fr _ _ _ _ => F9
    rename News _ _ _ _ => N9
    refine ls_end (_, _) F9 N9 ?_ ?_ hoff (by kst_all) (by kst_same) ⟨?_, by omega⟩
    · exact fun p hp => (List.mem_append.mpr (.inl hp) : p ∈ (_ :: _) ++ own)
    · exact fun p hp => (List.mem_append.mpr (.inr hp) : p ∈ (_ :: _) ++ own)
    · show (_ ++ _ : Str).length + 5 ≤ _
      rw [Str.length_append]
      exact (pow_bound (by omega) hy hy9).2
  · rintro ⟨y, ty⟩ u h tk ⟨hy, hi3⟩ F2 N2
    clear F1 N1
    dsimp only at hy hi3
    dsimp only
    have h3 := pow_three (i := vs.length) (by have := hi.length; omega)
    w_strict (repeat' ktr_rel)
    all_goals (rename News h₀ _ _ _ => N9)
    · rename (_ != _) = true => hq
      refine hret y ty _ _ (by omega) (Nat.pos_of_ne_zero fun h0 => ?_) (by k_asm) (kst_newsOf N9 (by kst_mem))
      have e : y = Str.ofString "" := by
        obtain ⟨⟨c⟩⟩ := y
        cases c with
        | nil => decide +kernel
        | cons a r => simp [Str.length] at h0
      rw [e] at hq
      have : (Str.ofString "" != Str.ofString "") = false := by decide +kernel
      rw [this] at hq
      cases hq
    · exact hret _ _ _ _ (by decide +kernel) (by decide +kernel) (by k_asm) (kst_newsOf N9 (by kst_mem))
end
section
set_option maxRecDepth 100000
open PySem PySem.W PyProof.Rows PySem.Calls PySem.Spec
local macro_rules | `(tactic| ktr_enter) => `(tactic| first
  | (refine' code_def ?k1 ?k2 ?k3 ?k4 ?k5 ?kA ?kF ?kK ?k6 ?k7 ?k8 ?k9 ?kB ?_ ?c2 ?c3 ?c4 ?c5; (case kA => exact rfl); (case kF => exact rfl); (case kK => first | assumption | exact rfl); (case k1 => k_asm); (case k2 => k_asm); (case k3 => k_asm); (case k4 => k_asm); (case k5 => k_asm); (case k6 => k_is); (case k7 => k_is); (case k8 => ktr_room); (case k9 => first | exact BindsTo.of_eq rfl | exact binds_K (by k_in) rfl (by k_is) rfl rfl rfl); (case c5 => decide); (case kB => exact locs rfl); (case c2 => exact rfl); (case c3 => exact rfl); (case c4 => exact rfl); k_whole; intro g' L' h' FG' F' N' B' X' T'; (try dsimp only); (try k_lift B'); (try k_fold))
  | (refine' code_defC ?k1 ?k2 ?k3 ?k4 ?k5 ?kA ?kF ?kK ?k6 ?k7 ?k8 ?k9 ?kB ?kD ?_ ?c2 ?c3 ?c4; (case kA => exact rfl); (case kF => exact rfl); (case kK => first | assumption | exact rfl); (case k1 => k_asm); (case k2 => k_asm); (case k3 => k_asm); (case k4 => k_asm); (case k5 => k_asm); (case k6 => k_is); (case k7 => k_is); (case k8 => ktr_room); (case k9 => first | exact BindsTo.of_eq rfl | exact binds_K (by k_in) rfl (by k_is) rfl rfl rfl); (case kB => exact rfl); (case kD => decide +kernel); (case c2 => exact rfl); (case c3 => exact rfl); (case c4 => exact rfl); k_whole; intro g' L' h' tk' cells' FG' F' N' Y' B' X' T' l1; (try k_lt l1); k_cells Y'; (try simp only [List.cons_append, List.nil_append] at N'); (try dsimp only); (try k_lift B'); (try k_fold)))
local macro_rules | `(tactic| kst_same) => `(tactic| (intro z h1 h2 h3; (simp only [storedI, storedP, List.contains_cons, List.contains_nil, Bool.or_false, Bool.or_eq_false_iff, beq_eq_false_iff_ne, ne_eq] at h3); (simp only [psP, List.forall_mem_cons, List.not_mem_nil, false_implies, implies_true, and_true, ne_eq] at h2); (simp [kstB, storedI, storedP, psP, h1, h2, h3]; done)))
local macro_rules | `(tactic| k_all) => `(tactic| first | assumption | (intro p9 h9; refine LtAll.ne (by assumption) ?_; (repeat (first | exact h9 | refine List.Mem.tail _ ?_)); done))
local macro_rules | `(tactic| k_lt $h:ident) => `(tactic| ((have hk9 := LtAll.of $h); (replace $h := allLt_of $h); (try simp only [AllLt, and_true] at $h:ident)))
local macro_rules | `(tactic| ktr_rel) => `(tactic| (first | (k_unfold; (try dsimp only)) | ((fail_if_success (with_reducible show wpAny _ _ (exec (Stmt.For _ _ _ _ _) _) _ _ _)); (fail_if_success (with_reducible show wpAny _ _ (exec (Stmt.While _ _ _ _) _) _ _ _)); (fail_if_success (with_reducible show wpAny _ _ (pyIter _) _ _ _)); (fail_if_success (with_reducible show wpAny _ _ (call (Value.builtin "dict.get") _ _) _ _ _)); (fail_if_success (with_reducible show ite (true = true) _ _)); (fail_if_success (with_reducible show ite (false = true) _ _)); (fail_if_success (with_reducible show InvPostG _ _ _ _ _ _ _ _)); (fail_if_success (with_reducible show KswPost _ _ _ _ _ _ _ _ _ _ _ _ _ _)); (fail_if_success (with_reducible show wpAny _ _ (exec (Stmt.Assign _ (Expr.ListComp _ _ _ _) _) _) _ _ _)); first | walk1 | (dsimp only; walk1))))
local macro_rules | `(tactic| walk_at "subscriptTail Name Constant ref int") => `(tactic| (k_here; k_dflt (first
  | (refine' list_item ?tN ?tm ?t0 ?t1 ?tv ?_ ?ts; (case tN => k_asm); (case tm => k_mem); (case t0 => decide); (case t1 => decide); (case tv => exact rfl); (case ts => with_unfolding_all rfl); k_whole)
  | (refine' tup_item ?tN ?tm ?t0 ?t1 ?tv ?_ ?ts; (case tN => k_asm); (case tm => k_mem); (case t0 => decide); (case t1 => decide); (case tv => exact rfl); (case ts => with_unfolding_all rfl); k_whole))))
local macro_rules | `(tactic| walk_at "subscriptTail Subscript Name Constant Constant ref int") => `(tactic| (k_here; k_dflt (first
  | (refine' list_item ?tN ?tm ?t0 ?t1 ?tv ?_ ?ts; (case tN => k_asm); (case tm => k_mem); (case t0 => decide); (case t1 => decide); (case tv => exact rfl); (case ts => with_unfolding_all rfl); k_whole)
  | (refine' tup_item ?tN ?tm ?t0 ?t1 ?tv ?_ ?ts; (case tN => k_asm); (case tm => k_mem); (case t0 => decide); (case t1 => decide); (case tv => exact rfl); (case ts => with_unfolding_all rfl); k_whole))))
local macro_rules | `(tactic| walk_at "binaryOp Add str str") => `(tactic| (k_here; (try dsimp only); refine add_short 100000 (by decide) (by first | omega | decide) (by first | omega | decide) ?_; intro t9 k9))
local macro_rules | `(tactic| walk_at "call builtin:list.append cons nil") => `(tactic| (k_here; k_dflt (refine' append_K ?k1 ?k2 ?k3 ?_ ?z; (case k1 => k_asm); (case k2 => k_asm); (case k3 => k_upd); (case z => (simp only [List.size_toArray, sizeLine_eq]; omega)); k_whole); intro h' F' N'; (try k_sweep)))
local macro_rules | `(tactic| ksw_same) => `(tactic| (intro z h2 h3; (simp only [List.contains_cons, List.contains_nil, Bool.or_false, Bool.or_eq_false_iff, beq_eq_false_iff_ne, ne_eq] at h3); (simp only [List.forall_mem_cons, List.not_mem_nil, false_implies, implies_true, and_true, ne_eq] at h2); (simp [kstB, h2, h3]; done)))
local macro_rules | `(tactic| kst_mem) => `(tactic| (intro p9 h9; (repeat (first | exact h9 | refine List.Mem.tail _ ?_)); done))
local macro_rules | `(tactic| kst_allIn) => `(tactic| first | exact List.forall_mem_nil _ | (refine List.forall_mem_cons.mpr ⟨by k_mem, ?_⟩; kst_allIn))
set_option maxHeartbeats 8000000 in
theorem places_spec_true {prog p : Program} {w : World} {loose : List Str} {mean : ExcName → Option Value} {mg mb : Str → Option Value}
  {dp un : Nat} {gd : Option (List Code)} {cn : Str} {cs : Scope} {a : Addr} {ccd : Value} {cl : List (Str × Addr)} {outer : List Env} {A₀ : Around} {base h₀ : Heap} {L : Addr} {m : Str → Option Value} {s : Shared}
    {Q E : Value → Shared → Prop} {l S : List Nat} {t1 t2 : Tok} {news : List (Addr × Obj)}
    (B : Below A₀ base outer h₀) (F : Fr h₀ L s.heap m) (X : (hd.heap_39 w.params).In h₀) (N : News h₀ L s.heap news) (T : Top p loose mean mg mb h₀) (hk : cs.kind = .function) (hl : l.length ≤ 60) (hS : S.length ≤ 35) (hd : dp + 2 < recursionLimit) (hu : un + 16 < cLine)
    (hret : ∀ (q : Addr) led h' tk', Fr h₀ L h' m → News h₀ L h' (led ++ news) → DatIn led (.ref q) (.tuple [.str (tx (wrs true l)), .list ((found true S l (wrs true l).length).map .int)]) → Q (.ref q) { s with heap := h', toks := tk' }) :
    wpAny (model prog w) (ktrTop dp un gd cn cs L a ccd cl outer) (call (.ref 43) [.str (tx l) t1, .str (tx S) t2, .bool true]) Q E s := by
  w_top off
  refine wpAny_call ?_
  k_dflt ktr_enter
  have hl1 : (tx l).length ≤ 60 := by rw [tx_length]; exact hl
  have hl2 : (tx S).length ≤ 35 := by rw [tx_length]; exact hS
  w_strict (repeat' ktr_rel)
  with_reducible refine ite_pos rfl ?_
  w_strict (repeat' ktr_rel)
  rename Fr _ _ _ _ => F4
  k_dflt (refine For_invVF F4 rfl rfl ?_)
  w_strict (repeat' ktr_rel)
  rename Fr _ _ _ _ => F5
  rename News _ _ _ _ => N5
  rename IsRange _ _ _ _ _ _ _ _ => hR
  refine places_for (b := true) (S := S) (l := l) (by rw [tx_length]) (by omega) rfl hR F5 N5 (by kst_all) ?_ ?_
  · intro i c ti st u5 h5 tk5 own hc hown hI F6 N6
    obtain ⟨items, ep, W, tkW⟩ := st
    obtain ⟨hW, hints⟩ := hI
    dsimp only at hW hints
    clear F5 N5 hR
    simp only [ledP, List.cons_append, List.nil_append] at N6
    simp only [psP] at F6
    have hitm := item_at (x := tx l) (by rw [tx_toList]; exact hc)
    have hilt : i < (tx l).length := by rw [tx_length]; exact (List.getElem?_eq_some_iff.mp hc).1
    have hwx : (tx (wr true c)).length ≤ 1000 := by rw [tx_length]; have := (wr_len true c).2; omega
    have hWl : (tx W).length ≤ 360 := by
      rw [tx_length, hW]
      have h1 := wrs_len true (l.take i)
      have h2 : (l.take i).length ≤ l.length := by rw [List.length_take]; omega
      omega
    have hil : items.length ≤ 360 := by
      have h1 := hints.length
      have h2 := found_len true S l W.length
      rw [tx_length] at hWl
      omega
    have hoA := off_append (a := news) (by k_all) (hown.ne (.head _))
    w_strict (repeat' ktr_rel)
    rw [hitm]
    k_dflt (refine get_ref (b := true) (by k_asm) (by k_mem) (by assumption) (by assumption) (by assumption) rfl ?_)
    intro tw
    w_strict (repeat' ktr_rel)
    · rename Fr _ _ _ _ => F7
      k_dflt (refine For_invVF F7 rfl rfl ?_)
      w_strict (repeat' ktr_rel)
      rename Fr _ _ _ _ => F8
      rename News _ _ _ _ => N8
      rename IsRange _ _ _ _ _ _ _ _ => hR8
      simp only [List.push_toArray] at N8
      rename (_ == _) = true => hq
      have hh : hit true S l W.length = true := by rw [hW, ← zero_slice hc]; exact hq
      refine inside_for (b := true) (S := S) (l := l) (W := W.length) (k := (wr true c).length) (by rw [tx_length]) (wr_len true c).1 (by have := (wr_len true c).2; omega) rfl hR8 F8 N8 (ints_next hints hh (by rw [tx_length])) ?_ ?_
      · intro j tj st u9 h9 tk9 own9 hj hown9 hI9 F10 N10
        obtain ⟨its9, ep9⟩ := st
        clear F8 N8 hR8
        simp only [ledI, List.cons_append, List.append_assoc] at N10
        have hil9 : its9.length ≤ 400 := by
          have h1 := IntsAre.length hI9
          have h2 := found_len true S l (W.length + 1 + j)
          have h3 := (wr_len true c).2
          rw [tx_length] at hWl
          dsimp only at h1
          omega
        have ht9 : (Txt.slice (tx (wr true c)) (some (1 + (j : Int))) none).length ≤ 1000 := Nat.le_trans (Txt.slice_le _ _ _) hwx
        have hin := in_slice (b := true) (S := S) hc (by omega) (j := j) rfl rfl
        rw [← hW, show W.length + (1 + j) = W.length + 1 + j by omega] at hin
        have hoB : ∀ p ∈ news ++ (own ++ own9), p.1 ≠ _ := off_append (by k_all) (off_append (hown.ne (.head _)) (hown9.ne (.head _)))
        w_strict (repeat' ktr_rel)
        · with_reducible refine ite_pos rfl ?_
          w_strict (repeat' ktr_rel)
          have hh9 : hit true S l (W.length + 1 + j) = true := by rw [← hin, Bool.and_eq_true]; exact ⟨by with_reducible assumption, by with_reducible assumption⟩
          rename Fr _ _ _ _ => F11
          rename News _ _ _ _ => N11
          refine in_push hI9 hh9 ?_ hown9 F11 N11 (by k_mem) (fun p hp => by simp only [List.mem_cons, List.mem_append] at hp ⊢; rcases hp with h | h | h | h <;> simp [h]) (fun p hp => by simp [hp]) (by kst_same)
          rw [tx_length]; omega
        · with_reducible refine ite_neg Bool.false_ne_true ?_
          w_strict (repeat' ktr_rel)
          have hh9 : hit true S l (W.length + 1 + j) = false := by rw [← hin, Bool.and_eq_false_iff]; exact .inr (by with_reducible assumption)
          rename Fr _ _ _ _ => F11
          rename News _ _ _ _ => N11
          exact in_skip hI9 hh9 hown9 F11 N11 (by k_mem) (fun p hp => by simp only [List.mem_cons, List.mem_append] at hp ⊢; rcases hp with h | h | h | h <;> simp [h]) (fun p hp => by simp [hp]) (by kst_same)
        · with_reducible refine ite_neg Bool.false_ne_true ?_
          w_strict (repeat' ktr_rel)
          have hh9 : hit true S l (W.length + 1 + j) = false := by rw [← hin, Bool.and_eq_false_iff]; exact .inl (by with_reducible assumption)
          rename Fr _ _ _ _ => F11
          rename News _ _ _ _ => N11
          exact in_skip hI9 hh9 hown9 F11 N11 (by k_mem) (fun p hp => by simp only [List.mem_cons, List.mem_append] at hp ⊢; rcases hp with h | h | h | h <;> simp [h]) (fun p hp => by simp [hp]) (by kst_same)
      · intro st u9 h9 tk9 hI9 F10 N10
        obtain ⟨its9, ep9⟩ := st
        clear F8 N8 hR8
        simp only [ledI] at N10
        dsimp only at hI9
        dsimp only
        w_strict (repeat' ktr_rel)
        rename Fr _ _ _ _ => F11
        rename News _ _ _ _ => N11
        exact out_end hc hW hI9 (tx_append _ _) hown F11 N11 (by k_mem) (fun p hp => by simp only [List.mem_cons, List.mem_append] at hp ⊢; rcases hp with h | h | h <;> simp [h]) (fun p hp => by simp [hp]) (by with_unfolding_all rfl) (by kst_same)
    · rename Fr _ _ _ _ => F7
      k_dflt (refine For_invVF F7 rfl rfl ?_)
      w_strict (repeat' ktr_rel)
      rename Fr _ _ _ _ => F8
      rename News _ _ _ _ => N8
      rename IsRange _ _ _ _ _ _ _ _ => hR8
      rename (_ == _) = false => hq
      have hh : hit true S l W.length = false := by rw [hW, ← zero_slice hc]; exact hq
      refine inside_for (b := true) (S := S) (l := l) (W := W.length) (k := (wr true c).length) (by rw [tx_length]) (wr_len true c).1 (by have := (wr_len true c).2; omega) rfl hR8 F8 N8 (ints_same hints hh) ?_ ?_
      · intro j tj st u9 h9 tk9 own9 hj hown9 hI9 F10 N10
        obtain ⟨its9, ep9⟩ := st
        clear F8 N8 hR8
        simp only [ledI, List.cons_append, List.append_assoc] at N10
        have hil9 : its9.length ≤ 400 := by
          have h1 := IntsAre.length hI9
          have h2 := found_len true S l (W.length + 1 + j)
          have h3 := (wr_len true c).2
          rw [tx_length] at hWl
          dsimp only at h1
          omega
        have ht9 : (Txt.slice (tx (wr true c)) (some (1 + (j : Int))) none).length ≤ 1000 := Nat.le_trans (Txt.slice_le _ _ _) hwx
        have hin := in_slice (b := true) (S := S) hc (by omega) (j := j) rfl rfl
        rw [← hW, show W.length + (1 + j) = W.length + 1 + j by omega] at hin
        have hoB : ∀ p ∈ news ++ (own ++ own9), p.1 ≠ _ := off_append (by k_all) (off_append (hown.ne (.head _)) (hown9.ne (.head _)))
        w_strict (repeat' ktr_rel)
        · with_reducible refine ite_pos rfl ?_
          w_strict (repeat' ktr_rel)
          have hh9 : hit true S l (W.length + 1 + j) = true := by rw [← hin, Bool.and_eq_true]; exact ⟨by with_reducible assumption, by with_reducible assumption⟩
          rename Fr _ _ _ _ => F11
          rename News _ _ _ _ => N11
          refine in_push hI9 hh9 ?_ hown9 F11 N11 (by k_mem) (fun p hp => by simp only [List.mem_cons, List.mem_append] at hp ⊢; rcases hp with h | h | h | h <;> simp [h]) (fun p hp => by simp [hp]) (by kst_same)
          rw [tx_length]; omega
        · with_reducible refine ite_neg Bool.false_ne_true ?_
          w_strict (repeat' ktr_rel)
          have hh9 : hit true S l (W.length + 1 + j) = false := by rw [← hin, Bool.and_eq_false_iff]; exact .inr (by with_reducible assumption)
          rename Fr _ _ _ _ => F11
          rename News _ _ _ _ => N11
          exact in_skip hI9 hh9 hown9 F11 N11 (by k_mem) (fun p hp => by simp only [List.mem_cons, List.mem_append] at hp ⊢; rcases hp with h | h | h | h <;> simp [h]) (fun p hp => by simp [hp]) (by kst_same)
        · with_reducible refine ite_neg Bool.false_ne_true ?_
          w_strict (repeat' ktr_rel)
          have hh9 : hit true S l (W.length + 1 + j) = false := by rw [← hin, Bool.and_eq_false_iff]; exact .inl (by with_reducible assumption)
          rename Fr _ _ _ _ => F11
          rename News _ _ _ _ => N11
          exact in_skip hI9 hh9 hown9 F11 N11 (by k_mem) (fun p hp => by simp only [List.mem_cons, List.mem_append] at hp ⊢; rcases hp with h | h | h | h <;> simp [h]) (fun p hp => by simp [hp]) (by kst_same)
      · intro st u9 h9 tk9 hI9 F10 N10
        obtain ⟨its9, ep9⟩ := st
        clear F8 N8 hR8
        simp only [ledI] at N10
        dsimp only at hI9
        dsimp only
        w_strict (repeat' ktr_rel)
        rename Fr _ _ _ _ => F11
        rename News _ _ _ _ => N11
        exact out_end hc hW hI9 (tx_append _ _) hown F11 N11 (by k_mem) (fun p hp => by simp only [List.mem_cons, List.mem_append] at hp ⊢; rcases hp with h | h | h <;> simp [h]) (fun p hp => by simp [hp]) (by with_unfolding_all rfl) (by kst_same)
  · intro st u5 h5 tk5 hI F6 N6
    obtain ⟨items, ep, W, tkW⟩ := st
    obtain ⟨hW, hints⟩ := hI
    clear F5 N5 hR
    dsimp only at hW hints
    simp only [ledP] at N6
    simp only [psP] at F6
    dsimp only
    w_strict (repeat' ktr_rel)
    rename Fr h₀ _ _ _ => F9
    rename News h₀ _ _ _ => N9
    exact places_ret hret hW hints F9 N9 (by k_mem) (by k_mem) (by kst_mem)
set_option maxHeartbeats 8000000 in
theorem places_spec_false {prog p : Program} {w : World} {loose : List Str} {mean : ExcName → Option Value} {mg mb : Str → Option Value}
  {dp un : Nat} {gd : Option (List Code)} {cn : Str} {cs : Scope} {a : Addr} {ccd : Value} {cl : List (Str × Addr)} {outer : List Env} {A₀ : Around} {base h₀ : Heap} {L : Addr} {m : Str → Option Value} {s : Shared}
    {Q E : Value → Shared → Prop} {l S : List Nat} {t1 t2 : Tok} {news : List (Addr × Obj)}
    (B : Below A₀ base outer h₀) (F : Fr h₀ L s.heap m) (X : (hd.heap_39 w.params).In h₀) (N : News h₀ L s.heap news) (T : Top p loose mean mg mb h₀) (hk : cs.kind = .function) (hl : l.length ≤ 60) (hS : S.length ≤ 35) (hd : dp + 2 < recursionLimit) (hu : un + 16 < cLine)
    (hret : ∀ (q : Addr) led h' tk', Fr h₀ L h' m → News h₀ L h' (led ++ news) → DatIn led (.ref q) (.tuple [.str (tx (wrs false l)), .list ((found false S l (wrs false l).length).map .int)]) → Q (.ref q) { s with heap := h', toks := tk' }) :
    wpAny (model prog w) (ktrTop dp un gd cn cs L a ccd cl outer) (call (.ref 43) [.str (tx l) t1, .str (tx S) t2, .bool false]) Q E s := by
  w_top off
  refine wpAny_call ?_
  k_dflt ktr_enter
  have hl1 : (tx l).length ≤ 60 := by rw [tx_length]; exact hl
  have hl2 : (tx S).length ≤ 35 := by rw [tx_length]; exact hS
  w_strict (repeat' ktr_rel)
  with_reducible refine ite_neg Bool.false_ne_true ?_
  w_strict (repeat' ktr_rel)
  rename Fr _ _ _ _ => F4
  k_dflt (refine For_invVF F4 rfl rfl ?_)
  w_strict (repeat' ktr_rel)
  rename Fr _ _ _ _ => F5
  rename News _ _ _ _ => N5
  rename IsRange _ _ _ _ _ _ _ _ => hR
  refine places_for (b := false) (S := S) (l := l) (by rw [tx_length]) (by omega) rfl hR F5 N5 (by kst_all) ?_ ?_
  · intro i c ti st u5 h5 tk5 own hc hown hI F6 N6
    obtain ⟨items, ep, W, tkW⟩ := st
    obtain ⟨hW, hints⟩ := hI
    dsimp only at hW hints
    clear F5 N5 hR
    simp only [ledP, List.cons_append, List.nil_append] at N6
    simp only [psP] at F6
    have hitm := item_at (x := tx l) (by rw [tx_toList]; exact hc)
    have hilt : i < (tx l).length := by rw [tx_length]; exact (List.getElem?_eq_some_iff.mp hc).1
    have hwx : (tx (wr false c)).length ≤ 1000 := by rw [tx_length]; have := (wr_len false c).2; omega
    have hWl : (tx W).length ≤ 360 := by
      rw [tx_length, hW]
      have h1 := wrs_len false (l.take i)
      have h2 : (l.take i).length ≤ l.length := by rw [List.length_take]; omega
      omega
    have hil : items.length ≤ 360 := by
      have h1 := hints.length
      have h2 := found_len false S l W.length
      rw [tx_length] at hWl
      omega
    have hoA := off_append (a := news) (by k_all) (hown.ne (.head _))
    w_strict (repeat' ktr_rel)
    rw [hitm]
    k_dflt (refine get_ref (b := false) (by k_asm) (by k_mem) (by assumption) (by assumption) (by assumption) rfl ?_)
    intro tw
    w_strict (repeat' ktr_rel)
    · rename Fr _ _ _ _ => F7
      k_dflt (refine For_invVF F7 rfl rfl ?_)
      w_strict (repeat' ktr_rel)
      rename Fr _ _ _ _ => F8
      rename News _ _ _ _ => N8
      rename IsRange _ _ _ _ _ _ _ _ => hR8
      simp only [List.push_toArray] at N8
      rename (_ == _) = true => hq
      have hh : hit false S l W.length = true := by rw [hW, ← zero_slice hc]; exact hq
      refine inside_for (b := false) (S := S) (l := l) (W := W.length) (k := (wr false c).length) (by rw [tx_length]) (wr_len false c).1 (by have := (wr_len false c).2; omega) rfl hR8 F8 N8 (ints_next hints hh (by rw [tx_length])) ?_ ?_
      · intro j tj st u9 h9 tk9 own9 hj hown9 hI9 F10 N10
        obtain ⟨its9, ep9⟩ := st
        clear F8 N8 hR8
        simp only [ledI, List.cons_append, List.append_assoc] at N10
        have hil9 : its9.length ≤ 400 := by
          have h1 := IntsAre.length hI9
          have h2 := found_len false S l (W.length + 1 + j)
          have h3 := (wr_len false c).2
          rw [tx_length] at hWl
          dsimp only at h1
          omega
        have ht9 : (Txt.slice (tx (wr false c)) (some (1 + (j : Int))) none).length ≤ 1000 := Nat.le_trans (Txt.slice_le _ _ _) hwx
        have hin := in_slice (b := false) (S := S) hc (by omega) (j := j) rfl rfl
        rw [← hW, show W.length + (1 + j) = W.length + 1 + j by omega] at hin
        have hoB : ∀ p ∈ news ++ (own ++ own9), p.1 ≠ _ := off_append (by k_all) (off_append (hown.ne (.head _)) (hown9.ne (.head _)))
        w_strict (repeat' ktr_rel)
        · with_reducible refine ite_pos rfl ?_
          w_strict (repeat' ktr_rel)
          have hh9 : hit false S l (W.length + 1 + j) = true := by rw [← hin, Bool.and_eq_true]; exact ⟨by with_reducible assumption, by with_reducible assumption⟩
          rename Fr _ _ _ _ => F11
          rename News _ _ _ _ => N11
          refine in_push hI9 hh9 ?_ hown9 F11 N11 (by k_mem) (fun p hp => by simp only [List.mem_cons, List.mem_append] at hp ⊢; rcases hp with h | h | h <;> simp [h]) (fun p hp => by simp [hp]) (by kst_same)
          rw [tx_length]; omega
        · with_reducible refine ite_neg Bool.false_ne_true ?_
          w_strict (repeat' ktr_rel)
          have hh9 : hit false S l (W.length + 1 + j) = false := by rw [← hin, Bool.and_eq_false_iff]; exact .inr (by with_reducible assumption)
          rename Fr _ _ _ _ => F11
          rename News _ _ _ _ => N11
          exact in_skip hI9 hh9 hown9 F11 N11 (by k_mem) (fun p hp => by simp only [List.mem_cons, List.mem_append] at hp ⊢; rcases hp with h | h | h <;> simp [h]) (fun p hp => by simp [hp]) (by kst_same)
        · with_reducible refine ite_neg Bool.false_ne_true ?_
          w_strict (repeat' ktr_rel)
          have hh9 : hit false S l (W.length + 1 + j) = false := by rw [← hin, Bool.and_eq_false_iff]; exact .inl (by with_reducible assumption)
          rename Fr _ _ _ _ => F11
          rename News _ _ _ _ => N11
          exact in_skip hI9 hh9 hown9 F11 N11 (by k_mem) (fun p hp => by simp only [List.mem_cons, List.mem_append] at hp ⊢; rcases hp with h | h | h <;> simp [h]) (fun p hp => by simp [hp]) (by kst_same)
      · intro st u9 h9 tk9 hI9 F10 N10
        obtain ⟨its9, ep9⟩ := st
        clear F8 N8 hR8
        simp only [ledI] at N10
        dsimp only at hI9
        dsimp only
        w_strict (repeat' ktr_rel)
        rename Fr _ _ _ _ => F11
        rename News _ _ _ _ => N11
        exact out_end hc hW hI9 (tx_append _ _) hown F11 N11 (by k_mem) (fun p hp => by simp only [List.mem_cons, List.mem_append] at hp ⊢; rcases hp with h | h <;> simp [h]) (fun p hp => by simp [hp]) (by with_unfolding_all rfl) (by kst_same)
    · rename Fr _ _ _ _ => F7
      k_dflt (refine For_invVF F7 rfl rfl ?_)
      w_strict (repeat' ktr_rel)
      rename Fr _ _ _ _ => F8
      rename News _ _ _ _ => N8
      rename IsRange _ _ _ _ _ _ _ _ => hR8
      rename (_ == _) = false => hq
      have hh : hit false S l W.length = false := by rw [hW, ← zero_slice hc]; exact hq
      refine inside_for (b := false) (S := S) (l := l) (W := W.length) (k := (wr false c).length) (by rw [tx_length]) (wr_len false c).1 (by have := (wr_len false c).2; omega) rfl hR8 F8 N8 (ints_same hints hh) ?_ ?_
      · intro j tj st u9 h9 tk9 own9 hj hown9 hI9 F10 N10
        obtain ⟨its9, ep9⟩ := st
        clear F8 N8 hR8
        simp only [ledI, List.cons_append, List.append_assoc] at N10
        have hil9 : its9.length ≤ 400 := by
          have h1 := IntsAre.length hI9
          have h2 := found_len false S l (W.length + 1 + j)
          have h3 := (wr_len false c).2
          rw [tx_length] at hWl
          dsimp only at h1
          omega
        have ht9 : (Txt.slice (tx (wr false c)) (some (1 + (j : Int))) none).length ≤ 1000 := Nat.le_trans (Txt.slice_le _ _ _) hwx
        have hin := in_slice (b := false) (S := S) hc (by omega) (j := j) rfl rfl
        rw [← hW, show W.length + (1 + j) = W.length + 1 + j by omega] at hin
        have hoB : ∀ p ∈ news ++ (own ++ own9), p.1 ≠ _ := off_append (by k_all) (off_append (hown.ne (.head _)) (hown9.ne (.head _)))
        w_strict (repeat' ktr_rel)
        · with_reducible refine ite_pos rfl ?_
          w_strict (repeat' ktr_rel)
          have hh9 : hit false S l (W.length + 1 + j) = true := by rw [← hin, Bool.and_eq_true]; exact ⟨by with_reducible assumption, by with_reducible assumption⟩
          rename Fr _ _ _ _ => F11
          rename News _ _ _ _ => N11
          refine in_push hI9 hh9 ?_ hown9 F11 N11 (by k_mem) (fun p hp => by simp only [List.mem_cons, List.mem_append] at hp ⊢; rcases hp with h | h | h <;> simp [h]) (fun p hp => by simp [hp]) (by kst_same)
          rw [tx_length]; omega
        · with_reducible refine ite_neg Bool.false_ne_true ?_
          w_strict (repeat' ktr_rel)
          have hh9 : hit false S l (W.length + 1 + j) = false := by rw [← hin, Bool.and_eq_false_iff]; exact .inr (by with_reducible assumption)
          rename Fr _ _ _ _ => F11
          rename News _ _ _ _ => N11
          exact in_skip hI9 hh9 hown9 F11 N11 (by k_mem) (fun p hp => by simp only [List.mem_cons, List.mem_append] at hp ⊢; rcases hp with h | h | h <;> simp [h]) (fun p hp => by simp [hp]) (by kst_same)
        · with_reducible refine ite_neg Bool.false_ne_true ?_
          w_strict (repeat' ktr_rel)
          have hh9 : hit false S l (W.length + 1 + j) = false := by rw [← hin, Bool.and_eq_false_iff]; exact .inl (by with_reducible assumption)
          rename Fr _ _ _ _ => F11
          rename News _ _ _ _ => N11
          exact in_skip hI9 hh9 hown9 F11 N11 (by k_mem) (fun p hp => by simp only [List.mem_cons, List.mem_append] at hp ⊢; rcases hp with h | h | h <;> simp [h]) (fun p hp => by simp [hp]) (by kst_same)
      · intro st u9 h9 tk9 hI9 F10 N10
        obtain ⟨its9, ep9⟩ := st
        clear F8 N8 hR8
        simp only [ledI] at N10
        dsimp only at hI9
        dsimp only
        w_strict (repeat' ktr_rel)
        rename Fr _ _ _ _ => F11
        rename News _ _ _ _ => N11
        exact out_end hc hW hI9 (tx_append _ _) hown F11 N11 (by k_mem) (fun p hp => by simp only [List.mem_cons, List.mem_append] at hp ⊢; rcases hp with h | h <;> simp [h]) (fun p hp => by simp [hp]) (by with_unfolding_all rfl) (by kst_same)
  · intro st u5 h5 tk5 hI F6 N6
    obtain ⟨items, ep, W, tkW⟩ := st
    obtain ⟨hW, hints⟩ := hI
    clear F5 N5 hR
    dsimp only at hW hints
    simp only [ledP] at N6
    simp only [psP] at F6
    dsimp only
    w_strict (repeat' ktr_rel)
    rename Fr h₀ _ _ _ => F9
    rename News h₀ _ _ _ => N9
    exact places_ret hret hW hints F9 N9 (by k_mem) (by k_mem) (by kst_mem)
end
section
set_option maxRecDepth 100000
open PySem PySem.W PyProof.Rows PySem.Calls PySem.Spec
local macro_rules | `(tactic| ktr_enter) => `(tactic| first
  | (refine' code_def ?k1 ?k2 ?k3 ?k4 ?k5 ?kA ?kF ?kK ?k6 ?k7 ?k8 ?k9 ?kB ?_ ?c2 ?c3 ?c4 ?c5; (case kA => exact rfl); (case kF => exact rfl); (case kK => first | assumption | exact rfl); (case k1 => k_asm); (case k2 => k_asm); (case k3 => k_asm); (case k4 => k_asm); (case k5 => k_asm); (case k6 => k_is); (case k7 => k_is); (case k8 => ktr_room); (case k9 => first | exact BindsTo.of_eq rfl | exact binds_K (by k_in) rfl (by k_is) rfl rfl rfl); (case c5 => decide); (case kB => exact locs rfl); (case c2 => exact rfl); (case c3 => exact rfl); (case c4 => exact rfl); k_whole; intro g' L' h' FG' F' N' B' X' T'; (try dsimp only); (try k_lift B'); (try k_fold))
  | (refine' code_defC ?k1 ?k2 ?k3 ?k4 ?k5 ?kA ?kF ?kK ?k6 ?k7 ?k8 ?k9 ?kB ?kD ?_ ?c2 ?c3 ?c4; (case kA => exact rfl); (case kF => exact rfl); (case kK => first | assumption | exact rfl); (case k1 => k_asm); (case k2 => k_asm); (case k3 => k_asm); (case k4 => k_asm); (case k5 => k_asm); (case k6 => k_is); (case k7 => k_is); (case k8 => ktr_room); (case k9 => first | exact BindsTo.of_eq rfl | exact binds_K (by k_in) rfl (by k_is) rfl rfl rfl); (case kB => exact rfl); (case kD => decide +kernel); (case c2 => exact rfl); (case c3 => exact rfl); (case c4 => exact rfl); k_whole; intro g' L' h' tk' cells' FG' F' N' Y' B' X' T' l1; (try k_lt l1); k_cells Y'; (try simp only [List.cons_append, List.nil_append] at N'); (try dsimp only); (try k_lift B'); (try k_fold)))
local macro_rules | `(tactic| kst_same) => `(tactic| (intro z h1 h2 h3; (simp only [List.contains_cons, List.contains_nil, Bool.or_false, Bool.or_eq_false_iff, beq_eq_false_iff_ne, ne_eq] at h3); (simp only [List.forall_mem_cons, List.not_mem_nil, false_implies, implies_true, and_true, ne_eq] at h2); (simp [kstB, h1, h2, h3]; done)))
local macro_rules | `(tactic| k_all) => `(tactic| first | assumption | (intro p9 h9; refine LtAll.ne (by assumption) ?_; (repeat (first | exact h9 | refine List.Mem.tail _ ?_)); done))
local macro_rules | `(tactic| k_lt $h:ident) => `(tactic| ((have hk9 := LtAll.of $h); (replace $h := allLt_of $h); (try simp only [AllLt, and_true] at $h:ident)))
local macro_rules | `(tactic| ktr_rel) => `(tactic| (first | (k_unfold; (try dsimp only)) | ((fail_if_success (with_reducible show wpAny _ _ (exec (Stmt.For _ _ _ _ _) _) _ _ _)); (fail_if_success (with_reducible show wpAny _ _ (exec (Stmt.While _ _ _ _) _) _ _ _)); (fail_if_success (with_reducible show wpAny _ _ (pyIter _) _ _ _)); (fail_if_success (with_reducible show wpAny _ _ (eval (Expr.ListComp _ _ _ _) _) _ _ _)); (fail_if_success (with_reducible show InvPostG _ _ _ _ _ _ _ _)); (fail_if_success (with_reducible show KswPost _ _ _ _ _ _ _ _ _ _ _ _ _ _)); (fail_if_success (with_reducible show wpAny _ _ (exec (Stmt.Assign _ (Expr.ListComp _ _ _ _) _) _) _ _ _)); first | walk1 | (dsimp only; walk1))))
local macro_rules | `(tactic| walk_at "subscriptTail Name Constant ref int") => `(tactic| (k_here; k_dflt (first
  | (refine' list_item ?tN ?tm ?t0 ?t1 ?tv ?_ ?ts; (case tN => k_asm); (case tm => k_mem); (case t0 => decide); (case t1 => decide); (case tv => exact rfl); (case ts => with_unfolding_all rfl); k_whole)
  | (refine' tup_item ?tN ?tm ?t0 ?t1 ?tv ?_ ?ts; (case tN => k_asm); (case tm => k_mem); (case t0 => decide); (case t1 => decide); (case tv => exact rfl); (case ts => with_unfolding_all rfl); k_whole))))
local macro_rules | `(tactic| walk_at "subscriptTail Subscript Name Constant Constant ref int") => `(tactic| (k_here; k_dflt (first
  | (refine' list_item ?tN ?tm ?t0 ?t1 ?tv ?_ ?ts; (case tN => k_asm); (case tm => k_mem); (case t0 => decide); (case t1 => decide); (case tv => exact rfl); (case ts => with_unfolding_all rfl); k_whole)
  | (refine' tup_item ?tN ?tm ?t0 ?t1 ?tv ?_ ?ts; (case tN => k_asm); (case tm => k_mem); (case t0 => decide); (case t1 => decide); (case tv => exact rfl); (case ts => with_unfolding_all rfl); k_whole))))
local macro_rules | `(tactic| walk_at "binaryOp Add str str") => `(tactic| (k_here; (try dsimp only); refine add_short 100000 (by decide) (by first | omega | decide) (by first | omega | decide) ?_; intro t9 k9))
local macro_rules | `(tactic| walk_at "call builtin:list.append cons nil") => `(tactic| (k_here; k_dflt (refine' append_K ?k1 ?k2 ?k3 ?_ ?z; (case k1 => k_asm); (case k2 => k_asm); (case k3 => k_upd); (case z => (simp only [List.size_toArray, sizeLine_eq]; omega)); k_whole); intro h' F' N'; (try k_sweep)))
local macro_rules | `(tactic| ksw_same) => `(tactic| (intro z h2 h3; (simp only [List.contains_cons, List.contains_nil, Bool.or_false, Bool.or_eq_false_iff, beq_eq_false_iff_ne, ne_eq] at h3); (simp only [List.forall_mem_cons, List.not_mem_nil, false_implies, implies_true, and_true, ne_eq] at h2); (simp [kstB, h2, h3]; done)))
local macro_rules | `(tactic| kst_mem) => `(tactic| (intro p9 h9; (repeat (first | exact h9 | refine List.Mem.tail _ ?_)); done))
local macro_rules | `(tactic| kst_allIn) => `(tactic| first | exact List.forall_mem_nil _ | (refine List.forall_mem_cons.mpr ⟨by k_mem, ?_⟩; kst_allIn))
local macro_rules | `(tactic| walk_at "call ref cons nil") => `(tactic| (k_here; (with_reducible show wpAny _ _ (call (Value.ref 22) _ _) _ _ _); k_dflt (refine' escape_spec ?k1 ?k2 ?k3 ?k4 ?k5 ?kK ?kx ?kd ?ku ?_; (case k1 => k_asm); (case k2 => k_asm); (case k3 => k_asm); (case k4 => k_asm); (case k5 => k_asm); (case kK => first | exact rfl | assumption); (case kx => first | assumption | omega); (case kd => ktr_room); (case ku => ktr_units); k_whole); intro t9 h9 tk9 F9 N9; (try dsimp only)))
set_option maxHeartbeats 8000000 in
theorem found_spec {prog p : Program} {w : World} {loose : List Str} {mean : ExcName → Option Value} {mg mb : Str → Option Value}
  {dp un : Nat} {gd : Option (List Code)} {cn : Str} {cs : Scope} {a : Addr} {ccd : Value} {cl : List (Str × Addr)} {outer : List Env} {A₀ : Around} {base h₀ : Heap} {L : Addr} {m : Str → Option Value} {s : Shared}
    {Q E : Value → Shared → Prop} {l S : List Nat} {t1 t2 : Tok} {b : Bool} {news : List (Addr × Obj)}
    (B : Below A₀ base outer h₀) (F : Fr h₀ L s.heap m) (X : (hd.heap_39 w.params).In h₀) (N : News h₀ L s.heap news) (T : Top p loose mean mg mb h₀) (hk : cs.kind = .function) (hl : l.length ≤ 60) (hS : S.length ≤ 35) (hd : dp + 2 < recursionLimit) (hu : un + 16 < cLine)
    (hret : ∀ (q : Addr) led h' tk', Fr h₀ L h' m → News h₀ L h' (led ++ news) → DatIn led (.ref q) (.tuple [.str (tx (wrs b l)), .list ((found b S l (wrs b l).length).map .int)]) → Q (.ref q) { s with heap := h', toks := tk' }) :
    wpAny (model prog w) (ktrTop dp un gd cn cs L a ccd cl outer) (call (.ref 48) [.str (tx l) t1, .str (tx S) t2, .bool b]) Q E s := by
  w_top off
  refine wpAny_call ?_
  k_dflt ktr_enter
  rename LtAll news _ => hL0
  have hc1 := hL0.off (Nat.le_succ _)
  have hc2 := hL0.off (Nat.le_succ_of_le (Nat.le_succ _))
  have hl1 : (tx l).length ≤ 60 := by rw [tx_length]; exact hl
  have hl2 : (tx S).length ≤ 35 := by rw [tx_length]; exact hS
  have hw1 : (escT b (tx l)).length ≤ 360 := by have := escT_len b (tx l); omega
  have hw2 : (escT b (tx S)).length ≤ 360 := by have := escT_len b (tx S); omega
  w_strict (repeat' ktr_rel)
  k_dflt (refine LCt.ListComp_T (F₀ := by k_asm) (by with_unfolding_all rfl) (by decide) (by rfl) (by decide) (by rfl) ?_)
  w_strict (repeat' ((fail_if_success (with_reducible show LCt.CompSrcT _ _ _ _ _ _ _ _ _ _ _ _ _ _ _)); ktr_rel))
  rename IsRange _ _ _ _ _ _ _ _ => hR
  k_dflt (refine LCt.CompSrcT.range (by rfl) (by k_asm) (by k_asm) hR (small_one (by omega) (by omega) (by omega) (by omega)) (rangeSize_nat _ _) (by rw [sizeLine_eq]; omega) ?_)
  intro g9
  refine restT_filter (n := _) (hit b S l) trivial ?_ ?_ _ 0 [] (Nat.zero_add _) ?_
  · intro i v I oI C oC D ys m₂ h8 tk8 E8 QT hi hP hC hx8 F8 N8 off hne hQ
    obtain ⟨ti, rfl⟩ := hP
    w_strict (repeat' ktr_rel)
    rw [hit_slice2 rfl rfl]
    exact hQ _ _ (by k_asm) (by k_asm)
  · intro i v I oI C oC D ys m₂ h8 tk8 E8 QE hi hP hC hx8 F8 N8 hQ
    w_strict (repeat' ktr_rel)
  · intro zs hz
    unfold LCg.FinE
    intro D8 h8 tk8 F8 N8 o8
    simp only [LCg.Off1, and_true] at o8
    simp only [List.nil_append] at N8
    w_strict (repeat' ktr_rel)
    rename Fr h₀ _ _ _ => F9
    rename News h₀ _ _ _ => N9
    exact found_ret hret rfl (by omega) hz F9 N9 (by k_mem) (by k_mem) (by kst_mem)
end
section
set_option maxRecDepth 100000
open PySem PySem.W PyProof.Rows PySem.Calls PySem.Spec
local macro_rules | `(tactic| ktr_enter) => `(tactic| first
  | (refine' code_def ?k1 ?k2 ?k3 ?k4 ?k5 ?kA ?kF ?kK ?k6 ?k7 ?k8 ?k9 ?kB ?_ ?c2 ?c3 ?c4 ?c5; (case kA => exact rfl); (case kF => exact rfl); (case kK => first | assumption | exact rfl); (case k1 => k_asm); (case k2 => k_asm); (case k3 => k_asm); (case k4 => k_asm); (case k5 => k_asm); (case k6 => k_is); (case k7 => k_is); (case k8 => ktr_room); (case k9 => first | exact BindsTo.of_eq rfl | exact binds_K (by k_in) rfl (by k_is) rfl rfl rfl); (case c5 => decide); (case kB => exact locs rfl); (case c2 => exact rfl); (case c3 => exact rfl); (case c4 => exact rfl); k_whole; intro g' L' h' FG' F' N' B' X' T'; (try dsimp only); (try k_lift B'); (try k_fold))
  | (refine' code_defC ?k1 ?k2 ?k3 ?k4 ?k5 ?kA ?kF ?kK ?k6 ?k7 ?k8 ?k9 ?kB ?kD ?_ ?c2 ?c3 ?c4; (case kA => exact rfl); (case kF => exact rfl); (case kK => first | assumption | exact rfl); (case k1 => k_asm); (case k2 => k_asm); (case k3 => k_asm); (case k4 => k_asm); (case k5 => k_asm); (case k6 => k_is); (case k7 => k_is); (case k8 => ktr_room); (case k9 => first | exact BindsTo.of_eq rfl | exact binds_K (by k_in) rfl (by k_is) rfl rfl rfl); (case kB => exact rfl); (case kD => decide +kernel); (case c2 => exact rfl); (case c3 => exact rfl); (case c4 => exact rfl); k_whole; intro g' L' h' tk' cells' FG' F' N' Y' B' X' T' l1; (try k_lt l1); k_cells Y'; (try simp only [List.cons_append, List.nil_append] at N'); (try dsimp only); (try k_lift B'); (try k_fold)))
local macro_rules | `(tactic| kst_same) => `(tactic| (intro z h1 h2 h3; (simp only [List.contains_cons, List.contains_nil, Bool.or_false, Bool.or_eq_false_iff, beq_eq_false_iff_ne, ne_eq] at h3); (simp only [List.forall_mem_cons, List.not_mem_nil, false_implies, implies_true, and_true, ne_eq] at h2); (simp [kstB, h1, h2, h3]; done)))
local macro_rules | `(tactic| k_all) => `(tactic| first | assumption | (intro p9 h9; refine LtAll.ne (by assumption) ?_; (repeat (first | exact h9 | refine List.Mem.tail _ ?_)); done))
local macro_rules | `(tactic| k_lt $h:ident) => `(tactic| ((have hk9 := LtAll.of $h); (replace $h := allLt_of $h); (try simp only [AllLt, and_true] at $h:ident)))
local macro_rules | `(tactic| walk_at "subscriptTail Name Constant ref int") => `(tactic| (k_here; k_dflt (first
  | (refine' list_item ?tN ?tm ?t0 ?t1 ?tv ?_ ?ts; (case tN => k_asm); (case tm => k_mem); (case t0 => decide); (case t1 => decide); (case tv => exact rfl); (case ts => with_unfolding_all rfl); k_whole)
  | (refine' tup_item ?tN ?tm ?t0 ?t1 ?tv ?_ ?ts; (case tN => k_asm); (case tm => k_mem); (case t0 => decide); (case t1 => decide); (case tv => exact rfl); (case ts => with_unfolding_all rfl); k_whole))))
local macro_rules | `(tactic| walk_at "subscriptTail Subscript Name Constant Constant ref int") => `(tactic| (k_here; k_dflt (first
  | (refine' list_item ?tN ?tm ?t0 ?t1 ?tv ?_ ?ts; (case tN => k_asm); (case tm => k_mem); (case t0 => decide); (case t1 => decide); (case tv => exact rfl); (case ts => with_unfolding_all rfl); k_whole)
  | (refine' tup_item ?tN ?tm ?t0 ?t1 ?tv ?_ ?ts; (case tN => k_asm); (case tm => k_mem); (case t0 => decide); (case t1 => decide); (case tv => exact rfl); (case ts => with_unfolding_all rfl); k_whole))))
local macro_rules | `(tactic| walk_at "binaryOp Add str str") => `(tactic| (k_here; (try dsimp only); refine add_short 100000 (by decide) (by first | omega | decide) (by first | omega | decide) ?_; intro t9 k9))
local macro_rules | `(tactic| walk_at "call builtin:list.append cons nil") => `(tactic| (k_here; k_dflt (refine' append_K ?k1 ?k2 ?k3 ?_ ?z; (case k1 => k_asm); (case k2 => k_asm); (case k3 => k_upd); (case z => (simp only [List.size_toArray, sizeLine_eq]; omega)); k_whole); intro h' F' N'; (try k_sweep)))
local macro_rules | `(tactic| ksw_same) => `(tactic| (intro z h2 h3; (simp only [List.contains_cons, List.contains_nil, Bool.or_false, Bool.or_eq_false_iff, beq_eq_false_iff_ne, ne_eq] at h3); (simp only [List.forall_mem_cons, List.not_mem_nil, false_implies, implies_true, and_true, ne_eq] at h2); (simp [kstB, h2, h3]; done)))
local macro_rules | `(tactic| kst_mem) => `(tactic| (intro p9 h9; (repeat (first | exact h9 | refine List.Mem.tail _ ?_)); done))
local macro_rules | `(tactic| kst_allIn) => `(tactic| first | exact List.forall_mem_nil _ | (refine List.forall_mem_cons.mpr ⟨by k_mem, ?_⟩; kst_allIn))
local macro_rules | `(tactic| ktr_rel) => `(tactic| (first | (k_unfold; (try dsimp only)) | ((fail_if_success (with_reducible show wpAny _ _ (exec (Stmt.For _ _ _ _ _) _) _ _ _)); (fail_if_success (with_reducible show wpAny _ _ (exec (Stmt.While _ _ _ _) _) _ _ _)); (fail_if_success (with_reducible show wpAny _ _ (pyIter _) _ _ _)); (fail_if_success (with_reducible show wpAny _ _ (eval (Expr.ListComp _ _ _ _) _) _ _ _)); (fail_if_success (with_reducible show LCg.CompSrc _ _ _ _ _ _ _ _ _ _ _ _ _ _)); (fail_if_success (with_reducible show wpAny _ _ (call (Value.builtin "str.join") _ _) _ _ _)); (fail_if_success (with_reducible show wpAny _ _ (compareOp CmpOp.Eq (Value.ref _) (Value.ref _)) _ _ _)); first | walk1 | (dsimp only; walk1))))
local macro_rules | `(tactic| walk_at "execs cons") => `(tactic| (k_here; with_reducible refine wpAny_execs_cons ?_))
local macro_rules | `(tactic| walk_at "execs cons Assign cons") => `(tactic| (k_here; with_reducible refine wpAny_execs_cons ?_))
theorem take_three (a : Int) (l : List Int) : (l.take (a.fmod 3 + 1).toNat).length ≤ 3 := by
  have := fmod_bounds a 3 (by decide)
  rw [List.length_take]
  omega
theorem found_specS {prog p : Program} {w : World} {loose : List Str} {mean : ExcName → Option Value} {mg mb : Str → Option Value}
  {dp un : Nat} {gd : Option (List Code)} {cn : Str} {cs : Scope} {a : Addr} {ccd : Value} {cl : List (Str × Addr)} {outer : List Env} {A₀ : Around} {base h₀ : Heap} {L : Addr} {m : Str → Option Value} {s : Shared}
    {Q E : Value → Shared → Prop} {x y : Str} {t1 t2 : Tok} {b : Bool} {news : List (Addr × Obj)}
    (B : Below A₀ base outer h₀) (F : Fr h₀ L s.heap m) (X : (hd.heap_39 w.params).In h₀) (N : News h₀ L s.heap news) (T : Top p loose mean mg mb h₀) (hk : cs.kind = .function) (hx : x.length ≤ 60) (hy : y.length ≤ 35) (hd : dp + 2 < recursionLimit) (hu : un + 16 < cLine)
    (hret : ∀ (q : Addr) led h' tk', Fr h₀ L h' m → News h₀ L h' (led ++ news) → DatIn led (.ref q) (asked b x y) → Q (.ref q) { s with heap := h', toks := tk' }) :
    wpAny (model prog w) (ktrTop dp un gd cn cs L a ccd cl outer) (call (.ref 48) [.str x t1, .str y t2, .bool b]) Q E s := by
  have h := found_spec (l := x.cps.toList) (S := y.cps.toList) (t1 := t1) (t2 := t2) (b := b) (prog := prog) (w := w) (E := E) (Q := Q) (dp := dp) (un := un) (gd := gd) (cn := cn) (cs := cs) (a := a) (ccd := ccd) (cl := cl) (outer := outer) B F X N T hk (by simpa [Str.length] using hx) (by simpa [Str.length] using hy) hd hu hret
  rw [tx_cps, tx_cps] at h
  exact h
theorem places_specS {prog p : Program} {w : World} {loose : List Str} {mean : ExcName → Option Value} {mg mb : Str → Option Value}
  {dp un : Nat} {gd : Option (List Code)} {cn : Str} {cs : Scope} {a : Addr} {ccd : Value} {cl : List (Str × Addr)} {outer : List Env} {A₀ : Around} {base h₀ : Heap} {L : Addr} {m : Str → Option Value} {s : Shared}
    {Q E : Value → Shared → Prop} {x y : Str} {t1 t2 : Tok} {b : Bool} {news : List (Addr × Obj)}
    (B : Below A₀ base outer h₀) (F : Fr h₀ L s.heap m) (X : (hd.heap_39 w.params).In h₀) (N : News h₀ L s.heap news) (T : Top p loose mean mg mb h₀) (hk : cs.kind = .function) (hx : x.length ≤ 60) (hy : y.length ≤ 35) (hd : dp + 2 < recursionLimit) (hu : un + 16 < cLine)
    (hret : ∀ (q : Addr) led h' tk', Fr h₀ L h' m → News h₀ L h' (led ++ news) → DatIn led (.ref q) (asked b x y) → Q (.ref q) { s with heap := h', toks := tk' }) :
    wpAny (model prog w) (ktrTop dp un gd cn cs L a ccd cl outer) (call (.ref 43) [.str x t1, .str y t2, .bool b]) Q E s := by
  cases b
  · have h := places_spec_false (l := x.cps.toList) (S := y.cps.toList) (t1 := t1) (t2 := t2) (prog := prog) (w := w) (E := E) (Q := Q) (dp := dp) (un := un) (gd := gd) (cn := cn) (cs := cs) (a := a) (ccd := ccd) (cl := cl) (outer := outer) B F X N T hk (by simpa [Str.length] using hx) (by simpa [Str.length] using hy) hd hu hret
    rw [tx_cps, tx_cps] at h
    exact h
  · have h := places_spec_true (l := x.cps.toList) (S := y.cps.toList) (t1 := t1) (t2 := t2) (prog := prog) (w := w) (E := E) (Q := Q) (dp := dp) (un := un) (gd := gd) (cn := cn) (cs := cs) (a := a) (ccd := ccd) (cl := cl) (outer := outer) B F X N T hk (by simpa [Str.length] using hx) (by simpa [Str.length] using hy) hd hu hret
    rw [tx_cps, tx_cps] at h
    exact h
local macro_rules | `(tactic| walk_at "call ref cons nil") => `(tactic| (k_here; (with_reducible show wpAny _ _ (call (Value.ref 36) _ _) _ _ _); k_dflt (refine' sought_spec ?k1 ?k2 ?k3 ?k4 ?k5 ?kK ?ki ?kx ?kd ?ku ?_; (case k1 => k_asm); (case k2 => k_asm); (case k3 => k_asm); (case k4 => k_asm); (case k5 => k_asm); (case kK => first | exact rfl | assumption); (case ki => first | assumption | l_ints); (case kx => exact take_three _ _); (case kd => ktr_room); (case ku => ktr_units); k_whole); intro y9 t9 h9 tk9 hy9 hz9 F9 N9; (try dsimp only)))
local macro_rules | `(tactic| walk_at "call ref cons nil") => `(tactic| (k_here; (with_reducible show wpAny _ _ (call (Value.ref 29) _ _) _ _ _); k_dflt (refine' piece_spec ?k1 ?k2 ?k3 ?k4 ?k5 ?kK ?kx ?kd ?ku ?_; (case k1 => k_asm); (case k2 => k_asm); (case k3 => k_asm); (case k4 => k_asm); (case k5 => k_asm); (case kK => first | exact rfl | assumption); (case kx => first | assumption | omega); (case kd => ktr_room); (case ku => ktr_units); k_whole); intro y9 t9 h9 tk9 hy9 F9 N9; (try dsimp only)))
local macro_rules | `(tactic| walk_at "call ref cons nil") => `(tactic| (k_here; (with_reducible show wpAny _ _ (call (Value.ref 48) _ _) _ _ _); k_dflt (refine' found_specS ?k1 ?k2 ?k3 ?k4 ?k5 ?kK ?kx ?ky ?kd ?ku ?_; (case k1 => k_asm); (case k2 => k_asm); (case k3 => k_asm); (case k4 => k_asm); (case k5 => k_asm); (case kK => first | exact rfl | assumption); (case kx => exact whole_len _); (case ky => assumption); (case kd => ktr_room); (case ku => ktr_units); k_whole); intro q9 led9 h9 tk9 F9 N9 d9; (try dsimp only)))
local macro_rules | `(tactic| walk_at "call ref cons nil") => `(tactic| (k_here; (with_reducible show wpAny _ _ (call (Value.ref 43) _ _) _ _ _); k_dflt (refine' places_specS ?k1 ?k2 ?k3 ?k4 ?k5 ?kK ?kx ?ky ?kd ?ku ?_; (case k1 => k_asm); (case k2 => k_asm); (case k3 => k_asm); (case k4 => k_asm); (case k5 => k_asm); (case kK => first | exact rfl | assumption); (case kx => exact whole_len _); (case ky => assumption); (case kd => ktr_room); (case ku => ktr_units); k_whole); intro q9 led9 h9 tk9 F9 N9 d9; (try dsimp only)))
set_option maxHeartbeats 8000000 in
theorem fin : PySem.Challenge.rw_dz0044_02.Holds := Mine.hd (by
  k_go0
  (all_goals try k_fold)
  w_strict (repeat' ktr_rel)
  k_dflt (refine LCg.ListComp_U (F₀ := by k_asm) (by with_unfolding_all rfl) (by decide) (by rfl) (by decide) (by rfl) ?_)
  w_strict (repeat' ktr_rel)
  rename IntsAre _ (List.take _ (List.drop _ _)) => hI
  rename ¬ (_ : Int) < _ => h63
  have hlen := hI.length
  have hlen3 : (List.take _ (List.drop _ _)).length ≤ _ := (by with_reducible assumption)
  rename Str.length _ ≤ 35 => h35
  k_dflt (refine LCg.CompSrc.ledger (by rfl) (by k_asm) (by k_asm) (by k_mem) (by rw [List.size_toArray, sizeLine_eq]; omega) ?_)
  intro g9
  refine rest_texts 40 hI (Or.inr ⟨_, by k_mem, rfl, _, rfl⟩) ?_ ?_
  · intro k t I oI C oC D m₂ ys h tk E' QE hC hx F8 N8 off hne hQ
    simp only [LCg.Off3, and_true] at off
    w_strict (repeat' ktr_rel)
    exact hQ _ _ _ _ (by omega) (by k_asm) (by k_asm)
  · intro ys xs hy hxl hxs
    unfold LCg.FinE
    intro D8 h8 tk8 F8 N8 o8
    simp only [LCg.Off1, and_true] at o8
    w_strict (repeat' ktr_rel)
    refine join_made (B := 40) N8 (.head _) hy (by decide +kernel) hxs (by omega) ?_
    intro yj tj kj hyj hyl
    have hyl2 : yj.length ≤ 5000 := by omega
    w_strict (repeat' ktr_rel)
    rename News _ _ _ _ => N9
    rename DatIn _ _ _ => d2
    revert d2
    rename DatIn _ _ _ => d1
    intro d2
    k_dflt (refine eq_pairs N9 d1 ?s1 d2 ?s2 ?hu ?_; (case hu => ke_room); (case s1 => exact fun p hp => List.mem_append_right _ (List.mem_append_left _ hp)); (case s2 => exact fun p hp => List.mem_append_left _ hp))
    replace N9 : News _ _ _ _ := fun p hp => N9 p (List.mem_append_right _ (List.mem_append_right _ hp))
    w_strict (repeat' ktr_rel)
    rename News _ _ _ _ => N9
    rename DatIn _ _ _ => d4
    revert d4
    rename DatIn _ _ _ => d3
    intro d4
    k_dflt (refine eq_pairs N9 d3 ?s1 d4 ?s2 ?hu ?_; (case hu => ke_room); (case s1 => exact fun p hp => List.mem_append_right _ (List.mem_append_left _ hp)); (case s2 => exact fun p hp => List.mem_append_left _ hp))
    replace N9 : News _ _ _ _ := fun p hp => N9 p (List.mem_append_right _ (List.mem_append_right _ hp))
    w_strict (repeat' ktr_rel)
    all_goals (k_end; wrow_close))
end
end Mine
theorem PySem.Challenge.cw_dz0044_02_holds : PySem.Challenge.rw_dz0044_02.Holds := by
  exact Mine.fin
