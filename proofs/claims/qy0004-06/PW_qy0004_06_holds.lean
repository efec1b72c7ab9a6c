import PyProof.Rows.All
import Wide.All
import OpenK.AllK
import Wide.FinOn
import Lean
import PySem.Challenge.RW_qy0004_06
open PySem PySem.W PyProof.Rows
set_option Elab.async false
set_option maxRecDepth 100000
set_option maxHeartbeats 40000000
set_option rowWalk.seconds 0
set_option linter.all false
set_option genInjectivity false
set_option genSizeOfSpec false
namespace Mine
section
local macro_rules | `(tactic| o_head $_) => `(tactic| (exfalso; assumption))
theorem hd : False → PySem.Challenge.rw_qy0004_06.row.Holds := by
  intro f
  k_head
end
local macro_rules | `(tactic| walk_at $s:str) => `(tactic| k_extra $s)
theorem prep0 : (Mine.hd.heap_1 = Mine.hd.heap_1) ∧ (PySem.Challenge.rw_qy0004_06 = PySem.Challenge.rw_qy0004_06) := by
  k_fill
  exact ⟨rfl, rfl⟩
section -- P1
open Builtin Builtin.Str

abbrev toL (x : Str) : List Nat := x.cps.toList
theorem toL_length (x : Str) : (toL x).length = x.length := by simp [toL, Str.length]
theorem str_ext {x y : Str} (h : toL x = toL y) : x = y := Str.ext' (Array.toList_inj.mp h)
theorem toL_append (x y : Str) : toL (x ++ y) = toL x ++ toL y := by simp [toL, Str.cps_append]

theorem idx_of {l u : Option Int} {n a b : Nat}
    (ha : a = (match l with | none => (0 : Int) | some i => max 0 (min (if i < 0 then i + n else i) n)).toNat)
    (hb : b = (match u with | none => (n : Int) | some i => max 0 (min (if i < 0 then i + n else i) n)).toNat) :
    strSliceIndices l u 1 n = (List.range (b - a)).map (fun k => a + k) := by
  have e1 : (1 : Int) > 0 := by decide
  unfold strSliceIndices sliceRange
  simp only [e1, if_true]
  have hA : ∀ A B : Int, 0 ≤ A → 0 ≤ B → ((if A < B then (B - A + 1 - 1) / 1 else 0).toNat) = B.toNat - A.toNat := by
    intro A B h1 h2
    split
    · rw [Int.ediv_one]; omega
    · rw [Int.toNat_zero]; omega
  have hB : ∀ (A : Int) (k : Nat), 0 ≤ A → (A + 1 * (k : Int)).toNat = A.toNat + k := by
    intro A k h
    omega
  cases l with
  | none =>
    cases u with
    | none =>
      simp only at ha hb ⊢
      rw [hA _ _ (Int.le_refl 0) (Int.natCast_nonneg n)]
      subst ha hb
      exact List.map_congr_left fun k _ => hB _ k (Int.le_refl 0)
    | some j =>
      simp only at ha hb ⊢
      rw [hA _ _ (Int.le_refl 0) (Int.le_max_left _ _)]
      subst ha hb
      exact List.map_congr_left fun k _ => hB _ k (Int.le_refl 0)
  | some i =>
    cases u with
    | none =>
      simp only at ha hb ⊢
      rw [hA _ _ (Int.le_max_left _ _) (Int.natCast_nonneg n)]
      subst ha hb
      exact List.map_congr_left fun k _ => hB _ k (Int.le_max_left _ _)
    | some j =>
      simp only at ha hb ⊢
      rw [hA _ _ (Int.le_max_left _ _) (Int.le_max_left _ _)]
      subst ha hb
      exact List.map_congr_left fun k _ => hB _ k (Int.le_max_left _ _)
theorem clamp_le {i : Int} {n : Nat} (hi : 0 ≤ i) (h : i.toNat ≤ n) : (max 0 (min i (n : Int))).toNat = i.toNat := by
  have h2 : i ≤ (n : Int) := Int.toNat_le.mp h
  rw [Int.min_eq_left h2, Int.max_eq_right hi]
theorem clamp_gt {i : Int} {n : Nat} (h : ¬ i.toNat ≤ n) : (max 0 (min i (n : Int))).toNat = n := by
  have h2 : (n : Int) ≤ i := Int.le_of_lt (Int.lt_of_not_ge fun q => h (Int.toNat_le.mpr q))
  rw [Int.min_eq_right h2, Int.max_eq_right (Int.natCast_nonneg n), Int.toNat_natCast]

theorem slice_toL {x : Str} {l u : Option Int} {a b : Nat}
    (ha : a = (match l with | none => (0 : Int) | some i => max 0 (min (if i < 0 then i + x.length else i) x.length)).toNat)
    (hb : b = (match u with | none => (x.length : Int) | some i => max 0 (min (if i < 0 then i + x.length else i) x.length)).toNat) :
    toL (Txt.slice x l u) = ((toL x).drop a).take (b - a) := by
  have hbn : b ≤ x.length := by
    cases u with
    | none => simp only at hb; omega
    | some j => simp only at hb; omega
  have e := idx_of (l := l) (u := u) (n := x.length) ha hb
  unfold Txt.slice
  rw [e]
  split
  · rename_i h
    simp only [List.length_map, List.length_range, Bool.and_eq_true, beq_iff_eq] at h
    have h0 : a = 0 ∧ b = x.length ∨ x.length = 0 := by omega
    rcases h0 with ⟨rfl, rfl⟩ | h0
    · rw [List.drop_zero, Nat.sub_zero, List.take_of_length_le (by rw [toL_length]; exact Nat.le_refl _)]
    · have : toL x = [] := List.eq_nil_of_length_eq_zero (by rw [toL_length, h0])
      rw [this]; simp
  · by_cases hab : a ≤ b
    · have := StrLaws.picks (toL x) (b - a) a (by rw [toL_length]; omega)
      show (List.filterMap (fun i => x.cps[i]?) _) = _
      rw [← this]
      simp [toL]
    · have : b - a = 0 := by omega
      rw [this]
      simp [toL]

theorem slice_ss {x : Str} {i j : Int} (hi : 0 ≤ i) (hj : 0 ≤ j) : toL (Txt.slice x (some i) (some j)) = ((toL x).drop i.toNat).take (j.toNat - i.toNat) := by
  rw [slice_toL rfl rfl]
  have e1 : ¬ i < 0 := by omega
  have e2 : ¬ j < 0 := by omega
  simp only [e1, e2, if_false]
  have hl := toL_length x
  by_cases h1 : i.toNat ≤ x.length
  · have a1 : (max 0 (min i (x.length : Int))).toNat = i.toNat := clamp_le hi h1
    rw [a1]
    by_cases h2 : j.toNat ≤ x.length
    · have a2 : (max 0 (min j (x.length : Int))).toNat = j.toNat := clamp_le hj h2
      rw [a2]
    · have a2 : (max 0 (min j (x.length : Int))).toNat = x.length := clamp_gt h2
      rw [a2, List.take_of_length_le (by rw [List.length_drop, hl]; omega), List.take_of_length_le (by rw [List.length_drop, hl]; omega)]
  · have a1 : (max 0 (min i (x.length : Int))).toNat = x.length := clamp_gt h1
    rw [a1, List.drop_of_length_le (by omega), List.drop_of_length_le (by omega)]
    simp
theorem slice_sn {x : Str} {i : Int} (hi : 0 ≤ i) : toL (Txt.slice x (some i) none) = (toL x).drop i.toNat := by
  rw [slice_toL rfl rfl]
  have e1 : ¬ i < 0 := by omega
  simp only [e1, if_false]
  have hl := toL_length x
  by_cases h1 : i.toNat ≤ x.length
  · have a1 : (max 0 (min i (x.length : Int))).toNat = i.toNat := clamp_le hi h1
    rw [a1, List.take_of_length_le (by rw [List.length_drop, hl]; omega)]
  · have a1 : (max 0 (min i (x.length : Int))).toNat = x.length := clamp_gt h1
    rw [a1, List.drop_of_length_le (by omega), List.drop_of_length_le (by omega)]
    simp
theorem slice_ns {x : Str} {j : Int} (hj : 0 ≤ j) : toL (Txt.slice x none (some j)) = (toL x).take j.toNat := by
  rw [slice_toL rfl rfl]
  have e2 : ¬ j < 0 := by omega
  simp only [e2, if_false, Int.toNat_zero, List.drop_zero, Nat.sub_zero]
  have hl := toL_length x
  by_cases h2 : j.toNat ≤ x.length
  · have a2 : (max 0 (min j (x.length : Int))).toNat = j.toNat := clamp_le hj h2
    rw [a2]
  · have a2 : (max 0 (min j (x.length : Int))).toNat = x.length := clamp_gt h2
    rw [a2, List.take_of_length_le (by omega), List.take_of_length_le (by omega)]
theorem slice_last {x : Str} : toL (Txt.slice x none (some (-1))) = (toL x).dropLast := by
  rw [slice_toL rfl rfl]
  have hl := toL_length x
  simp only [show ((-1 : Int) < 0) from by decide, if_true, Int.toNat_zero, List.drop_zero, Nat.sub_zero]
  have a2 : (max 0 (min (-1 + (x.length : Int)) (x.length : Int))).toNat = x.length - 1 := by omega
  rw [a2, List.dropLast_eq_take, hl]

theorem item_toL {x : Str} {i : Int} {c : Nat} (hi : 0 ≤ i) (h : (toL x)[i.toNat]? = some c) : Txt.item x i = ⟨#[c]⟩ := by
  have hlt : i.toNat < (toL x).length := (List.getElem?_eq_some_iff.mp h).1
  rw [toL_length] at hlt
  unfold Txt.item Txt.charAt seqIndex?
  have e1 : ¬ i < 0 := by omega
  have e2 : (decide (0 ≤ i) && decide (i < (x.length : Int))) = true := by simp; omega
  simp only [e1, if_false, e2, if_true, Option.bind_some]
  have : x.cps[i.toNat]? = some c := by simpa [toL] using h
  rw [this]; rfl
theorem item_last {x : Str} {c : Nat} (h : (toL x).getLast? = some c) : Txt.item x (-1) = ⟨#[c]⟩ := by
  have hne : toL x ≠ [] := by intro e; rw [e] at h; cases h
  have hp : 0 < (toL x).length := List.length_pos_iff.mpr hne
  rw [toL_length] at hp
  unfold Txt.item Txt.charAt seqIndex?
  have e2 : (decide (0 ≤ (-1 : Int) + x.length) && decide ((-1 : Int) + x.length < (x.length : Int))) = true := by simp; omega
  simp only [show ((-1 : Int) < 0) from by decide, if_true, e2, Option.bind_some]
  have a1 : ((-1 : Int) + (x.length : Int)).toNat = x.length - 1 := by omega
  rw [a1]
  have : x.cps[x.length - 1]? = some c := by
    rw [List.getLast?_eq_getElem?, toL_length] at h
    simpa [toL] using h
  rw [this]; rfl

end
section -- P2
open Builtin Builtin.Str StrLaws

def rn : List Nat → List Nat
  | [] => []
  | [c] => [c]
  | a :: b :: r => if a = 13 ∧ b = 10 then 10 :: rn r else a :: rn (b :: r)
def cr (l : List Nat) : List Nat := l.map fun c => if c = 13 then 10 else c
def norm (l : List Nat) : List Nat := cr (rn l)

theorem rn_cons {a : Nat} {l : List Nat} (h : ¬ (a = 13 ∧ l.head? = some 10)) : rn (a :: l) = a :: rn l := by
  cases l with
  | nil => rfl
  | cons b r =>
    conv => lhs; unfold rn
    rw [if_neg (by rintro ⟨h1, h2⟩; exact h ⟨h1, by rw [h2]; rfl⟩)]
theorem rn_pair (l : List Nat) : rn (13 :: 10 :: l) = 10 :: rn l := by
  conv => lhs; unfold rn
  simp
def pairAt (l : List Nat) (k : Nat) : Prop := l[k]? = some 13 ∧ l[k+1]? = some 10
theorem rn_free : ∀ l : List Nat, (∀ k, ¬ pairAt l k) → rn l = l
  | [], _ => rfl
  | a :: l, h => by
    rw [rn_cons, rn_free l fun k hk => h (k + 1) (by simpa [pairAt] using hk)]
    rintro ⟨rfl, h2⟩
    exact h 0 ⟨rfl, by simpa [List.head?_eq_getElem?] using h2⟩
theorem rn_app : ∀ (p q : List Nat), (∀ k, k < p.length → ¬ pairAt (p ++ 13 :: 10 :: q) k) → rn (p ++ 13 :: 10 :: q) = p ++ 10 :: rn q
  | [], q, _ => rn_pair q
  | a :: p, q, h => by
    rw [List.cons_append, rn_cons, rn_app p q fun k hk hp => h (k + 1) (by simpa using hk) (by simpa [pairAt] using hp)]
    · rfl
    · rintro ⟨rfl, h2⟩
      exact h 0 (by simp) ⟨rfl, by simpa [List.head?_eq_getElem?] using h2⟩

theorem at_pair {x : Str} {k : Nat} : At x ⟨#[13, 10]⟩ x.length k ↔ pairAt (toL x) k := by
  unfold At pairAt
  rw [subAt_eq]
  have hl := toL_length x
  show k + 2 ≤ x.length ∧ (((toL x).drop k).take 2 == [13, 10]) = true ↔ _
  rw [beq_iff_eq]
  constructor
  · rintro ⟨h1, h2⟩
    have a0 := congrArg (·[0]?) h2
    have a1 := congrArg (·[1]?) h2
    simp only [List.getElem?_take, List.getElem?_drop] at a0 a1
    exact ⟨by simpa using a0, by simpa using a1⟩
  · rintro ⟨h1, h2⟩
    have l2 : k + 1 < (toL x).length := (List.getElem?_eq_some_iff.mp h2).1
    refine ⟨by omega, ?_⟩
    refine List.ext_getElem? fun i => ?_
    rw [List.getElem?_take, List.getElem?_drop]
    match i with
    | 0 => simpa using h1
    | 1 => simpa using h2
    | i + 2 => simp; omega

theorem sub_toL (x : Str) (a b : Nat) : toL (strSub x a b) = ((toL x).drop a).take (b - a) := strSub_toList x a b

theorem join_rn (x : Str) : ∀ (cuts : List Nat) (a f : Nat), ChainG x ⟨#[13, 10]⟩ x.length a cuts f → (∀ k, f ≤ k → ¬ At x ⟨#[13, 10]⟩ x.length k) →
    toL (Str.join ⟨#[10]⟩ (partsFrom x 2 a cuts)) = rn ((toL x).drop a)
  | [], a, f, h, hn => by
    have e : f = a := h
    subst e
    show toL (strSub x f x.length) = _
    rw [sub_toL, List.take_of_length_le (by rw [List.length_drop, toL_length]; omega), rn_free]
    intro k hk
    refine hn (f + k) (by omega) (at_pair.mpr ?_)
    unfold pairAt at hk ⊢
    rw [List.getElem?_drop, List.getElem?_drop] at hk
    exact ⟨hk.1, by rw [← hk.2]; congr 1⟩
  | c :: r, a, f, h, hn => by
    obtain ⟨hac, hat, hfree, hrest⟩ := h
    obtain ⟨pp, q, e⟩ := partsFrom_ne x 2 (c + 2) r
    have ih := join_rn x r (c + 2) f hrest hn
    show toL (Str.join ⟨#[10]⟩ (strSub x a c :: partsFrom x 2 (c + 2) r)) = _
    rw [e] at ih ⊢
    show toL (strSub x a c ++ ⟨#[10]⟩ ++ Str.join ⟨#[10]⟩ (pp :: q)) = _
    rw [toL_append, toL_append, ih, sub_toL]
    have hp := at_pair.mp hat
    have hlc : c + 1 < (toL x).length := (List.getElem?_eq_some_iff.mp hp.2).1
    have ed : (toL x).drop a = ((toL x).drop a).take (c - a) ++ 13 :: 10 :: (toL x).drop (c + 2) := by
      have e1 : (toL x).drop c = 13 :: 10 :: (toL x).drop (c + 2) := by
        rw [List.drop_eq_getElem_cons (by omega), List.drop_eq_getElem_cons hlc]
        have g0 := (List.getElem?_eq_some_iff.mp hp.1).2
        have g1 := (List.getElem?_eq_some_iff.mp hp.2).2
        rw [g0, g1]
      have e2 : (toL x).drop c = ((toL x).drop a).drop (c - a) := by rw [List.drop_drop]; congr 1; omega
      rw [← e1, e2, List.take_append_drop]
    conv => rhs; rw [ed]
    rw [rn_app]
    · show _ ++ [10] ++ _ = _
      rw [List.append_assoc]; rfl
    · intro k hk hpk
      rw [← ed] at hpk
      rw [List.length_take, List.length_drop] at hk
      refine hfree (a + k) (by omega) (by omega) (at_pair.mpr ?_)
      unfold pairAt at hpk ⊢
      rw [List.getElem?_drop, List.getElem?_drop] at hpk
      exact ⟨hpk.1, by rw [← hpk.2]; congr 1⟩

theorem replace_rn (x : Str) : toL (Txt.replace x ⟨#[13, 10]⟩ ⟨#[10]⟩) = rn (toL x) := by
  obtain ⟨f, hG, hn⟩ := occ_tight x ⟨#[13, 10]⟩ (by decide)
  have key := join_rn x _ 0 f hG hn
  rw [List.drop_zero] at key
  unfold Txt.replace
  split
  · rename_i h
    have h1 : ((⟨#[13, 10]⟩ : Str).length == 0) = false := rfl
    rw [h1, Bool.false_and, Bool.or_false] at h
    have e0 : occurrences x ⟨#[13, 10]⟩ 0 x.length (x.length + 1) = [] := List.isEmpty_iff.mp h
    rw [e0] at key
    rw [← key]
    show toL x = toL (strSub x 0 x.length)
    rw [sub_whole]
  · rw [glued_eq_join, partsBetween_eq]
    exact key

theorem cr_free {p : Str} (h : 13 ∉ toL p) : toL p = cr (toL p) := by
  unfold cr
  refine (List.map_id _).symm.trans (List.map_congr_left fun c hc => ?_)
  have : c ≠ 13 := fun e => h (e ▸ hc)
  simp [this]
theorem join_cr : ∀ parts : List Str, (∀ p ∈ parts, 13 ∉ toL p) → toL (Str.join ⟨#[10]⟩ parts) = cr (toL (Str.join ⟨#[13]⟩ parts))
  | [], _ => rfl
  | [p], h => by
    exact cr_free (h p (by simp))
  | p :: q :: r, h => by
    have ih := join_cr (q :: r) fun s hs => h s (.tail _ hs)
    show toL (p ++ ⟨#[10]⟩ ++ Str.join ⟨#[10]⟩ (q :: r)) = cr (toL (p ++ ⟨#[13]⟩ ++ Str.join ⟨#[13]⟩ (q :: r)))
    rw [toL_append, toL_append, toL_append, toL_append, ih]
    have hp' : toL p = cr (toL p) := cr_free (h p (by simp))
    unfold cr at hp' ⊢
    rw [List.map_append, List.map_append, ← hp']
    rfl
theorem replace_cr (x : Str) : toL (Txt.replace x ⟨#[13]⟩ ⟨#[10]⟩) = cr (toL x) := by
  rw [replace_one, join_cr _ (split_free x 13), join_split]
theorem replace_norm (x : Str) : toL (Txt.replace (Txt.replace x ⟨#[13, 10]⟩ ⟨#[10]⟩) ⟨#[13]⟩ ⟨#[10]⟩) = norm (toL x) := by
  rw [replace_cr, replace_rn]; rfl

theorem norm_nil : norm [] = [] := rfl
theorem norm_one (c : Nat) : (norm [c]).length = 1 := rfl
theorem rn_ne {l : List Nat} (h : l ≠ []) : rn l ≠ [] := by
  match l, h with
  | [c], _ => intro e; cases e
  | a :: b :: r, _ =>
    unfold rn
    split <;> intro e <;> cases e
theorem norm_ne {l : List Nat} (h : l ≠ []) : norm l ≠ [] := by
  intro e
  exact rn_ne h (List.map_eq_nil_iff.mp e)
theorem rn_length_le : ∀ l : List Nat, (rn l).length ≤ l.length
  | [] => Nat.le_refl _
  | [_] => Nat.le_refl _
  | a :: b :: r => by
    unfold rn
    split
    · have := rn_length_le r; simp only [List.length_cons]; omega
    · have := rn_length_le (b :: r); simp only [List.length_cons] at this ⊢; omega
theorem norm_length_le (l : List Nat) : (norm l).length ≤ l.length := by
  unfold norm cr; rw [List.length_map]; exact rn_length_le l

/-- the text may be cut anywhere but between 13 and 10 -/
theorem rn_cut : ∀ (a b : List Nat), ¬ (a.getLast? = some 13 ∧ b.head? = some 10) → rn (a ++ b) = rn a ++ rn b
  | [], b, _ => rfl
  | [c], b, h => by
    show rn (c :: b) = c :: rn b
    exact rn_cons (by simpa using h)
  | x :: y :: r, b, h => by
    by_cases hp : x = 13 ∧ y = 10
    · obtain ⟨rfl, rfl⟩ := hp
      show rn (13 :: 10 :: (r ++ b)) = rn (13 :: 10 :: r) ++ rn b
      rw [rn_pair, rn_pair]
      cases r with
      | nil => rfl
      | cons z r =>
        rw [rn_cut (z :: r) b (by simpa [List.getLast?_cons_cons] using h)]
        rfl
    · show rn (x :: (y :: r ++ b)) = rn (x :: y :: r) ++ rn b
      rw [rn_cons (by simpa using hp), rn_cons (by simpa using hp), rn_cut (y :: r) b (by simpa [List.getLast?_cons_cons] using h)]
      rfl
theorem norm_cut (a b : List Nat) (h : ¬ (a.getLast? = some 13 ∧ b.head? = some 10)) : norm (a ++ b) = norm a ++ norm b := by
  unfold norm cr; rw [rn_cut a b h, List.map_append]
theorem crlf_is : Str.ofString "\x0d\n" = ⟨#[13, 10]⟩ := by decide +kernel
theorem cr_is : Str.ofString "\x0d" = ⟨#[13]⟩ := by decide +kernel
theorem lf_is : Str.ofString "\n" = ⟨#[10]⟩ := by decide +kernel
theorem gt_is : Str.ofString ">" = ⟨#[62]⟩ := by decide +kernel
theorem rep_len (x : Str) : (Txt.replace x (Str.ofString "\x0d\n") (Str.ofString "\n")).length ≤ x.length := by
  rw [crlf_is, lf_is, ← toL_length, ← toL_length, replace_rn]
  exact rn_length_le _
theorem rep_norm (x : Str) : toL (Txt.replace (Txt.replace x (Str.ofString "\x0d\n") (Str.ofString "\n")) (Str.ofString "\x0d") (Str.ofString "\n")) = norm (toL x) := by
  rw [crlf_is, lf_is, cr_is]
  exact replace_norm x

end
section -- B1
open PySem.Spec PySem.Calls

structure SA where
  x : Nat
  dx : Nat
  tx : Nat
  dtx : Nat
  rm : Nat
  er : Nat
  nl : Nat
  txt : Str
  k0 : Tok
  k1 : Tok
  k2 : Tok
  k3 : Tok
  k4 : Tok
  k5 : Tok
  k6 : Tok
  k7 : Tok
  k8 : Tok
  k9 : Tok
  j0 : Tok
  j1 : Tok
  j2 : Tok

structure SS where
  chunk : Str
  size : Int
  off : Int
  pl : Int
  pc : Int
  buf : Value
  place : Int
  t0 : Tok
  t1 : Tok
  t2 : Tok
  t3 : Tok
  t4 : Tok
  t5 : Tok

abbrev dS (w : World) (A : SA) (σ : SS) : Obj :=
  dictOf [⟨PyData.keyHash w.params (Str.ofString "reportCharacterErrors"), .str (Str.ofString "reportCharacterErrors") A.k0, .ref A.rm⟩,
    ⟨PyData.keyHash w.params (Str.ofString "newLines"), .str (Str.ofString "newLines") A.k1, .ref A.nl⟩,
    ⟨PyData.keyHash w.params (Str.ofString "dataStream"), .str (Str.ofString "dataStream") A.k2, .ref A.tx⟩,
    ⟨PyData.keyHash w.params (Str.ofString "chunk"), .str (Str.ofString "chunk") A.k3, .str σ.chunk σ.t0⟩,
    ⟨PyData.keyHash w.params (Str.ofString "chunkSize"), .str (Str.ofString "chunkSize") A.k4, .int σ.size σ.t1⟩,
    ⟨PyData.keyHash w.params (Str.ofString "chunkOffset"), .str (Str.ofString "chunkOffset") A.k5, .int σ.off σ.t2⟩,
    ⟨PyData.keyHash w.params (Str.ofString "errors"), .str (Str.ofString "errors") A.k6, .ref A.er⟩,
    ⟨PyData.keyHash w.params (Str.ofString "prevNumLines"), .str (Str.ofString "prevNumLines") A.k7, .int σ.pl σ.t3⟩,
    ⟨PyData.keyHash w.params (Str.ofString "prevNumCols"), .str (Str.ofString "prevNumCols") A.k8, .int σ.pc σ.t4⟩,
    ⟨PyData.keyHash w.params (Str.ofString "_bufferedCharacter"), .str (Str.ofString "_bufferedCharacter") A.k9, σ.buf⟩] 10
abbrev dT (w : World) (A : SA) (σ : SS) : Obj :=
  dictOf [⟨PyData.keyHash w.params (Str.ofString "text"), .str (Str.ofString "text") A.j0, .str A.txt A.j2⟩,
    ⟨PyData.keyHash w.params (Str.ofString "place"), .str (Str.ofString "place") A.j1, .int σ.place σ.t5⟩] 2

/-- the stream's objects, ahead of the rest of the ledger -/
def stL (w : World) (A : SA) (σ : SS) (rest : List (Addr × Obj)) : List (Addr × Obj) :=
  (A.x, instObj 166 A.dx) :: (A.dx, dS w A σ) :: (A.tx, instObj 73 A.dtx) :: (A.dtx, dT w A σ) :: (A.rm, methodObj (.ref 148) (.ref A.x)) :: (A.er, listOf #[] 0) :: rest

structure Sep (A : SA) : Prop where
  a : A.x ≠ A.dx
  b : A.x ≠ A.dtx
  c : A.tx ≠ A.dx
  d : A.tx ≠ A.dtx
  e : A.rm ≠ A.dx
  f : A.rm ≠ A.dtx
  g : A.er ≠ A.dx
  h : A.er ≠ A.dtx
  i : A.dx ≠ A.dtx

def okc (n : Nat) : Prop := n < 1 ∨ n = 10 ∨ n = 13 ∨ (32 ≤ n ∧ n < 127) ∨ (160 ≤ n ∧ n < 256)


end
section -- B2
open PySem.Spec PySem.Calls
def OkS (x : Str) : Prop := ∀ c ∈ toL x, okc c
theorem OkS.slice {x : Str} {l u : Option Int} (h : OkS x) : OkS (Txt.slice x l u) := by
  intro c hc
  rw [slice_toL rfl rfl] at hc
  exact h c (List.mem_of_mem_drop (List.mem_of_mem_take hc))
theorem OkS.app {x y : Str} (h : OkS x) (h' : OkS y) : OkS (x ++ y) := by
  intro c hc
  rw [toL_append] at hc
  exact (List.mem_append.mp hc).elim (h c) (h' c)
theorem OkS.cr : OkS ⟨#[13]⟩ := by
  intro c hc
  have : c = 13 := by simpa [toL] using hc
  subst this; unfold okc; omega
def bufL : Value → List Nat
  | .str s _ => toL s
  | _ => []
structure TxtOk (A : SA) : Prop where
  len : A.txt.length ≤ 1000
  ok : OkS A.txt
structure Inv (A : SA) (σ : SS) (r : List Nat) : Prop where
  size : σ.size = σ.chunk.length
  off0 : 0 ≤ σ.off
  off1 : σ.off ≤ σ.chunk.length
  len : σ.chunk.length ≤ 2000
  pl0 : 0 ≤ σ.place
  pl1 : σ.place ≤ A.txt.length
  buf : σ.buf = .none ∨ ∃ t, σ.buf = .str ⟨#[13]⟩ t
  rem : r = (toL σ.chunk).drop σ.off.toNat ++ norm (bufL σ.buf ++ (toL A.txt).drop σ.place.toNat)
theorem OkS.of1 {x y : Str} {a b : Nat} (e : toL y = ((toL x).drop a).take b) (h : OkS x) : OkS y := by
  intro c hc
  rw [e] at hc
  exact h c (List.mem_of_mem_drop (List.mem_of_mem_take hc))
theorem OkS.of2 {x y : Str} (e : toL y = (toL x).dropLast) (h : OkS x) : OkS y := by
  intro c hc
  rw [e] at hc
  exact h c ((List.dropLast_sublist _).subset hc)
theorem OkS.of3 {x y z : Str} (e : toL z = toL x ++ toL y) (h : OkS x) (h' : OkS y) : OkS z := by
  intro c hc
  rw [e] at hc
  exact (List.mem_append.mp hc).elim (h c) (h' c)
theorem OkS.last {x : Str} {c : Nat} (h : OkS x) (e : (toL x).getLast? = some c) : okc c := h c (List.mem_of_getLast? e)
def unread (A : SA) (σ : SS) : Nat := (bufL σ.buf).length + ((toL A.txt).drop σ.place.toNat).length

end
section -- R1
open PySem.Spec PySem.Calls
theorem nd1 {h₀ h : Heap} {L : Addr} {q : Addr × Obj} {l : List (Addr × Obj)} (N : News h₀ L h (q :: l)) : News h₀ L h l := fun p hp => N p (.tail _ hp)
theorem nd2 {h₀ h : Heap} {L : Addr} {q r : Addr × Obj} {l : List (Addr × Obj)} (N : News h₀ L h (q :: r :: l)) : News h₀ L h l := nd1 (nd1 N)
theorem nd3 {h₀ h : Heap} {L : Addr} {q r u : Addr × Obj} {l : List (Addr × Obj)} (N : News h₀ L h (q :: r :: u :: l)) : News h₀ L h l := nd1 (nd2 N)
theorem nd4 {h₀ h : Heap} {L : Addr} {q r u v : Addr × Obj} {l : List (Addr × Obj)} (N : News h₀ L h (q :: r :: u :: v :: l)) : News h₀ L h l := nd1 (nd3 N)
theorem endB {P : Bool → Prop} {b c : Bool} (e : b = c) (h : P c) : P b := e ▸ h
theorem endV {P : Value → Prop} {b c : Value} (e : b = c) (h : P c) : P b := e ▸ h
/-- a token's number is no nought -/
structure TP (n : Nat) : Prop where
  out : 1 ≤ n
theorem TP.succ {n : Nat} : TP (n + 1) := ⟨Nat.succ_le_succ (Nat.zero_le _)⟩
theorem TP.add2 {n : Nat} : TP (n + 2) := ⟨by omega⟩
theorem TP.add3 {n : Nat} : TP (n + 3) := ⟨by omega⟩
theorem TP.add4 {n : Nat} : TP (n + 4) := ⟨by omega⟩
section
variable {M : Model} {A : Around} {E : Value → Shared → Prop} {s : Shared} {env : Env} {Q : Flow → Shared → Prop}
theorem execsTG {st : Stmt} {rest : List Stmt} (hn : TP s.toks)
    (h : ∀ tk, TP tk → wpAny M A (exec st env) (fun f s' => TP s'.toks → match f with | .next => wpAny M A (execs rest env) Q E s' | f => Q f s') E { s with toks := tk }) :
    wpAny M A (execs (st :: rest) env) Q E s :=
  wpAny_execs_cons (wpAny_mono (wpAny_toks_of hn.out (h s.toks hn)) (fun f s' x => by
    have y := x.2 ⟨x.1⟩
    cases f <;> exact y) fun _ _ x => x.2)
end
section
variable {prog : Program} {w : World} {A : Around} {E : Value → Shared → Prop} {s : Shared} {x y z : Str} {t u v : Tok} {Q : Value → Shared → Prop}
theorem replaceT (hu : TP u) (hv : TP v) (huv : @Ne Nat u v) (hyz : (y == z) = false) (hx : x.length ≤ 1048576) (hz : z.length ≤ 14) (hs : TP s.toks)
    (hq : ∀ t' k, TP k → Q (.str (Txt.replace x y z) t') { s with toks := k }) : wpAny (model prog w) A (call (.builtin "str.replace") [.str x t, .str y u, .str z v]) Q E s :=
  wpAny_mono (wpAny_toks_of (Q := fun a s' => TP s'.toks → Q a s') hs.out (SC.replaceW (Nat.ne_of_gt hu.out) (Nat.ne_of_gt hv.out) huv hyz hx hz fun t' k hk => hq t' k hk)) (fun _ _ x => x.2 ⟨x.1⟩) fun _ _ x => x.2
theorem replace1 (hu : TP u) (hv : TP v) (huv : @Ne Nat u v) (hx : x.length ≤ 1048576) (hs : TP s.toks)
    (hq : ∀ y t' k, TP k → toL y = rn (toL x) → y.length ≤ x.length → Q (.str y t') { s with toks := k }) :
    wpAny (model prog w) A (call (.builtin "str.replace") [.str x t, .str (Str.ofString "\x0d\n") u, .str (Str.ofString "\n") v]) Q E s :=
  replaceT hu hv huv (by decide) hx (by decide) hs fun t' k hk => hq _ t' k hk (by rw [crlf_is, lf_is]; exact replace_rn x) (rep_len x)
theorem replace2 (hu : TP u) (hv : TP v) (huv : @Ne Nat u v) (hx : x.length ≤ 1048576) (hs : TP s.toks)
    (hq : ∀ y t' k, TP k → toL y = cr (toL x) → y.length = x.length → Q (.str y t') { s with toks := k }) :
    wpAny (model prog w) A (call (.builtin "str.replace") [.str x t, .str (Str.ofString "\x0d") u, .str (Str.ofString "\n") v]) Q E s :=
  replaceT hu hv huv (by decide) hx (by decide) hs fun t' k hk => by
    have e : toL (Txt.replace x (Str.ofString "\x0d") (Str.ofString "\n")) = cr (toL x) := by rw [cr_is, lf_is]; exact replace_cr x
    exact hq _ t' k hk e (by rw [← toL_length, e, ← toL_length]; exact List.length_map _)
end
section
variable {prog : Program} {w : World} {A : Around} {E : Value → Shared → Prop} {s : Shared} {x y : Str} {t u : Tok} {Q : Value → Shared → Prop}
theorem add_abs (hsz : x.length + y.length ≤ 16777216) (h : ∀ z t' k, toL z = toL x ++ toL y → z.length = x.length + y.length → Q (.str z t') { s with toks := k }) :
    wpAny (model prog w) A (binaryOp .Add (.str x t) (.str y u)) Q E s :=
  PyProof.Rows.add_str (fun t' k => h _ t' k (toL_append x y) (Str.length_append x y)) (by rw [sizeLine_eq]; exact hsz)
end
section
variable {prog : Program} {w : World} {A : Around} {E : Value → Shared → Prop} {s : Shared} {value slice : PySem.Expr} {x : Str} {t : Tok} {h₀ : Heap} {L : Addr} {m : Str → Option Value} {news : List (Addr × Obj)} {Q : Value → Shared → Prop}
theorem sl_ss {i j : Int} {ui uj : Tok} (hi : 0 ≤ i) (hj : 0 ≤ j) (hsz : x.length ≤ 16777216) (hF : Fr h₀ L s.heap m) (hN : News h₀ L s.heap news)
    (h : ∀ y h' t' k, toL y = ((toL x).drop i.toNat).take (j.toNat - i.toNat) → y.length ≤ x.length → Fr h₀ L h' m → News h₀ L h' news → Q (.str y t') { s with heap := h', toks := k })
    (hs : subscripted slice false (.str x t) (.ref s.heap.objs.size) = operate [.ref s.heap.objs.size, .str x t] (getItem (.str x t) (.ref s.heap.objs.size)) := by with_unfolding_all rfl)
    (ht : ∀ r, letTemporaryGo value (.str x t) r = pure () := by intro _; with_unfolding_all rfl) :
    wpAny (model prog w) A (subscriptTail value slice (.str x t) (.ref s.heap.objs.size)) Q E { s with heap := s.heap.push { cls := .type "slice", data := .fields #[.int i ui, .int j uj, .none] } } :=
  slice_strN_ss hF hN (fun h' t' k F N => h _ h' t' k (slice_ss hi hj) (by rw [← toL_length, slice_ss hi hj, ← toL_length x, List.length_take, List.length_drop]; exact Nat.le_trans (Nat.min_le_right _ _) (Nat.sub_le _ _)) F N) hs ht (by rw [sizeLine_eq]; exact hsz)
theorem sl_sn {i : Int} {ui : Tok} (hi : 0 ≤ i) (hsz : x.length ≤ 16777216) (hF : Fr h₀ L s.heap m) (hN : News h₀ L s.heap news)
    (h : ∀ y h' t' k, toL y = (toL x).drop i.toNat → y.length ≤ x.length → Fr h₀ L h' m → News h₀ L h' news → Q (.str y t') { s with heap := h', toks := k })
    (hs : subscripted slice false (.str x t) (.ref s.heap.objs.size) = operate [.ref s.heap.objs.size, .str x t] (getItem (.str x t) (.ref s.heap.objs.size)) := by with_unfolding_all rfl)
    (ht : ∀ r, letTemporaryGo value (.str x t) r = pure () := by intro _; with_unfolding_all rfl) :
    wpAny (model prog w) A (subscriptTail value slice (.str x t) (.ref s.heap.objs.size)) Q E { s with heap := s.heap.push { cls := .type "slice", data := .fields #[.int i ui, .none, .none] } } :=
  slice_strN_sn hF hN (fun h' t' k F N => h _ h' t' k (slice_sn hi) (by rw [← toL_length, slice_sn hi, List.length_drop, ← toL_length x]; exact Nat.sub_le _ _) F N) hs ht (by rw [sizeLine_eq]; exact hsz)
theorem sl_ns {j : Int} {uj : Tok} (hj : 0 ≤ j) (hsz : x.length ≤ 16777216) (hF : Fr h₀ L s.heap m) (hN : News h₀ L s.heap news)
    (h : ∀ y h' t' k, toL y = (toL x).take j.toNat → y.length ≤ x.length → Fr h₀ L h' m → News h₀ L h' news → Q (.str y t') { s with heap := h', toks := k })
    (hs : subscripted slice false (.str x t) (.ref s.heap.objs.size) = operate [.ref s.heap.objs.size, .str x t] (getItem (.str x t) (.ref s.heap.objs.size)) := by with_unfolding_all rfl)
    (ht : ∀ r, letTemporaryGo value (.str x t) r = pure () := by intro _; with_unfolding_all rfl) :
    wpAny (model prog w) A (subscriptTail value slice (.str x t) (.ref s.heap.objs.size)) Q E { s with heap := s.heap.push { cls := .type "slice", data := .fields #[.none, .int j uj, .none] } } :=
  slice_strN_ns hF hN (fun h' t' k F N => h _ h' t' k (slice_ns hj) (by rw [← toL_length, slice_ns hj, List.length_take, ← toL_length x]; exact Nat.min_le_right _ _) F N) hs ht (by rw [sizeLine_eq]; exact hsz)
theorem sl_last {uj : Tok} (hsz : x.length ≤ 16777216) (hF : Fr h₀ L s.heap m) (hN : News h₀ L s.heap news)
    (h : ∀ y h' t' k, toL y = (toL x).dropLast → y.length ≤ x.length → Fr h₀ L h' m → News h₀ L h' news → Q (.str y t') { s with heap := h', toks := k })
    (hs : subscripted slice false (.str x t) (.ref s.heap.objs.size) = operate [.ref s.heap.objs.size, .str x t] (getItem (.str x t) (.ref s.heap.objs.size)) := by with_unfolding_all rfl)
    (ht : ∀ r, letTemporaryGo value (.str x t) r = pure () := by intro _; with_unfolding_all rfl) :
    wpAny (model prog w) A (subscriptTail value slice (.str x t) (.ref s.heap.objs.size)) Q E { s with heap := s.heap.push { cls := .type "slice", data := .fields #[.none, .int (-1) uj, .none] } } :=
  slice_strN_ns hF hN (fun h' t' k F N => h _ h' t' k slice_last (by rw [← toL_length, slice_last, List.length_dropLast, ← toL_length x]; exact Nat.sub_le _ _) F N) hs ht (by rw [sizeLine_eq]; exact hsz)
theorem it_at {i : Int} {u : Tok} (h0 : 0 ≤ i) (h1 : i < (x.length : Int)) (hsz : x.length ≤ 16777216)
    (h : ∀ c, (toL x)[i.toNat]? = some c → Q (.str ⟨#[c]⟩ s.toks) { s with toks := s.toks + 1 })
    (hs : subscripted slice false (.str x t) (.int i u) = operate [.str x t, .int i u] (getItem (.str x t) (.int i u)) := by with_unfolding_all rfl)
    (ht : ∀ r, letTemporaryGo value (.str x t) r = pure () := by intro _; with_unfolding_all rfl) :
    wpAny (model prog w) A (subscriptTail value slice (.str x t) (.int i u)) Q E s := by
  have hlt : i.toNat < (toL x).length := by rw [toL_length]; omega
  have e := List.getElem?_eq_getElem hlt
  refine item_str (fitsSsize_of (N := 9223372036854775808) (by omega) (by omega) (Int.le_refl _)) (by omega) (by omega) (fun _ => ?_) hs ht
  rw [item_toL h0 e]
  exact h _ e
theorem it_last {u : Tok} (h1 : 1 ≤ x.length) (hsz : x.length ≤ 16777216)
    (h : ∀ c, (toL x).getLast? = some c → Q (.str ⟨#[c]⟩ s.toks) { s with toks := s.toks + 1 })
    (hs : subscripted slice false (.str x t) (.int (-1) u) = operate [.str x t, .int (-1) u] (getItem (.str x t) (.int (-1) u)) := by with_unfolding_all rfl)
    (ht : ∀ r, letTemporaryGo value (.str x t) r = pure () := by intro _; with_unfolding_all rfl) :
    wpAny (model prog w) A (subscriptTail value slice (.str x t) (.int (-1) u)) Q E s := by
  have hne : toL x ≠ [] := by intro e; have := toL_length x; rw [e] at this; simp at this; omega
  have e := List.getLast?_eq_some_getLast hne
  refine item_str (fitsSsize_of (N := 9223372036854775808) (by omega) (by omega) (Int.le_refl _)) (by omega) (by omega) (fun _ => ?_) hs ht
  rw [item_last e]
  exact h _ e
end

end
section -- Q1
open PySem.Spec PySem.Calls PySem.SeqAt PySem.MeetsSeq PySem.MeetsSeq2 PySem.MeetsSeq3
open AutoSeq1 (wpAny_loadPart')
/-- equal, in one world; `k`: how deep it may go -/
def EqW (prog : Program) (w : World) (k : Nat) (s : Shared) (v y : Value) : Prop :=
  ∀ (A : Around) (E : Value → Shared → Prop) (Q : Bool → Shared → Prop), A.units + k < cLine → Q true s → wpAny (model prog w) A (eqBool v y) Q E s
theorem EqW.le {prog : Program} {w : World} {k k' : Nat} {s : Shared} {v y : Value} (h : EqW prog w k s v y) (l : k ≤ k') : EqW prog w k' s v y :=
  fun A E Q hu hq => h A E Q (by omega) hq
/-- pairwise -/
inductive All2 {α β : Type} (R : α → β → Prop) : List α → List β → Prop
  | nil : All2 R [] []
  | cons {a b l r} : R a b → All2 R l r → All2 R (a :: l) (b :: r)
theorem All2.length {α β : Type} {R : α → β → Prop} {l : List α} {r : List β} (h : All2 R l r) : l.length = r.length := by
  induction h with
  | nil => rfl
  | cons _ _ ih => simp [ih]
theorem All2.get {α β : Type} {R : α → β → Prop} {l : List α} {r : List β} (h : All2 R l r) : ∀ (i : Nat) (h1 : i < l.length) (h2 : i < r.length), R l[i] r[i] := by
  induction h with
  | nil => intro i h1; exact absurd h1 (Nat.not_lt_zero _)
  | cons h _ ih =>
    intro i h1 h2
    cases i with
    | zero => exact h
    | succ i => exact ih i (by simpa using h1) (by simpa using h2)
theorem All2.imp {α β : Type} {R S : α → β → Prop} (f : ∀ a b, R a b → S a b) {l : List α} {r : List β} (h : All2 R l r) : All2 S l r := by
  induction h with
  | nil => exact .nil
  | cons h _ ih => exact .cons (f _ _ h) ih
/-- two lists of values that stand for the same data agree -/
theorem All2.meet {α β γ : Type} {R : α → γ → Prop} {S : β → γ → Prop} {T : α → β → Prop} (f : ∀ a b c, R a c → S b c → T a b) {l : List α} {r : List β} {c : List γ} (h : All2 R l c) (g : All2 S r c) : All2 T l r := by
  induction h generalizing r with
  | nil => cases g; exact .nil
  | cons h _ ih =>
    cases g with
    | cons g gs => exact .cons (f _ _ _ h g) (ih gs)
section
variable {prog : Program} {w : World} {A : Around} {E : Value → Shared → Prop} {s : Shared}
theorem eqw_of_ne {l b : Addr} {k : Nat} (h : l ≠ b → ∀ (A : Around) (E : Value → Shared → Prop) (Q : Value → Shared → Prop), A.units + k < cLine → Q (.bool true) s → wpAny (model prog w) A (richCompare .Eq (.ref l) (.ref b)) Q E s) : EqW prog w k s (.ref l) (.ref b) := by
  by_cases e : l = b
  · subst e
    exact fun A E Q _ hq => EqAt.same (A := A) (s := s) (.ref l) prog w E Q hq
  intro A E Q hu hq
  unfold eqBool
  refine wpAny_holding ?_
  refine wpAny_ite_split (fun hab => absurd (by have := eq_of_beq hab; injection this) e) (fun _ => ?_)
  exact wpAny_bind (h e A E _ hu (wpAny_truthy_bool hq))
theorem eqw_at {k : Nat} {v y : Value} (h : ∀ A : Around, EqAt A s v y true) : EqW prog w k s v y := fun A E Q _ hq => h A prog w E Q hq
theorem call_one {T : String} {name : Str} {id : String} {B : Builtin} {self : Value} {rest : List Value} {Q : Value → Shared → Prop} (slot : Slot T name id) (hT : s.TypeIs self T)
    (entry : entryFor table id = some B) (args : argsOk id ⟨self :: rest, []⟩)
    (g : wpAny (model prog w) A.in1 (B ⟨self :: rest, []⟩) (fun fin s' => match fin with | .done f => wants Q E (.ok f) s' | .again c' => c'.quiet = true ∧ codeAny (model prog w) A c' (wants Q E) s') (fun e s' => wants Q E (.error e) s') s) :
    wpAny (model prog w) A (call (.builtin id) (self :: rest)) Q E s :=
  wpAny_call (codeAny_call_builtin slot.plain entry (slot.check _ _ _ _ _ _ _ _ hT args g))
/-- the loop behind a list's != -/
theorem ne_loopW {k : Nat} (l b : Addr) (xs ys : Array Value) (n n2 : Nat) (dd dd2 : Option Addr) (sl sl2 : Array (Option Value)) (hsz : xs.size = ys.size) (j : Nat) :
    ∀ (i : Nat) (R : Result → Shared → Prop) (s : Shared), xs.size - i = j → A.units + 1 + k < cLine → s.heap.get? l = some { cls := .type "list", dict := dd, data := .seq xs n, slots := sl } → s.heap.get? b = some { cls := .type "list", dict := dd2, data := .seq ys n2, slots := sl2 } →
      (∀ m (h1 : m < xs.size) (h2 : m < ys.size), EqW prog w k s xs[m] ys[m]) → R (.ok (.ret (.bool false))) s →
      wpAny (model prog w) A.in1 (Builtin.«list.__eq__.loop» ⟨[.ref l, .ref b, rawInt i, rawInt 3], []⟩) (fun fin s' => match fin with | .done f => R (.ok f) s' | .again c' => c'.quiet = true ∧ codeAny (model prog w) A c' R s') (fun e s' => R (.error e) s') s := by
  induction j with
  | zero =>
    intro i R s hj hu hl hb he h
    obtain ⟨hp, g, d, tk, os⟩ := s
    wp_walk using wpAny_loadPart' hl, wpAny_loadPart' hb
    have e1 : xs[((i : Nat) : Int).toNat]? = none := by simp; omega
    have e2 : ys[((i : Nat) : Int).toNat]? = none := by simp; omega
    rw [e1, e2]
    wp_walk using wpAny_loadPart' hl, wpAny_loadPart' hb
    show R (.ok (.ret (.bool (xs.size != ys.size)))) _
    rw [hsz]
    simpa using h
  | succ j ih =>
    intro i R s hj hu hl hb he h
    obtain ⟨hp, g, d, tk, os⟩ := s
    wp_walk using wpAny_loadPart' hl, wpAny_loadPart' hb
    have l1 : i < xs.size := by omega
    have l2 : i < ys.size := by omega
    have e1 : xs[((i : Nat) : Int).toNat]? = some xs[i] := by simp [l1]
    have e2 : ys[((i : Nat) : Int).toNat]? = some ys[i] := by simp [l2]
    have e3 : ((i : Int) + 1) = ((i + 1 : Nat) : Int) := by push_cast; rfl
    rw [e1, e2]
    refine wpAny_bind (he i l1 l2 A.in1 _ _ (show A.units + 1 + k < cLine from hu) ?_)
    wp_walk
    rw [e3]
    exact ⟨plainId_quiet plain_eq_loop _, codeAny_builtin entry_eq_loop (by
      rw [Around.under_plainId plain_eq_loop _]
      exact ih (i + 1) R _ (by omega) hu hl hb he h)⟩
theorem ne_listsW {k : Nat} {l b : Addr} {xs ys : List Value} {n n2 : Nat} {Q : Value → Shared → Prop} (hl : s.heap.get? l = some (listOf xs.toArray n)) (hb : s.heap.get? b = some (listOf ys.toArray n2)) (hu : A.units + 1 + k < cLine)
    (he : All2 (EqW prog w k s) xs ys) (h : Q (.bool false) s) : wpAny (model prog w) A (compareOp .NotEq (.ref l) (.ref b)) Q E s := by
  have hsz : xs.toArray.size = ys.toArray.size := by simpa using he.length
  have hl' : s.heap.get? l = some { cls := .type "list", dict := none, data := .seq xs.toArray n, slots := #[] } := hl
  have hb' : s.heap.get? b = some { cls := .type "list", dict := none, data := .seq ys.toArray n2, slots := #[] } := hb
  refine wpAny_richCompare_same_room (op := .NotEq) ⟨_, hl, rfl⟩ ⟨_, hb, rfl⟩ F.slot_list_ne (call_one F.slot_list_ne ⟨_, hl, rfl⟩ F.entry_list_ne (F.args_list_ne_2 _ _) ?_) (by omega)
  obtain ⟨hp, g, d, tk, os⟩ := s
  have f3 := AutoSeq1.sub_list_list
  have hne : ¬ (xs.toArray.size != ys.toArray.size) = true := by simp [hsz]
  wp_walk using wpAny_loadPart' hl', wpAny_loadPart' hb'
  refine ⟨plainId_quiet plain_eq_loop _, codeAny_builtin entry_eq_loop ?_⟩
  rw [Around.under_plainId plain_eq_loop _]
  refine ne_loopW l b xs.toArray ys.toArray n n2 none none #[] #[] hsz _ 0 _ _ rfl (k := k) hu hl' hb' (fun m h1 h2 => ?_) ⟨(fun x => nomatch x), h⟩
  have := he.get m (by simpa using h1) (by simpa using h2)
  simpa using this
/-- two dicts by texts with the same keys in the same order, equal value by value -/
theorem same_dictsW {k : Nat} {nm : String} {a b : Addr} {ka kb : List (Str × Value)} {Q : Bool → Shared → Prop} (ha : (a == sysModules) = false) (hb : (b == sysModules) = false)
    (da : s.heap.DictOf (strKind prog w) a ka) (db : s.heap.DictOf (strKind prog w) b kb) (hu : A.units + k < cLine) (he : All2 (fun x y => x.1 = y.1 ∧ EqW prog w k s x.2 y.2) ka kb) (h : Q true s) :
    wpAny (model prog w) A (Builtin.Dict.samePairs nm a b) Q E s := by
  obtain ⟨oa, es, ep, hoa, _, hda, hka, hpa, hna⟩ := da
  obtain ⟨ob, es', ep', hob, _, hdb, hkb, hpb, hnb⟩ := db
  have la : ka.length = es.size := by rw [← hpa.length]; exact Array.length_toList
  have lb : kb.length = es'.size := by rw [← hpb.length]; exact Array.length_toList
  have sz : es.size = es'.size := by rw [← la, ← lb]; exact he.length
  unfold Builtin.Dict.samePairs Builtin.Dict.showsAll
  rw [if_neg (by rw [ha]; exact Bool.false_ne_true), if_neg (by rw [hb]; exact Bool.false_ne_true)]
  refine wpAny_bind (wpAny_pure (wpAny_bind (wpAny_pure (wpAny_bind (wpAny_dictEntries hoa hda ?_)))))
  dsimp only
  refine wpAny_bind (wpAny_dictEntries hob hdb ?_)
  rw [if_neg (by rw [sz]; simp)]
  refine wpAny_bind (wpAny_dictEpoch hoa hda (wpAny_bind ?_))
  rw [Std.Legacy.Range.forIn_eq_forIn_range']
  simp only [Std.Legacy.Range.size, Nat.sub_zero, Nat.add_sub_cancel, Nat.div_one]
  refine wpAny_forIn_list _ (fun rest q s' => s' = s ∧ q = (none, ()) ∧ ∃ i, rest = List.range' i (es.size - i) ∧ i ≤ es.size) _ ?_ ?_ _ _ ⟨rfl, rfl, 0, by simp, Nat.zero_le _⟩
  · rintro x rest q s' ⟨rfl, rfl, i, hr, hi⟩
    have hlt : i < es.size := by
      rcases Nat.lt_or_ge i es.size with h | h
      · exact h
      · rw [Nat.sub_eq_zero_of_le h] at hr; simp at hr
    have e0 : es.size - i = (es.size - (i + 1)) + 1 := by omega
    rw [e0, List.range'_succ] at hr
    injection hr with hx hrest
    subst hx
    have xa : x < ka.length := by rw [la]; exact hlt
    have xb : x < kb.length := by rw [← he.length]; exact xa
    have hlt' : x < es'.size := by rw [← sz]; exact hlt
    obtain ⟨kq, vq, hkv⟩ : ∃ kq vq, ka[x] = (kq, vq) := ⟨_, _, rfl⟩
    obtain ⟨kr, yq, hky⟩ : ∃ kr yq, kb[x] = (kr, yq) := ⟨_, _, rfl⟩
    have hxy := he.get x xa xb
    rw [hkv, hky] at hxy
    obtain ⟨hk, hv⟩ := hxy
    have hk' : kq = kr := hk
    subst hk'
    obtain ⟨hkey, hval⟩ := hpa.get? (i := x) (e := es[x]) (k := kq) (v := vq) (by rw [Array.getElem?_toList]; exact Array.getElem?_eq_getElem hlt) (by rw [List.getElem?_eq_getElem xa, hkv])
    obtain ⟨hkey', hval'⟩ := hpb.get? (i := x) (e := es'[x]) (k := kq) (v := yq) (by rw [Array.getElem?_toList]; exact Array.getElem?_eq_getElem hlt') (by rw [List.getElem?_eq_getElem xb, hky])
    obtain ⟨k', hk', hh⟩ := hka es[x] (Array.getElem_mem hlt)
    have ek : k' = kq := (strKind prog w).inj _ _ _ hk' hkey
    rw [ek] at hh
    refine wpAny_bind (wpAny_dictEntries hoa hda ?_)
    rw [Array.getElem?_eq_getElem hlt]
    show wpAny _ _ (holding [es[x].key, es[x].val] _ >>= _) _ _ _
    rw [hh]
    refine wpAny_bind (wpAny_holding (wpAny_bind (wpAny_dictFind_of hkey hob hdb hkb ?_)))
    have hj : es'.findIdx? (fun e => (strKind prog w).is kq e.key) = some x := by
      rw [Array.findIdx?_eq_some_iff_getElem]
      refine ⟨hlt', hkey', fun j hjx => ?_⟩
      have hj1 : j < es'.size := by omega
      have hj2 : j < kb.length := by omega
      obtain ⟨kj, hkj, hj3⟩ := hkb es'[j] (Array.getElem_mem hj1)
      obtain ⟨hjk, _⟩ := hpb.get? (i := j) (e := es'[j]) (k := kb[j].1) (v := kb[j].2) (by rw [Array.getElem?_toList]; exact Array.getElem?_eq_getElem hj1) (by rw [List.getElem?_eq_getElem hj2])
      intro hc
      have ee : kb[j].1 = kq := (strKind prog w).inj _ _ _ hjk hc
      have : (kb.map (·.1))[j]'(by simpa using hj2) = (kb.map (·.1))[x]'(by simpa using xb) := by
        simp only [List.getElem_map, hky, ee]
      exact List.pairwise_iff_getElem.mp hnb j x (by simpa using hj2) (by simpa using xb) hjx this
    rw [hj]
    refine wpAny_bind (wpAny_dictEntries hob hdb ?_)
    rw [Array.getElem?_eq_getElem hlt']
    rw [← hval, ← hval'] at hv
    refine wpAny_holding (hv A _ _ hu ?_)
    show wpAny _ _ (if (!true) = true then _ else _) _ _ _
    rw [if_neg (by decide)]
    refine wpAny_bind (wpAny_dictEpoch hoa hda ?_)
    rw [if_neg (by simp)]
    exact wpAny_pure ⟨rfl, rfl, x + 1, hrest, hlt⟩
  · rintro q s' ⟨rfl, rfl, i, hr, hi⟩
    exact wpAny_pure h
theorem eqw_dicts {k : Nat} {a b : Addr} {ka kb : List (Str × Value)} (ha : (a == sysModules) = false) (hb : (b == sysModules) = false)
    (da : s.heap.DictOf (strKind prog w) a ka) (db : s.heap.DictOf (strKind prog w) b kb) (he : All2 (fun x y => x.1 = y.1 ∧ EqW prog w k s x.2 y.2) ka kb) : EqW prog w (k + 1) s (.ref a) (.ref b) := by
  refine eqw_of_ne fun _ A E Q hu hq => ?_
  refine wpAny_richCompare_same_room (op := .Eq) da.typeIs db.typeIs PySem.F.slot_dict_eq (wpAny_call_entry PySem.F.slot_dict_eq da.typeIs PySem.F.entry_dict_eq ?_ (PySem.F.args_dict_eq_2 _ _)) (by omega)
  show wpAny _ _ (Builtin.Dict.dictSlotArgs "__eq__" ⟨[.ref a, .ref b], []⟩ >>= _) _ _ s
  refine wpAny_bind ?_
  unfold Builtin.Dict.dictSlotArgs
  refine wpAny_bind (wpAny_notOrdered_dict da.typeIs ?_)
  show wpAny _ _ (pure (Value.ref a, Value.ref b)) _ _ s
  refine wpAny_pure (wpAny_bind (wpAny_isInstance (T := "dict") db.typeIs PySem.F.sub_dict_dict ?_))
  simp only [Bool.not_true, Bool.false_eq_true, if_false]
  refine wpAny_bind (wpAny_pure (wpAny_bind (wpAny_pure (wpAny_bind (same_dictsW ha hb da db (show A.units + 1 + k < cLine by omega) he ?_)))))
  exact wpAny_pure ⟨_, rfl, (fun x => nomatch x), hq⟩
theorem ne_dictsW {k : Nat} {a b : Addr} {ka kb : List (Str × Value)} {Q : Value → Shared → Prop} (ha : (a == sysModules) = false) (hb : (b == sysModules) = false)
    (da : s.heap.DictOf (strKind prog w) a ka) (db : s.heap.DictOf (strKind prog w) b kb) (hu : A.units + 1 + k < cLine) (he : All2 (fun x y => x.1 = y.1 ∧ EqW prog w k s x.2 y.2) ka kb) (h : Q (.bool false) s) :
    wpAny (model prog w) A (compareOp .NotEq (.ref a) (.ref b)) Q E s := by
  refine wpAny_richCompare_same_room (op := .NotEq) da.typeIs db.typeIs PySem.F.slot_dict_ne (wpAny_call_entry PySem.F.slot_dict_ne da.typeIs PySem.F.entry_dict_ne ?_ (PySem.F.args_dict_ne_2 _ _)) (by omega)
  show wpAny _ _ (Builtin.Dict.dictSlotArgs "__ne__" ⟨[.ref a, .ref b], []⟩ >>= _) _ _ s
  refine wpAny_bind ?_
  unfold Builtin.Dict.dictSlotArgs
  refine wpAny_bind (wpAny_notOrdered_dict da.typeIs ?_)
  show wpAny _ _ (pure (Value.ref a, Value.ref b)) _ _ s
  refine wpAny_pure (wpAny_bind (wpAny_isInstance (T := "dict") db.typeIs PySem.F.sub_dict_dict ?_))
  simp only [Bool.not_true, Bool.false_eq_true, if_false]
  refine wpAny_bind (wpAny_pure (wpAny_bind (wpAny_pure (wpAny_bind (same_dictsW ha hb da db (show A.units + 1 + k < cLine by omega) he ?_)))))
  exact wpAny_pure ⟨_, rfl, (fun x => nomatch x), h⟩
end

end
section -- GQ
open PySem.Spec PySem.Calls
/-- what is to be shown behind a statement, behind a letter -/
def GoOn (R Q : Flow → Shared → Prop) : Prop := ∀ f s, R f s → Q f s
theorem GoOn.go {R Q : Flow → Shared → Prop} {f : Flow} {s : Shared} (h : GoOn R Q) (r : R f s) : Q f s := h f s r
section
variable {M : Model} {A : Around} {E : Value → Shared → Prop} {s : Shared} {env : Env} {Q : Flow → Shared → Prop}
theorem execsQ {st : Stmt} {rest : List Stmt} (hn : TP s.toks)
    (h : ∀ Q', GoOn (fun f s' => TP s'.toks → match f with | .next => wpAny M A (execs rest env) Q E s' | f => Q f s') Q' → ∀ tk, TP tk → wpAny M A (exec st env) Q' E { s with toks := tk }) :
    wpAny M A (execs (st :: rest) env) Q E s :=
  execsTG hn fun tk htk => h _ (fun _ _ x => x) tk htk
end

end
section -- C1
open PySem.Spec PySem.Calls
section
variable {prog : Program} {w : World} {p : Program} {loose : List Str} {mean : ExcName → Option Value} {mg mb : Str → Option Value}
   {dp un : Nat} {gd : Option (List Code)} {cn : Str} {cs : Scope} {a : Addr} {ccd : Value} {cl : List (Str × Addr)} {outer : List Env} {A₀ : Around} {base h₀ : Heap} {L : Addr} {m : Str → Option Value} {rest : List (Addr × Obj)} {s : Shared}
    {Q E : Value → Shared → Prop}

theorem isInv_t {n : Nat} {tn : Tok} (hn : okc n)
    (B : Below A₀ base outer h₀) (F : Fr h₀ L s.heap m) (X : (Mine.hd.heap_1 w.params).In h₀)
    (N : News h₀ L s.heap rest)
    (T : Top p loose mean mg mb h₀) (hk : cs.kind = .function) (hd : dp + 5 < recursionLimit) (_hu : un + 50 < cLine)
    (ret : ∀ h' tk', Fr h₀ L h' m → News h₀ L h' rest → Q (.bool false) { s with heap := h', toks := tk' }) :
    wpAny (model prog w) (ktrTop dp un gd cn cs L a ccd cl outer) (call (.ref 84) [.int n tn]) Q E s := by
  k_with_none
  (k_with "nd" => first | k_asm | exact nd1 (by k_asm) | exact nd2 (by k_asm) | exact nd3 (by k_asm) | exact nd4 (by k_asm))
  (k_with "my_steps" => (repeat' (first | (with_reducible refine GoOn.go (by with_reducible assumption) ?_; (try dsimp only)) | (k_unfold; (try dsimp only)) | (k_end; wrow_close) | walk1 | (dsimp only; walk1) | (leave1; (try dsimp only)) | fail "no step")))
  unfold okc at hn
  refine wpAny_call ?_
  k_dflt ktr_enter
  walk_at "my_steps"
  all_goals (
    refine endV (P := fun v => Q v _) (c := .bool false) (congrArg Value.bool ?_) (ret _ _ (by k_asm) (by walk_at "nd"))
    first
    | (simp; omega)
    | (have e : Int.fmod (n : Int) 65536 = n := by (rw [Int.fmod_eq_emod_of_nonneg _ (by decide)]; omega)
       rw [e]; simp; omega)
    | trace_state)
end

end
section -- C2
open PySem.Spec PySem.Calls
section
variable {prog : Program} {w : World} {p : Program} {loose : List Str} {mean : ExcName → Option Value} {mg mb : Str → Option Value}
   {dp un : Nat} {gd : Option (List Code)} {cn : Str} {cs : Scope} {a : Addr} {ccd : Value} {cl : List (Str × Addr)} {outer : List Env} {A₀ : Around} {base h₀ : Heap} {L : Addr} {m : Str → Option Value} {rest : List (Addr × Obj)} {s : Shared}
    {Q E : Value → Shared → Prop}

theorem okc_of {data : Str} (hc : OkS data) {pre post : List Int} {n : Nat} (e : KStt.codes data = pre ++ (n : Int) :: post) : okc n := by
  have h1 : (n : Int) ∈ KStt.codes data := by rw [e]; simp
  unfold KStt.codes at h1
  obtain ⟨c, hc1, hc2⟩ := List.mem_map.mp h1
  have : c = n := by exact_mod_cast hc2
  exact this ▸ hc c hc1
theorem errs_t {x : Addr} {data : Str} {td : Tok} (hc : OkS data)
    (B : Below A₀ base outer h₀) (F : Fr h₀ L s.heap m) (X : (Mine.hd.heap_1 w.params).In h₀)
    (N : News h₀ L s.heap rest)
    (T : Top p loose mean mg mb h₀) (hk : cs.kind = .function) (hd : dp + 10 < recursionLimit) (hu : un + 100 < cLine)
    {R : Result → Shared → Prop} (ret : ∀ h' tk', Fr h₀ L h' m → News h₀ L h' rest → R (.ok (.ret .none)) { s with heap := h', toks := tk' }) :
    codeAny (model prog w) (ktrTop dp un gd cn cs L a ccd cl outer) (.call (.ref 148) ⟨[.ref x, .str data td], []⟩) R s := by
  k_with_none
  (k_with "exec For Name Name cons nil" => (k_here; (rename Fr _ _ _ _ => lF'₉); (with_unfolding_all refine' For_invVF lF'₉ ?k1₉ ?k2₉ ?_; (case k1₉ => exact rfl); (case k2₉ => exact rfl); k_whole)))
  (k_with "pyIter str" => ((rename Fr _ _ _ _ => lF'₉); (rename News _ _ _ _ => lN'₉); (with_unfolding_all refine KStt.kst_text (σ := Unit) (fun _ => _) (fun _ => []) (fun _ => True) [] (fun _ _ => True) () rfl lF'₉ lN'₉ trivial (fun _ h => nomatch h) trivial ?_ ?_); all_goals (clear lF'₉ lN'₉)))
  (k_with "call ref" => (k_here; (with_reducible show wpAny _ _ (call (Value.ref 84) [Value.int _ _]) _ _ _); k_dflt (refine' isInv_t (okc_of (by assumption) (by assumption)) ?B₉ ?F₉ ?X₉ ?N₉ ?T₉ ?hk₉ ?hd₉ ?hu₉ ?_; (case B₉ => k_asm); (case F₉ => k_asm); (case X₉ => k_asm); (case N₉ => k_asm); (case T₉ => k_asm); (case hk₉ => first | exact rfl | assumption); (case hd₉ => ktr_room); (case hu₉ => ktr_units)); intro h'₉ tk'₉ F'₉ N'₉; (try dsimp only); (try k_sweep)))
  (k_with "my_steps" => (repeat' (first | (with_reducible refine GoOn.go (by with_reducible assumption) ?_; (try dsimp only)) | (k_unfold; (try dsimp only)) | (k_end; wrow_close) | walk1 | (dsimp only; walk1) | (leave1; (try dsimp only)) | fail "no step")))
  k_dflt ktr_enter
  walk_at "my_steps"
  · (rename News _ _ _ _ => nE')
    exact kst_end () (by k_asm) nE' (fun p hp => List.mem_append.mpr (.inl hp)) (fun p hp => List.mem_append.mpr (.inr hp)) rfl trivial (fun _ h => nomatch h) (fun z h1 _ _ => by simp only [if_neg h1]; rfl) trivial
  · exact ret _ _ (by k_asm) (by k_asm)
end

end
section -- C3
open PySem.Spec PySem.Calls
open Builtin Builtin.Str in
theorem gives_count4 (x y : Str) (i j : Int) (t u v v' : Tok) : ∃ N : Nat, Gives («str.count» ⟨[.str x t, .str y u, .int i v, .int j v'], []⟩) (.int N) :=
  ⟨_, .of_eq rfl⟩
open Builtin Builtin.Str in
theorem gives_rfind4 (x y : Str) (i j : Int) (t u v v' : Tok) : ∃ N : Int, Gives («str.rfind» ⟨[.str x t, .str y u, .int i v, .int j v'], []⟩) (.int N) := by
  have : ∃ lo hi, «str.rfind» ⟨[.str x t, .str y u, .int i v, .int j v'], []⟩ = (match lastOccurrence x y lo hi with | some k => retInt k | none => (do rule "str.rfind.not-found"; retInt (-1))) := ⟨_, _, rfl⟩
  obtain ⟨lo, hi, e⟩ := this
  rw [e]
  cases lastOccurrence x y lo hi with
  | none => exact ⟨-1, .rule (.of_eq rfl)⟩
  | some k => exact ⟨k, .of_eq rfl⟩
theorem noBool_m : typeLookup (.type "method") "__bool__" = pure none := by rw [typeLookup_type, builtinLookup_eq_fast]; kernel_rfl
theorem noLen_m : typeLookup (.type "method") "__len__" = pure none := by rw [typeLookup_type, builtinLookup_eq_fast]; kernel_rfl
section
variable {prog : Program} {w : World} {A : Around} {E : Value → Shared → Prop} {s : Shared} {x y : Str} {t u v v' : Tok} {i j : Int} {Q : Value → Shared → Prop}
theorem count4 (hq : ∀ N : Nat, Q (.int N s.toks) { s with toks := s.toks + 1 }) : wpAny (model prog w) A (call (.builtin "str.count") [.str x t, .str y u, .int i v, .int j v']) Q E s := by
  obtain ⟨N, g⟩ := gives_count4 x y i j t u v v'
  exact call_gives F.slot_str_count (typeIs_str _ _ _) F.entry_str_count (F.args_str_count_4 _ _ _ _) g (hq N)
theorem rfind4 (hq : ∀ N : Int, Q (.int N s.toks) { s with toks := s.toks + 1 }) : wpAny (model prog w) A (call (.builtin "str.rfind") [.str x t, .str y u, .int i v, .int j v']) Q E s := by
  obtain ⟨N, g⟩ := gives_rfind4 x y i j t u v v'
  exact call_gives F.slot_str_rfind (typeIs_str _ _ _) F.entry_str_rfind (F.args_str_rfind_4 _ _ _ _) g (hq N)
theorem truthy_meth {h₀ : Heap} {L q : Addr} {news : List (Addr × Obj)} {f self : Value} {Q : Bool → Shared → Prop} (N : News h₀ L s.heap news) (hm : (q, methodObj f self) ∈ news) (h : Q true s) :
    wpAny (model prog w) A (truthy (.ref q)) Q E s := by
  have hT : s.TypeIs (.ref q) "method" := ⟨_, (N _ hm).1, rfl⟩
  unfold truthy
  refine wpAny_bind (wpAny_callSpecial?_none (name := Str.ofString "__bool__") hT noBool_m ?_)
  refine wpAny_bind (wpAny_specialOf (name := Str.ofString "__len__") hT noLen_m ?_)
  exact wpAny_pure h
end

section
variable {prog : Program} {w : World} {p : Program} {loose : List Str} {mean : ExcName → Option Value} {mg mb : Str → Option Value}
   {dp un : Nat} {gd : Option (List Code)} {cn : Str} {cs : Scope} {a : Addr} {ccd : Value} {cl : List (Str × Addr)} {outer : List Env} {A₀ : Around} {base h₀ : Heap} {L : Addr} {m : Str → Option Value} {rest : List (Addr × Obj)} {s : Shared}
    {Q E : Value → Shared → Prop}
abbrev tup2 (i j : Int) (ti tj : Tok) : Obj := { cls := .type "tuple", data := .seq #[.int i ti, .int j tj] }
theorem pos_t {A : SA} {σ : SS} {o : Int} {to : Tok}
    (B : Below A₀ base outer h₀) (F : Fr h₀ L s.heap m) (X : (Mine.hd.heap_1 w.params).In h₀)
    (N : News h₀ L s.heap (stL w A σ rest))
    (T : Top p loose mean mg mb h₀) (hk : cs.kind = .function) (hd : dp + 10 < recursionLimit) (hu : un + 100 < cLine)
    (ret : ∀ tp i j ti tj h' tk', Fr h₀ L h' m → News h₀ L h' ((tp, tup2 i j ti tj) :: stL w A σ rest) → AllLt tp (stL w A σ rest) → Q (.ref tp) { s with heap := h', toks := tk' }) :
    wpAny (model prog w) (ktrTop dp un gd cn cs L a ccd cl outer) (call (.ref 119) [.ref A.x, .int o to]) Q E s := by
  k_with_none
  (k_with "nd" => first | k_asm | exact nd1 (by k_asm) | exact nd2 (by k_asm) | exact nd3 (by k_asm) | exact nd4 (by k_asm))
  (k_with "call builtin:str.count" => (refine count4 ?_; intro _; (try dsimp only)))
  (k_with "call builtin:str.rfind" => (refine rfind4 ?_; intro _; (try dsimp only)))
  (k_with "my_enter" => k_dflt (refine' code_def ?k1₉ ?k2₉ ?k3₉ ?k4₉ ?k5₉ ?kA₉ ?kF₉ ?kK₉ ?k6₉ ?k7₉ ?k8₉ ?k9₉ ?kB₉ ?_ ?c2₉ ?c3₉ ?c4₉ ?c5₉; (case kA₉ => exact rfl); (case kF₉ => exact rfl); (case kK₉ => first | exact rfl | assumption); (case k1₉ => k_asm); (case k2₉ => k_asm); (case k3₉ => k_asm); (case k4₉ => k_asm); (case k5₉ => k_asm); (case k6₉ => k_is); (case k7₉ => k_is); (case k8₉ => ktr_room); (case k9₉ => first | exact BindsTo.of_eq rfl | exact binds_K (by k_in) rfl (by k_is) rfl rfl rfl); (case c5₉ => decide); (case kB₉ => exact locs rfl); (case c2₉ => exact rfl); (case c3₉ => exact rfl); (case c4₉ => exact rfl); k_whole; intro g'₉ L'₉ h'₉ FG'₉ F'₉ N'₉ B'₉ X'₉ T'₉; (try dsimp only); (try k_fold)))
  (k_with "my_steps" => (repeat' (first | (with_reducible refine GoOn.go (by with_reducible assumption) ?_; (try dsimp only)) | (k_unfold; (try dsimp only)) | (k_end; wrow_close) | walk1 | (dsimp only; walk1) | (leave1; (try dsimp only)) | fail "no step")))
  unfold stL dS dT at N
  unfold stL dS dT at ret
  refine wpAny_call ?_
  walk_at "my_enter"
  walk_at "my_steps"
  all_goals exact ret _ _ _ _ _ _ _ (by k_asm) (by k_asm) (by assumption)
end

end
section -- P3
open PySem.Spec PySem.Calls
theorem drop_part {T P : List Nat} {pl n : Nat} (hP : P = (T.drop pl).take n) : T.drop pl = P ++ T.drop (pl + P.length) := by
  have h1 : T.drop pl = (T.drop pl).take n ++ (T.drop pl).drop n := (List.take_append_drop n _).symm
  rw [← hP] at h1
  rw [h1]
  congr 1
  by_cases h : n ≤ (T.drop pl).length
  · have : P.length = n := by rw [hP, List.length_take]; omega
    rw [this, List.drop_drop]
  · have e : P.length = (T.drop pl).length := by rw [hP, List.length_take]; omega
    rw [List.drop_of_length_le (by omega)]
    rw [List.length_drop] at e
    rw [List.drop_of_length_le (by omega)]
theorem drop_none {T P : List Nat} {pl n : Nat} (hP : P = (T.drop pl).take n) (h : P.length < n) : T.drop (pl + P.length) = [] := by
  have e : P.length = (T.drop pl).length := by
    have := congrArg List.length hP
    rw [List.length_take] at this; omega
  rw [List.length_drop] at e
  exact List.drop_of_length_le (by omega)
theorem buf13 {c : Nat} {t : Tok} (h : (c : Int) = 13) : Value.str ⟨#[c]⟩ t = .none ∨ ∃ t', Value.str ⟨#[c]⟩ t = .str ⟨#[13]⟩ t' := by
  have : c = 13 := by omega
  subst this; exact .inr ⟨t, rfl⟩
theorem norm_len {y1 y2 y3 : Str} (h2 : toL y2 = rn (toL y1)) (h3 : toL y3 = cr (toL y2)) : toL y3 = norm (toL y1) := by
  rw [h3, h2]; rfl
section
variable {A : SA} {σ : SS} {place : Int} {part y0 y1 y2 y3 : Str} {n c : Nat} {b : List Nat} {pl pc : Int} {tb t0 t1 t2 t3 t4 t5 : Tok}
theorem end_tn {p : Int} {k : Nat} (h : 0 ≤ p) : (p + (k : Int)).toNat = p.toNat + k := by omega
theorem end_le {y3 y0 b part T p : Nat} (h1 : y3 ≤ y0) (h2 : y0 = b + part) (h3 : part ≤ T - p) (h4 : T ≤ 1000) (h5 : b ≤ 1) : y3 ≤ 2000 := by omega
theorem end_pl {p : Int} {part T : Nat} (h0 : 0 ≤ p) (h0' : p ≤ (T : Int)) (h3 : part ≤ T - p.toNat) : p + (part : Int) ≤ (T : Int) := by omega
theorem end_buf (h0 : 0 ≤ place) (h0' : place ≤ A.txt.length) (tl : A.txt.length ≤ 1000) (hb : b.length ≤ 1)
    (hP : toL part = ((toL A.txt).drop place.toNat).take n) (hD : toL y0 = b ++ toL part) (hlen : 1 < (y0.length : Int)) (hlast : (toL y0).getLast? = some c) {c1 : Nat} (hc1 : (c1 : Int) = 13) (hlast1 : (toL y0).getLast? = some c1)
    (h1 : toL y1 = (toL y0).dropLast) (h2 : toL y2 = rn (toL y1)) (h3 : toL y3 = cr (toL y2))
    (hσ : bufL σ.buf = b) (hσ' : σ.place = place) :
    Inv A ⟨y3, y3.length, 0, pl, pc, .str ⟨#[c]⟩ tb, place + part.length, t0, t1, t2, t3, t4, t5⟩ (norm (b ++ (toL A.txt).drop place.toNat)) ∧
    1 ≤ y3.length ∧ unread A ⟨y3, y3.length, 0, pl, pc, .str ⟨#[c]⟩ tb, place + part.length, t0, t1, t2, t3, t4, t5⟩ < unread A σ := by
  have hc' : c = 13 := by
    rw [hlast] at hlast1
    have := Option.some.inj hlast1
    omega
  subst hc'
  have e3 := norm_len h2 h3
  have hdp := drop_part hP
  have lp : (toL part).length ≤ A.txt.length - place.toNat := by
    have := congrArg List.length hP
    rw [List.length_take, List.length_drop, toL_length A.txt] at this; omega
  have epl : (place + (part.length : Int)).toNat = place.toNat + (toL part).length := by rw [toL_length]; exact end_tn h0
  have ly0 : y0.length = b.length + (toL part).length := by rw [← toL_length, hD, List.length_append]
  have hne : toL y0 ≠ [] := by intro e; rw [e] at hlast; cases hlast
  have hy0 : toL y0 = toL y1 ++ [13] := by
    rw [h1, ← List.dropLast_concat_getLast hne]
    have : (toL y0).getLast hne = 13 := by
      have := List.getLast?_eq_some_getLast hne
      rw [this] at hlast; exact Option.some.inj hlast
    rw [this]; simp
  have ly1 : (toL y1).length = y0.length - 1 := by rw [h1, List.length_dropLast, toL_length]
  have l3 : y3.length ≤ y0.length - 1 := by
    rw [← toL_length, e3]; exact Nat.le_trans (norm_length_le _) (by omega)
  have p3 : 1 ≤ y3.length := by
    rw [← toL_length, e3]
    exact List.length_pos_iff.mpr (norm_ne (List.length_pos_iff.mp (by omega)))
  rw [toL_length] at lp ly0
  refine ⟨⟨rfl, Int.le_refl _, Int.natCast_nonneg _, ?_, ?_, ?_, .inr ⟨tb, rfl⟩, ?_⟩, p3, ?_⟩
  · exact end_le (Nat.le_trans l3 (Nat.sub_le _ _)) ly0 lp tl hb
  · exact Int.add_nonneg h0 (Int.natCast_nonneg _)
  · exact end_pl h0 h0' lp
  · show _ = (toL y3).drop 0 ++ norm ([13] ++ (toL A.txt).drop (place + (part.length : Int)).toNat)
    rw [epl, List.drop_zero, e3, hdp, ← List.append_assoc, ← hD, hy0, List.append_assoc, norm_cut]
    rintro ⟨_, h⟩
    simp at h
  · unfold unread
    rw [hσ, hσ']
    show 1 + ((toL A.txt).drop (place + (part.length : Int)).toNat).length < _
    rw [epl]
    have := congrArg List.length hdp
    rw [List.length_append, toL_length part] at this
    rw [toL_length]
    omega
theorem end_plain (h0 : 0 ≤ place) (h0' : place ≤ A.txt.length) (tl : A.txt.length ≤ 1000) (hb : b.length ≤ 1)
    (hP : toL part = ((toL A.txt).drop place.toNat).take n) (hn : 2 ≤ n) (hD : toL y0 = b ++ toL part) (hlen : 0 < (y0.length : Int))
    (hlast : (y0.length : Int) ≤ 1 ∨ ∃ c, (toL y0).getLast? = some c ∧ ¬ (c : Int) = 13)
    (h2 : toL y2 = rn (toL y0)) (h3 : toL y3 = cr (toL y2))
    (hσ : bufL σ.buf = b) (hσ' : σ.place = place) :
    Inv A ⟨y3, y3.length, 0, pl, pc, .none, place + part.length, t0, t1, t2, t3, t4, t5⟩ (norm (b ++ (toL A.txt).drop place.toNat)) ∧
    1 ≤ y3.length ∧ unread A ⟨y3, y3.length, 0, pl, pc, .none, place + part.length, t0, t1, t2, t3, t4, t5⟩ < unread A σ := by
  have e3 := norm_len h2 h3
  have hdp := drop_part hP
  have lp : (toL part).length ≤ A.txt.length - place.toNat := by
    have := congrArg List.length hP
    rw [List.length_take, List.length_drop, toL_length A.txt] at this; omega
  have epl : (place + (part.length : Int)).toNat = place.toNat + (toL part).length := by rw [toL_length]; exact end_tn h0
  have ly0 : y0.length = b.length + (toL part).length := by rw [← toL_length, hD, List.length_append]
  have l3 : y3.length ≤ y0.length := by
    rw [← toL_length, e3, ← toL_length]; exact norm_length_le _
  have p3 : 1 ≤ y3.length := by
    rw [← toL_length, e3]
    exact List.length_pos_iff.mpr (norm_ne (List.length_pos_iff.mp (by rw [toL_length]; omega)))
  have hcut : norm (b ++ (toL A.txt).drop place.toNat) = norm (toL y0) ++ norm ((toL A.txt).drop (place.toNat + (toL part).length)) := by
    conv => lhs; rw [hdp]
    rw [← List.append_assoc, ← hD]
    rcases hlast with h | ⟨c, h1, h2⟩
    · have : (toL part).length < n := by omega
      rw [drop_none hP this]
      rw [List.append_nil, norm_nil, List.append_nil]
    · refine norm_cut _ _ ?_
      rintro ⟨h, _⟩
      rw [h1] at h
      have := Option.some.inj h
      omega
  rw [toL_length] at lp ly0
  refine ⟨⟨rfl, Int.le_refl _, Int.natCast_nonneg _, ?_, ?_, ?_, .inl rfl, ?_⟩, p3, ?_⟩
  · exact end_le l3 ly0 lp tl hb
  · exact Int.add_nonneg h0 (Int.natCast_nonneg _)
  · exact end_pl h0 h0' lp
  · show _ = (toL y3).drop 0 ++ norm ([] ++ (toL A.txt).drop (place + (part.length : Int)).toNat)
    rw [epl, List.drop_zero, e3, hcut]; rfl
  · unfold unread
    rw [hσ, hσ']
    show 0 + ((toL A.txt).drop (place + (part.length : Int)).toNat).length < _
    rw [epl]
    have := congrArg List.length hdp
    rw [List.length_append, toL_length part] at this
    rw [toL_length]
    omega
theorem end_none {z : Str} (h0 : 0 ≤ place) (h0' : place ≤ A.txt.length) (hb : b = [])
    (hP : toL part = ((toL A.txt).drop place.toNat).take n) (hn : 2 ≤ n) (hlen : (part.length : Int) = 0) (hz : z = Str.ofString "")
    (hσ : bufL σ.buf = b) (hσ' : σ.place = place) :
    Inv A ⟨z, 0, 0, pl, pc, .none, place + part.length, t0, t1, t2, t3, t4, t5⟩ (norm (b ++ (toL A.txt).drop place.toNat)) ∧
    z.length = 0 ∧ unread A ⟨z, 0, 0, pl, pc, .none, place + part.length, t0, t1, t2, t3, t4, t5⟩ = 0 := by
  subst hz hb
  have hp0 : (toL part).length = 0 := by rw [toL_length]; omega
  have hdn := drop_none hP (by omega)
  rw [hp0, Nat.add_zero] at hdn
  have epl : (place + (part.length : Int)).toNat = place.toNat := by omega
  refine ⟨⟨rfl, Int.le_refl _, Int.natCast_nonneg _, Nat.zero_le _, ?_, ?_, .inl rfl, ?_⟩, rfl, ?_⟩
  · show 0 ≤ place + (part.length : Int); omega
  · show place + (part.length : Int) ≤ (A.txt.length : Int); omega
  · show _ = (toL (Str.ofString "")).drop 0 ++ norm ([] ++ (toL A.txt).drop (place + (part.length : Int)).toNat)
    rw [epl, hdn]; rfl
  · unfold unread
    show 0 + ((toL A.txt).drop (place + (part.length : Int)).toNat).length = 0
    rw [epl, hdn]; rfl
end

end
section -- P4
open PySem.Spec PySem.Calls
theorem execsNG {M : Model} {A : Around} {E : Value → Shared → Prop} {s : Shared} {env : Env} {Q : Flow → Shared → Prop} (hn : TP s.toks) (h : ∀ tk, TP tk → Q .next { s with toks := tk }) :
    wpAny M A (execs [] env) Q E s := wpAny_execs_nil (h s.toks hn)
/-- what lies behind the place is what was read since, the newest first -/
def Back (σ : SS) (st : List Nat) : Prop := ∀ i, i < σ.off.toNat → i < st.length → (toL σ.chunk)[σ.off.toNat - 1 - i]? = st[i]?
theorem Back.nil (σ : SS) : Back σ [] := fun _ _ h => absurd h (Nat.not_lt_zero _)
theorem Back.zero {σ : SS} (h : σ.off = 0) (st : List Nat) : Back σ st := fun i hi _ => by rw [h] at hi; exact absurd hi (Nat.not_lt_zero _)
def CharPost (A : SA) (σ : SS) (r : List Nat) (v : Value) (σ' : SS) : Prop := match r with
  | [] => v = .none ∧ Inv A σ' [] ∧ σ'.off = 0
  | c :: r' => (∃ t, v = .str ⟨#[c]⟩ t) ∧ Inv A σ' r' ∧ ∀ st, Back σ st → Back σ' (c :: st)
section
variable {A : SA} {σ σ' : SS} {r : List Nat} {c : Nat} {t t2 : Tok}
theorem char_step (I : Inv A σ r) (h : (toL σ.chunk)[σ.off.toNat]? = some c) :
    ∃ r', r = c :: r' ∧ Inv A ⟨σ.chunk, σ.size, σ.off + 1, σ.pl, σ.pc, σ.buf, σ.place, σ.t0, σ.t1, t2, σ.t3, σ.t4, σ.t5⟩ r' := by
  have hlt : σ.off.toNat < (toL σ.chunk).length := (List.getElem?_eq_some_iff.mp h).1
  have i2 := I.off0
  have e1 : (σ.off + 1).toNat = σ.off.toNat + 1 := by omega
  refine ⟨_, ?_, ⟨I.size, ?_, ?_, I.len, I.pl0, I.pl1, I.buf, rfl⟩⟩
  · rw [I.rem, List.drop_eq_getElem_cons hlt, (List.getElem?_eq_some_iff.mp h).2]
    show _ = c :: ((toL σ.chunk).drop (σ.off + 1).toNat ++ _)
    rw [e1]; rfl
  · show 0 ≤ σ.off + 1; omega
  · show σ.off + 1 ≤ (σ.chunk.length : Int)
    rw [toL_length] at hlt; omega
theorem char_post1 (I : Inv A σ r) (h : (toL σ.chunk)[σ.off.toNat]? = some c) :
    CharPost A σ r (.str ⟨#[c]⟩ t) ⟨σ.chunk, σ.size, σ.off + 1, σ.pl, σ.pc, σ.buf, σ.place, σ.t0, σ.t1, t2, σ.t3, σ.t4, σ.t5⟩ := by
  obtain ⟨r', rfl, I'⟩ := char_step (t2 := t2) I h
  refine ⟨⟨t, rfl⟩, I', fun st hb i hi hs => ?_⟩
  have i2 := I.off0
  have e1 : (σ.off + 1).toNat = σ.off.toNat + 1 := by omega
  show (toL σ.chunk)[(σ.off + 1).toNat - 1 - i]? = _
  have hi' : i < σ.off.toNat + 1 := by rw [← e1]; exact hi
  rw [e1]
  match i with
  | 0 => simpa using h
  | i + 1 =>
    have := hb i (by omega) (by simpa using hs)
    rw [List.getElem?_cons_succ, ← this]
    congr 1; omega
theorem char_post2 (I : Inv A σ r) (hx : (σ.chunk.length : Int) ≤ σ.off) (I' : Inv A σ' (norm (bufL σ.buf ++ (toL A.txt).drop σ.place.toNat))) (h0 : σ'.off = 0) (h : (toL σ'.chunk)[σ'.off.toNat]? = some c) :
    CharPost A σ r (.str ⟨#[c]⟩ t) ⟨σ'.chunk, σ'.size, σ'.off + 1, σ'.pl, σ'.pc, σ'.buf, σ'.place, σ'.t0, σ'.t1, t2, σ'.t3, σ'.t4, σ'.t5⟩ := by
  have er : r = norm (bufL σ.buf ++ (toL A.txt).drop σ.place.toNat) := by
    rw [I.rem, List.drop_of_length_le (by rw [toL_length]; have := I.off0; omega)]; rfl
  rw [← er] at I'
  obtain ⟨r', rfl, I''⟩ := char_step (t2 := t2) I' h
  refine ⟨⟨t, rfl⟩, I'', fun st hb i hi hs => ?_⟩
  have e1 : (σ'.off + 1).toNat = 1 := by rw [h0]; rfl
  have hi' : i < 1 := by rw [← e1]; exact hi
  have : i = 0 := by omega
  subst this
  show (toL σ'.chunk)[(σ'.off + 1).toNat - 1 - 0]? = _
  rw [e1]
  rw [h0] at h
  simpa using h
theorem char_post3 (I : Inv A σ r) (hx : (σ.chunk.length : Int) ≤ σ.off) (I' : Inv A σ' (norm (bufL σ.buf ++ (toL A.txt).drop σ.place.toNat))) (h0 : σ'.off = 0)
    (h : σ'.chunk.length = 0 ∧ unread A σ' = 0) : CharPost A σ r .none σ' := by
  have er : r = norm (bufL σ.buf ++ (toL A.txt).drop σ.place.toNat) := by
    rw [I.rem, List.drop_of_length_le (by rw [toL_length]; have := I.off0; omega)]; rfl
  rw [← er] at I'
  have e : r = [] := by
    have h1 : toL σ'.chunk = [] := List.eq_nil_of_length_eq_zero (by rw [toL_length]; exact h.1)
    have h2 := h.2
    unfold unread at h2
    have h3 : bufL σ'.buf = [] := List.eq_nil_of_length_eq_zero (by omega)
    have h4 : (toL A.txt).drop σ'.place.toNat = [] := List.eq_nil_of_length_eq_zero (by omega)
    rw [I'.rem, h1, h3, h4, List.drop_nil]
    rfl
  subst e
  exact ⟨rfl, I', h0⟩
theorem unget_no {l : List Nat} {k c c' : Nat} (h : l[k]? = some c') (h2 : l[k]? = some c) (h3 : ((⟨#[c']⟩ : Str) == ⟨#[c]⟩) = false) : False := by
  rw [h] at h2
  have := Option.some.inj h2
  subst this
  simp at h3
def UngetPost (A : SA) (c : Nat) (r st : List Nat) (σ' : SS) : Prop := Inv A σ' (c :: r) ∧ Back σ' st
theorem unget_post1 {st : List Nat} {t0 t1 : Tok} {z : Str} (I : Inv A σ r) (hl : r.length + 1 ≤ 2000) (h0 : σ.off = 0) (hz : z = ⟨#[c]⟩ ++ σ.chunk) :
    UngetPost A c r st ⟨z, σ.size + 1, σ.off, σ.pl, σ.pc, σ.buf, σ.place, t0, t1, σ.t2, σ.t3, σ.t4, σ.t5⟩ := by
  subst hz
  have e1 : (⟨#[c]⟩ ++ σ.chunk : Str).length = σ.chunk.length + 1 := by rw [Str.length_append]; exact Nat.add_comm _ _
  have e2 : toL (⟨#[c]⟩ ++ σ.chunk) = c :: toL σ.chunk := toL_append _ _
  have hr := I.rem
  rw [h0] at hr
  have hl2 : σ.chunk.length ≤ r.length := by
    rw [hr, List.length_append, ← toL_length]; simp
  refine ⟨⟨?_, ?_, ?_, ?_, I.pl0, I.pl1, I.buf, ?_⟩, Back.zero (by exact h0) _⟩
  · show σ.size + 1 = ((⟨#[c]⟩ ++ σ.chunk : Str).length : Int)
    rw [e1, I.size]; omega
  · show 0 ≤ σ.off; omega
  · show σ.off ≤ ((⟨#[c]⟩ ++ σ.chunk : Str).length : Int)
    rw [e1]; omega
  · show (⟨#[c]⟩ ++ σ.chunk : Str).length ≤ 2000
    rw [e1]; omega
  · show c :: r = (toL (⟨#[c]⟩ ++ σ.chunk)).drop σ.off.toNat ++ _
    rw [e2, h0, hr]; rfl
theorem unget_post2 {st : List Nat} {t2 : Tok} (I : Inv A σ r) (hb : Back σ (c :: st)) (h0 : ¬ σ.off = 0) :
    UngetPost A c r st ⟨σ.chunk, σ.size, σ.off - 1, σ.pl, σ.pc, σ.buf, σ.place, σ.t0, σ.t1, t2, σ.t3, σ.t4, σ.t5⟩ := by
  have i2 := I.off0
  have i3 := I.off1
  have e1 : (σ.off - 1).toNat = σ.off.toNat - 1 := by omega
  have h1 := hb 0 (by omega) (by simp)
  rw [Nat.sub_zero, List.getElem?_cons_zero] at h1
  have hlt : σ.off.toNat - 1 < (toL σ.chunk).length := (List.getElem?_eq_some_iff.mp h1).1
  refine ⟨⟨I.size, ?_, ?_, I.len, I.pl0, I.pl1, I.buf, ?_⟩, fun i hi hs => ?_⟩
  · show 0 ≤ σ.off - 1; omega
  · show σ.off - 1 ≤ (σ.chunk.length : Int); omega
  · show c :: r = (toL σ.chunk).drop (σ.off - 1).toNat ++ _
    rw [e1, List.drop_eq_getElem_cons hlt, (List.getElem?_eq_some_iff.mp h1).2, I.rem]
    have : σ.off.toNat - 1 + 1 = σ.off.toNat := by omega
    rw [this]; rfl
  · show (toL σ.chunk)[(σ.off - 1).toNat - 1 - i]? = _
    have hi' : i < (σ.off - 1).toNat := hi
    rw [e1] at hi'
    have := hb (i + 1) (Nat.lt_of_lt_of_le (Nat.add_lt_of_lt_sub hi') (Nat.le_refl _)) (by simpa using hs)
    rw [List.getElem?_cons_succ] at this
    rw [← this, e1, Nat.sub_sub _ 1 i, Nat.add_comm 1 i]
theorem unget_at {st : List Nat} (I : Inv A σ r) (hb : Back σ (c :: st)) (h0 : ¬ σ.off = 0) : (toL σ.chunk)[(σ.off - 1).toNat]? = some c := by
  have i2 := I.off0
  have h1 := hb 0 (by omega) (by simp)
  rw [Nat.sub_zero, List.getElem?_cons_zero] at h1
  have e1 : (σ.off - 1).toNat = σ.off.toNat - 1 := by omega
  rw [e1]; exact h1
end

end
section -- R2
open PySem.Spec PySem.Calls
open PyProof.V
def Hold (P : Prop) : Prop := P
theorem Hold.mk {P : Prop} (h : Hold P) : P := h
theorem Hold.of {P : Prop} (h : P) : Hold P := h
section
variable {prog : Program} {w : World} {A : Around} {E : Value → Shared → Prop} {s : Shared} {x : Str} {t u : Tok} {h₀ : Heap} {L : Addr} {m : Str → Option Value} {news : List (Addr × Obj)} {Q : Value → Shared → Prop}
theorem in_gt {c : Nat} (h : Q (.bool (decide (c = 62))) s) : wpAny (model prog w) A (compareOp .In (.str ⟨#[c]⟩ t) (.str (Str.ofString ">") u)) Q E s := by
  refine PyProof.Rows.in_str ?_
  rw [StrLaws.found_one, gt_is]
  have : decide (c ∈ (⟨#[62]⟩ : Str).cps.toList) = decide (c = 62) := by
    congr 1
    exact propext ⟨fun h => by simpa using h, fun h => by simpa using h⟩
  rw [this]
  exact h
theorem joined_toL : ∀ l : List (Str × Tok), toL (Str.join Str.empty (l.map (·.1))) = (l.map fun p => toL p.1).flatten
  | [] => rfl
  | [p] => by simp [Str.join]
  | p :: q :: r => by
    have ih := joined_toL (q :: r)
    show toL (p.1 ++ Str.empty ++ Str.join Str.empty ((q :: r).map (·.1))) = _
    rw [toL_append, toL_append, ih]
    have : toL Str.empty = [] := rfl
    rw [this, List.append_nil]
    rfl
theorem join_abs {D : Addr} {l : List (Str × Tok)} {n : Nat} (N : News h₀ L s.heap news) (hm : (D, listOf (strValues l).toArray n) ∈ news) (hsz : (l.map fun p => toL p.1).flatten.length ≤ 1000000)
    (h : ∀ y t' k, toL y = (l.map fun p => toL p.1).flatten → Q (.str y t') { s with toks := k }) :
    wpAny (model prog w) A (call (.builtin "str.join") [.str (Str.ofString "") t, .ref D]) Q E s := by
  have hl : s.heap.IsList D (strValues l).toArray := ⟨_, (N _ hm).1, rfl, n, rfl⟩
  have e0 : Str.ofString "" = Str.empty := by decide +kernel
  have hj : toL (Txt.join Str.empty (l.map (·.1))) = (l.map fun p => toL p.1).flatten := by
    show toL (Builtin.Str.glued Str.empty (l.map (·.1))) = _
    rw [StrLaws.glued_eq_join]; exact joined_toL l
  rw [e0]
  have hok : JoinOk Str.empty (l.map (·.1)) = true := by
    unfold JoinOk
    rw [Bool.not_eq_true', StrLaws.joinTotal]
    unfold Builtin.Str.tooLong
    refine decide_eq_false ?_
    have e1 : ((l.map (·.1)).map (·.length)).sum = (l.map fun p => toL p.1).flatten.length := by
      rw [List.length_flatten, List.map_map, List.map_map]
      congr 1
    have e2 : (Str.empty).length = 0 := rfl
    rw [sizeLine_eq, e1, e2]
    omega
  exact SC.join hl rfl hok fun t' k => h _ t' k hj
theorem app_abs {D : Addr} {l : List (Str × Tok)} {n : Nat} {y : Str} {ty : Tok} {news' : List (Addr × Obj)} (F : Fr h₀ L s.heap m) (N : News h₀ L s.heap news) (hl : l.length ≤ 100000)
    (U : Upd D (listOf (strValues l).toArray n) (listOf (strValues (l ++ [(y, ty)])).toArray (n + 1)) news news')
    (h : ∀ h', Fr h₀ L h' m → News h₀ L h' news' → Q .none { s with heap := h' }) : wpAny (model prog w) A (call (.builtin "list.append") [.ref D, .str y ty]) Q E s := by
  have e : (strValues (l ++ [(y, ty)])).toArray = (strValues l).toArray.push (.str y ty) := by simp [strValues]
  rw [e] at U
  exact append_K F N U h (by rw [sizeLine_eq]; simp [strValues]; omega)
theorem allLt_ne {d : Addr} : ∀ {l : List (Addr × Obj)}, AllLt d l → ∀ p ∈ l, p.1 ≠ d
  | [], _, _, h => nomatch h
  | _ :: _, hl, _, .head _ => Nat.ne_of_lt hl.1
  | _ :: _, hl, p, .tail _ h => allLt_ne hl.2 p h
theorem gt_no {l : List Nat} {k c : Nat} (h : l[k]? = some c) (h2 : (decide (c = 62) == false) = true) : l[k]? ≠ some 62 := by
  rw [h]; intro e; have := Option.some.inj e; subst this; simp at h2
theorem gt_yes {l : List Nat} {k c : Nat} (h : l[k]? = some c) (h2 : (decide (c = 62) == false) = false) : l[k]? = some 62 := by
  rw [h]; congr 1; simpa using h2
theorem flat_len {l : List (Str × Tok)} {a b r : List Nat} (h : (l.map fun p => toL p.1).flatten ++ a = b) (hb : b.length ≤ r.length) : (l.map fun p => toL p.1).flatten.length ≤ r.length := by
  have := congrArg List.length h
  rw [List.length_append] at this
  omega
theorem flat_snoc (l : List (Str × Tok)) (y : Str) (t : Tok) : ((l ++ [(y, t)]).map fun p => toL p.1).flatten = (l.map fun p => toL p.1).flatten ++ toL y := by simp
theorem tw_len (r : List Nat) : (r.takeWhile (· != 62)).length ≤ r.length := by
  induction r with
  | nil => exact Nat.le_refl _
  | cons c r ih =>
    rw [List.takeWhile_cons]
    split
    · simp only [List.length_cons]; omega
    · simp
end
section
variable {A : SA} {σ : SS} {r : List Nat} {e : Int}
theorem Inv.rlen (I : Inv A σ r) (tk : TxtOk A) : r.length ≤ 3001 ∧ unread A σ ≤ 1001 := by
  have hb : (bufL σ.buf).length ≤ 1 := by
    rcases I.buf with h | ⟨t, h⟩ <;> rw [h] <;> simp [bufL]
  have ht : ((toL A.txt).drop σ.place.toNat).length ≤ 1000 := by
    rw [List.length_drop, toL_length]; have := tk.len; omega
  refine ⟨?_, by unfold unread; omega⟩
  rw [I.rem, List.length_append, List.length_drop, toL_length]
  have := norm_length_le (bufL σ.buf ++ (toL A.txt).drop σ.place.toNat)
  rw [List.length_append] at this
  have := I.len
  omega
theorem tw_app {a b : List Nat} (h : ∀ c ∈ a, c ≠ 62) : (a ++ b).takeWhile (· != 62) = a ++ b.takeWhile (· != 62) ∧ (a ++ b).dropWhile (· != 62) = b.dropWhile (· != 62) := by
  induction a with
  | nil => exact ⟨rfl, rfl⟩
  | cons c a ih =>
    have hc : (c != 62) = true := by simpa using h c (by simp)
    have := ih fun d hd => h d (.tail _ hd)
    simp only [List.cons_append, List.takeWhile_cons, List.dropWhile_cons, hc, if_true, this.1, this.2, and_self]
/-- where the inner loop ends -/
def EndAt (σ : SS) (e : Int) : Prop := σ.off ≤ e ∧ e ≤ σ.size ∧ (∀ k : Nat, σ.off.toNat ≤ k → k < e.toNat → (toL σ.chunk)[k]? ≠ some 62)
theorem EndAt.free (h : EndAt σ e) : ∀ c ∈ ((toL σ.chunk).drop σ.off.toNat).take (e.toNat - σ.off.toNat), c ≠ 62 := by
  intro c hc e62
  obtain ⟨j, hj⟩ := List.getElem?_of_mem hc
  have hlt : j < e.toNat - σ.off.toNat := by
    have := (List.getElem?_eq_some_iff.mp hj).1
    rw [List.length_take] at this; omega
  rw [List.getElem?_take_of_lt hlt, List.getElem?_drop, e62] at hj
  exact h.2.2 (σ.off.toNat + j) (by omega) (by omega) hj
/-- it stopped at a «>» within the chunk -/
theorem stop_gt (I : Inv A σ r) (h : EndAt σ e) (hg : (toL σ.chunk)[e.toNat]? = some 62) {t2 : Tok} :
    r.takeWhile (· != 62) = ((toL σ.chunk).drop σ.off.toNat).take (e.toNat - σ.off.toNat) ∧
    Inv A ⟨σ.chunk, σ.size, e, σ.pl, σ.pc, σ.buf, σ.place, σ.t0, σ.t1, t2, σ.t3, σ.t4, σ.t5⟩ (r.dropWhile (· != 62)) := by
  have hfree := h.free
  have i2 := I.off0
  have hlt := (List.getElem?_eq_some_iff.mp hg).1
  have hv := (List.getElem?_eq_some_iff.mp hg).2
  have h1 := h.1
  have e1 : (toL σ.chunk).drop σ.off.toNat = ((toL σ.chunk).drop σ.off.toNat).take (e.toNat - σ.off.toNat) ++ (toL σ.chunk).drop e.toNat := by
    conv => lhs; rw [← List.take_append_drop (e.toNat - σ.off.toNat) ((toL σ.chunk).drop σ.off.toNat)]
    rw [List.drop_drop]
    congr 2; omega
  have e2 : (toL σ.chunk).drop e.toNat = 62 :: (toL σ.chunk).drop (e.toNat + 1) := by rw [List.drop_eq_getElem_cons hlt, hv]
  have er := I.rem
  rw [e1, List.append_assoc] at er
  have t := tw_app (b := (toL σ.chunk).drop e.toNat ++ norm (bufL σ.buf ++ (toL A.txt).drop σ.place.toNat)) hfree
  rw [← er] at t
  rw [e2] at t
  refine ⟨?_, ⟨I.size, by show 0 ≤ e; omega, by show e ≤ (σ.chunk.length : Int); rw [toL_length] at hlt; omega, I.len, I.pl0, I.pl1, I.buf, ?_⟩⟩
  · rw [t.1]; simp
  · rw [t.2]
    show _ = (toL σ.chunk).drop e.toNat ++ _
    rw [e2]; simp
/-- it ran to the chunk's end -/
theorem stop_end (I : Inv A σ r) (h : EndAt σ e) (he : e = σ.size) :
    r.takeWhile (· != 62) = (toL σ.chunk).drop σ.off.toNat ++ (norm (bufL σ.buf ++ (toL A.txt).drop σ.place.toNat)).takeWhile (· != 62) ∧
    r.dropWhile (· != 62) = (norm (bufL σ.buf ++ (toL A.txt).drop σ.place.toNat)).dropWhile (· != 62) := by
  have hfree := h.free
  have : ((toL σ.chunk).drop σ.off.toNat).take (e.toNat - σ.off.toNat) = (toL σ.chunk).drop σ.off.toNat := by
    refine List.take_of_length_le ?_
    rw [List.length_drop, toL_length, he, I.size]; omega
  rw [this] at hfree
  have t := tw_app (b := norm (bufL σ.buf ++ (toL A.txt).drop σ.place.toNat)) hfree
  rw [← I.rem] at t
  exact t
end
def KswOut {σ : Type} (h₀ : Heap) (L : Addr) (s : Shared) (Led : σ → List (Addr × Obj)) (ps : σ → List (Str × Value)) (Facts : σ → Prop) (stored : List Str) (m₀ : Str → Option Value) (Ex : σ → Prop) (s₂ : Shared) : Prop :=
  ∃ (c : σ) (u : Str → Option Value) (h : Heap) (tk : Nat), s₂ = { s with heap := h, toks := tk } ∧ Facts c ∧ Ex c ∧ Fr h₀ L h (kstB (fun z => if stored.contains z then u z else m₀ z) (ps c)) ∧ News h₀ L h (Led c)
theorem ksw_cut {prog : Program} {w : World} {A : Around} {E : Value → Shared → Prop} {Q : Flow → Shared → Prop} {s : Shared} {env : Env} {h₀ : Heap} {L : Addr} {σ : Type} {test : PySem.Expr} {body : List Stmt} {pos : Pos} {m₀ : Str → Option Value}
    (Led : σ → List (Addr × Obj)) (ps : σ → List (Str × Value)) (Facts : σ → Prop) (stored : List Str) (Ex : σ → Prop) (μ : σ → Nat) (c₀ : σ)
    (F : Fr h₀ L s.heap m₀) (N : News h₀ L s.heap (Led c₀)) (hf : Facts c₀) (hk : ∀ p ∈ ps c₀, m₀ p.1 = some p.2)
    (turn : ∀ (c : σ) (u : Str → Option Value) h tk, Facts c → Fr h₀ L h (kstB (fun z => if stored.contains z then u z else m₀ z) (ps c)) → News h₀ L h (Led c) →
      wpAny (model prog w) A (isTrue test env (eval test env)) (fun b s₂ =>
        if b = true then wpAny (model prog w) A (execs body env) (KswPost h₀ L s Led ps Facts stored m₀ (fun _ => True) μ (fun f s₂ => f = .next ∧ KswOut h₀ L s Led ps Facts stored m₀ Ex s₂) c) E s₂ else KswOut h₀ L s Led ps Facts stored m₀ Ex s₂) E { s with heap := h, toks := tk })
    (done : ∀ (c : σ) (u : Str → Option Value) h tk, Facts c → Ex c → Fr h₀ L h (kstB (fun z => if stored.contains z then u z else m₀ z) (ps c)) → News h₀ L h (Led c) → Q .next { s with heap := h, toks := tk })
    (hE : PassesOwn (model prog w) A env E := by passes_own) :
    wpAny (model prog w) A (exec (.While test body [] pos) env) Q E s := by
  refine wpAny_mono (ksw_while (Q := fun f s₂ => f = .next ∧ KswOut h₀ L s Led ps Facts stored m₀ Ex s₂) Led ps Facts stored (fun _ => True) μ c₀ F N hf hk trivial ?_ hE) ?_ (fun _ _ x => x)
  · intro c u h tk hfc _ F' N'
    refine wpAny_mono (turn c u h tk hfc F' N') (fun b s₂ p => ?_) (fun _ _ x => x)
    cases b with
    | true => exact p
    | false => exact ⟨rfl, p⟩
  · rintro f s₂ ⟨rfl, c, u, h, tk, rfl, hfc, hex, F', N'⟩
    exact done c u h tk hfc hex F' N'

theorem off_cons {q : Addr × Obj} {l : List (Addr × Obj)} {x y : Nat} (h1 : @Ne Nat q.1 x) (h2 : @Ne Nat q.1 y) (h : OwnOff l [x, y]) : OwnOff (q :: l) [x, y] := by
  intro p hp b hb
  rcases List.mem_cons.mp hp with rfl | hp
  · rcases List.mem_cons.mp hb with rfl | hb
    · exact h1
    · rw [List.mem_singleton.mp hb]; exact h2
  · exact h p hp b hb
theorem mem_in {α : Type} {a b c : List α} {p : α} (h : p ∈ b ++ (a ++ c)) : p ∈ a ++ (b ++ c) := by
  simp only [List.mem_append] at h ⊢
  rcases h with h | h | h <;> simp only [h, true_or, or_true]
theorem news_in {w : World} {A : SA} {σ : SS} {h₀ h : Heap} {L : Addr} (fr : List (Addr × Obj)) {rest : List (Addr × Obj)} (N : News h₀ L h (fr ++ stL w A σ rest)) : News h₀ L h (stL w A σ (fr ++ rest)) :=
  fun p hp => N p (show p ∈ fr ++ (stL w A σ [] ++ rest) from mem_in (show p ∈ stL w A σ [] ++ (fr ++ rest) from hp))
theorem news_out {w : World} {A : SA} {σ : SS} {h₀ h : Heap} {L : Addr} (fr : List (Addr × Obj)) {rest : List (Addr × Obj)} (N : News h₀ L h (stL w A σ (fr ++ rest))) : News h₀ L h (fr ++ stL w A σ rest) :=
  fun p hp => N p (show p ∈ stL w A σ [] ++ (fr ++ rest) from mem_in (show p ∈ fr ++ (stL w A σ [] ++ rest) from hp))

end
section -- P5
open PySem.Spec PySem.Calls
section
variable {A : SA} {σ σ1 σ2 : SS} {r rc : List Nat} {e : Int} {l : List (Str × Tok)} {y y0 : Str} {t t2 : Tok}
abbrev tw (r : List Nat) : List Nat := r.takeWhile (· != 62)
abbrev dw (r : List Nat) : List Nat := r.dropWhile (· != 62)
abbrev flat (l : List (Str × Tok)) : List Nat := (l.map fun p => toL p.1).flatten
theorem flat_snoc' : flat (l ++ [(y, t)]) = flat l ++ toL y := flat_snoc l y t
theorem cu_nil {N : List Nat} (I' : Inv A σ1 N) (h : σ1.chunk.length = 0 ∧ unread A σ1 = 0) : N = [] := by
  have h1 : toL σ1.chunk = [] := List.eq_nil_of_length_eq_zero (by rw [toL_length]; exact h.1)
  have h2 := h.2
  unfold unread at h2
  have h3 : bufL σ1.buf = [] := List.eq_nil_of_length_eq_zero (by omega)
  have h4 : (toL A.txt).drop σ1.place.toNat = [] := List.eq_nil_of_length_eq_zero (by omega)
  rw [I'.rem, h1, h3, h4, List.drop_nil]
  rfl
theorem cu_end1 (J : Inv A σ2 rc) (h : EndAt σ2 e) (h1 : e = σ2.off) (h2 : σ2.off ≠ σ2.size) (hx : e = σ2.size ∨ (toL σ2.chunk)[e.toNat]? = some 62)
    (q1 : flat l ++ tw rc = tw r) (q2 : dw rc = dw r) (ej : toL y = flat l) : toL y = tw r ∧ Inv A σ2 (dw r) := by
  have hg : (toL σ2.chunk)[e.toNat]? = some 62 := hx.resolve_left (by rw [h1]; exact h2)
  have z := (stop_gt (t2 := σ2.t2) J h hg).1
  have z' : tw rc = [] := by
    show rc.takeWhile (· != 62) = []
    rw [z, h1]; simp
  have z2 : dw rc = rc := by
    have := List.takeWhile_append_dropWhile (p := (· != 62)) (l := rc)
    rw [show rc.takeWhile (· != 62) = [] from z'] at this
    exact this
  rw [z', List.append_nil] at q1
  rw [← q2, z2]
  exact ⟨ej.trans q1, J⟩
theorem cu_end2 (J : Inv A σ2 rc) (h : EndAt σ2 e) (he : e = σ2.size) (q1 : flat l ++ tw rc = tw r) (q2 : dw rc = dw r)
    (ey : toL y0 = (toL σ2.chunk).drop σ2.off.toNat) (I' : Inv A σ1 (norm (bufL σ2.buf ++ (toL A.txt).drop σ2.place.toNat))) (h0 : σ1.chunk.length = 0 ∧ unread A σ1 = 0)
    (ej : toL y = flat (l ++ [(y0, t)])) : toL y = tw r ∧ Inv A σ1 (dw r) := by
  have z := stop_end J h he
  have hn := cu_nil I' h0
  rw [hn] at z I'
  refine ⟨?_, ?_⟩
  · rw [ej, ← q1]
    show flat (l ++ [(y0, t)]) = flat l ++ rc.takeWhile (· != 62)
    rw [z.1, flat_snoc', ey]; simp
  · rw [← q2]
    show Inv A σ1 (rc.dropWhile (· != 62))
    rw [z.2]; exact I'
theorem cu_end3 (J : Inv A σ2 rc) (h : EndAt σ2 e) (he : e = σ2.size) (q1 : flat l ++ tw rc = tw r) (q2 : dw rc = dw r) (q3 : l.length + unread A σ2 ≤ unread A σ)
    (ey : toL y0 = (toL σ2.chunk).drop σ2.off.toNat) (I' : Inv A σ1 (norm (bufL σ2.buf ++ (toL A.txt).drop σ2.place.toNat))) (h0 : 1 ≤ σ1.chunk.length ∧ unread A σ1 < unread A σ2) :
    ∃ rc', Inv A σ1 rc' ∧ flat (l ++ [(y0, t)]) ++ tw rc' = tw r ∧ dw rc' = dw r ∧ (l ++ [(y0, t)]).length + unread A σ1 ≤ unread A σ := by
  have z := stop_end J h he
  refine ⟨_, I', ?_, ?_, ?_⟩
  · rw [← q1]
    show flat (l ++ [(y0, t)]) ++ _ = flat l ++ rc.takeWhile (· != 62)
    rw [z.1, flat_snoc', ey, List.append_assoc]
  · rw [← q2]; exact z.2.symm
  · rw [List.length_append]; simp only [List.length_cons, List.length_nil]; omega
theorem cu_end4 (J : Inv A σ2 rc) (h : EndAt σ2 e) (he : e ≠ σ2.size) (hx : e = σ2.size ∨ (toL σ2.chunk)[e.toNat]? = some 62) (q1 : flat l ++ tw rc = tw r) (q2 : dw rc = dw r)
    (ey : toL y0 = ((toL σ2.chunk).drop σ2.off.toNat).take (e.toNat - σ2.off.toNat)) (ej : toL y = flat (l ++ [(y0, t)])) :
    toL y = tw r ∧ Inv A ⟨σ2.chunk, σ2.size, e, σ2.pl, σ2.pc, σ2.buf, σ2.place, σ2.t0, σ2.t1, t2, σ2.t3, σ2.t4, σ2.t5⟩ (dw r) := by
  have hg := hx.resolve_left he
  have z := stop_gt (t2 := t2) J h hg
  refine ⟨?_, q2 ▸ z.2⟩
  rw [ej, ← q1]
  show flat (l ++ [(y0, t)]) = flat l ++ rc.takeWhile (· != 62)
  rw [z.1, flat_snoc', ey]
end

end
section -- G1
open PySem.Spec PySem.Calls
section
variable {prog : Program} {w : World} {A' : Around} {h₀ : Heap} {L : Addr} {m : Str → Option Value} {rest : List (Addr × Obj)} {s : Shared} {A : SA} {σ : SS} {E : Value → Shared → Prop}
theorem get_chunk {expr : Bool} {Q : Value → Shared → Prop} (F : Fr h₀ L s.heap m) (X : (Mine.hd.heap_1 w.params).In h₀) (N : News h₀ L s.heap (stL w A σ rest)) (h : Q (.str σ.chunk σ.t0) { s with toks := s.toks + 1 }) :
    wpAny (model prog w) A' (getAttr (.ref A.x) (Str.ofString "chunk") expr) Q E s := by
  unfold stL dS dT at N
  k_dflt (refine' get_own ?k1 ?k2 ?k3 ?k4 ?k5 ?k6 ?k7 ?k8 ?k9 ?_; (case k1 => k_asm); (case k2 => k_asm); (case k3 => k_inst); (case k4 => k_is); (case k5 => k_is); (case k6 => k_is); (case k7 => k_is); (case k8 => k_get); (case k9 => first | assumption | k_handed); k_whole)
  exact h
theorem get_chunkSize {expr : Bool} {Q : Value → Shared → Prop} (F : Fr h₀ L s.heap m) (X : (Mine.hd.heap_1 w.params).In h₀) (N : News h₀ L s.heap (stL w A σ rest)) (h : Q (.int σ.size σ.t1) { s with toks := s.toks + 1 }) :
    wpAny (model prog w) A' (getAttr (.ref A.x) (Str.ofString "chunkSize") expr) Q E s := by
  unfold stL dS dT at N
  k_dflt (refine' get_own ?k1 ?k2 ?k3 ?k4 ?k5 ?k6 ?k7 ?k8 ?k9 ?_; (case k1 => k_asm); (case k2 => k_asm); (case k3 => k_inst); (case k4 => k_is); (case k5 => k_is); (case k6 => k_is); (case k7 => k_is); (case k8 => k_get); (case k9 => first | assumption | k_handed); k_whole)
  exact h
theorem get_chunkOffset {expr : Bool} {Q : Value → Shared → Prop} (F : Fr h₀ L s.heap m) (X : (Mine.hd.heap_1 w.params).In h₀) (N : News h₀ L s.heap (stL w A σ rest)) (h : Q (.int σ.off σ.t2) { s with toks := s.toks + 1 }) :
    wpAny (model prog w) A' (getAttr (.ref A.x) (Str.ofString "chunkOffset") expr) Q E s := by
  unfold stL dS dT at N
  k_dflt (refine' get_own ?k1 ?k2 ?k3 ?k4 ?k5 ?k6 ?k7 ?k8 ?k9 ?_; (case k1 => k_asm); (case k2 => k_asm); (case k3 => k_inst); (case k4 => k_is); (case k5 => k_is); (case k6 => k_is); (case k7 => k_is); (case k8 => k_get); (case k9 => first | assumption | k_handed); k_whole)
  exact h
theorem get_errors {expr : Bool} {Q : Value → Shared → Prop} (F : Fr h₀ L s.heap m) (X : (Mine.hd.heap_1 w.params).In h₀) (N : News h₀ L s.heap (stL w A σ rest)) (h : Q (.ref A.er) { s with toks := s.toks + 1 }) :
    wpAny (model prog w) A' (getAttr (.ref A.x) (Str.ofString "errors") expr) Q E s := by
  unfold stL dS dT at N
  k_dflt (refine' get_own ?k1 ?k2 ?k3 ?k4 ?k5 ?k6 ?k7 ?k8 ?k9 ?_; (case k1 => k_asm); (case k2 => k_asm); (case k3 => k_inst); (case k4 => k_is); (case k5 => k_is); (case k6 => k_is); (case k7 => k_is); (case k8 => k_get); (case k9 => first | assumption | k_handed); k_whole)
  exact h
theorem get_prevNumLines {expr : Bool} {Q : Value → Shared → Prop} (F : Fr h₀ L s.heap m) (X : (Mine.hd.heap_1 w.params).In h₀) (N : News h₀ L s.heap (stL w A σ rest)) (h : Q (.int σ.pl σ.t3) { s with toks := s.toks + 1 }) :
    wpAny (model prog w) A' (getAttr (.ref A.x) (Str.ofString "prevNumLines") expr) Q E s := by
  unfold stL dS dT at N
  k_dflt (refine' get_own ?k1 ?k2 ?k3 ?k4 ?k5 ?k6 ?k7 ?k8 ?k9 ?_; (case k1 => k_asm); (case k2 => k_asm); (case k3 => k_inst); (case k4 => k_is); (case k5 => k_is); (case k6 => k_is); (case k7 => k_is); (case k8 => k_get); (case k9 => first | assumption | k_handed); k_whole)
  exact h
theorem get_prevNumCols {expr : Bool} {Q : Value → Shared → Prop} (F : Fr h₀ L s.heap m) (X : (Mine.hd.heap_1 w.params).In h₀) (N : News h₀ L s.heap (stL w A σ rest)) (h : Q (.int σ.pc σ.t4) { s with toks := s.toks + 1 }) :
    wpAny (model prog w) A' (getAttr (.ref A.x) (Str.ofString "prevNumCols") expr) Q E s := by
  unfold stL dS dT at N
  k_dflt (refine' get_own ?k1 ?k2 ?k3 ?k4 ?k5 ?k6 ?k7 ?k8 ?k9 ?_; (case k1 => k_asm); (case k2 => k_asm); (case k3 => k_inst); (case k4 => k_is); (case k5 => k_is); (case k6 => k_is); (case k7 => k_is); (case k8 => k_get); (case k9 => first | assumption | k_handed); k_whole)
  exact h
theorem get_buffered {expr : Bool} {Q : Value → Shared → Prop} (F : Fr h₀ L s.heap m) (X : (Mine.hd.heap_1 w.params).In h₀) (N : News h₀ L s.heap (stL w A σ rest)) (hv : handedIn σ.buf = true) (h : Q (σ.buf) { s with toks := s.toks + 1 }) :
    wpAny (model prog w) A' (getAttr (.ref A.x) (Str.ofString "_bufferedCharacter") expr) Q E s := by
  unfold stL dS dT at N
  k_dflt (refine' get_own ?k1 ?k2 ?k3 ?k4 ?k5 ?k6 ?k7 ?k8 ?k9 ?_; (case k1 => k_asm); (case k2 => k_asm); (case k3 => k_inst); (case k4 => k_is); (case k5 => k_is); (case k6 => k_is); (case k7 => k_is); (case k8 => k_get); (case k9 => first | assumption | k_handed); k_whole)
  exact h
theorem get_dataStream {expr : Bool} {Q : Value → Shared → Prop} (F : Fr h₀ L s.heap m) (X : (Mine.hd.heap_1 w.params).In h₀) (N : News h₀ L s.heap (stL w A σ rest)) (h : Q (.ref A.tx) { s with toks := s.toks + 1 }) :
    wpAny (model prog w) A' (getAttr (.ref A.x) (Str.ofString "dataStream") expr) Q E s := by
  unfold stL dS dT at N
  k_dflt (refine' get_own ?k1 ?k2 ?k3 ?k4 ?k5 ?k6 ?k7 ?k8 ?k9 ?_; (case k1 => k_asm); (case k2 => k_asm); (case k3 => k_inst); (case k4 => k_is); (case k5 => k_is); (case k6 => k_is); (case k7 => k_is); (case k8 => k_get); (case k9 => first | assumption | k_handed); k_whole)
  exact h
theorem get_reportCharacterErrors {expr : Bool} {Q : Value → Shared → Prop} (F : Fr h₀ L s.heap m) (X : (Mine.hd.heap_1 w.params).In h₀) (N : News h₀ L s.heap (stL w A σ rest)) (h : Q (.ref A.rm) { s with toks := s.toks + 1 }) :
    wpAny (model prog w) A' (getAttr (.ref A.x) (Str.ofString "reportCharacterErrors") expr) Q E s := by
  unfold stL dS dT at N
  k_dflt (refine' get_own ?k1 ?k2 ?k3 ?k4 ?k5 ?k6 ?k7 ?k8 ?k9 ?_; (case k1 => k_asm); (case k2 => k_asm); (case k3 => k_inst); (case k4 => k_is); (case k5 => k_is); (case k6 => k_is); (case k7 => k_is); (case k8 => k_get); (case k9 => first | assumption | k_handed); k_whole)
  exact h
theorem set_chunk {v : Str} {tv : Tok} {Q : Unit → Shared → Prop} (F : Fr h₀ L s.heap m) (X : (Mine.hd.heap_1 w.params).In h₀) (hs : Sep A) (off : OwnOff rest [A.dx, A.dtx]) (N : News h₀ L s.heap (stL w A σ rest))
    (h : ∀ h', Fr h₀ L h' m → News h₀ L h' (stL w A ⟨v, σ.size, σ.off, σ.pl, σ.pc, σ.buf, σ.place, tv, σ.t1, σ.t2, σ.t3, σ.t4, σ.t5⟩ rest) → Q () { s with heap := h', toks := s.toks + 2 }) :
    wpAny (model prog w) A' (setAttr (.ref A.x) (Str.ofString "chunk") (.str v tv)) Q E s := by
  unfold stL dS dT at N h
  obtain ⟨s1, s2, s3, s4, s5, s6, s7, s8, s9⟩ := hs
  k_dflt (refine' set_dict ?k1 ?k2 ?k3 ?k4 ?k5 ?k6 ?k7 ?k8 ?k9 ?k10 ?k11 ?k12 ?k13 ?_; (case k1 => k_asm); (case k2 => k_asm); (case k3 => k_asm); (case k4 => k_inst); (case k5 => exact rfl); (case k6 => k_is); (case k7 => k_is); (case k8 => k_is); (case k9 => k_is); (case k10 => k_get); (case k11 => k_put); (case k12 => k_upd); (case k13 => exact Nat.le_of_ble_eq_true rfl); k_whole)
  exact h
theorem set_chunkSize {v : Int} {tv : Tok} {Q : Unit → Shared → Prop} (F : Fr h₀ L s.heap m) (X : (Mine.hd.heap_1 w.params).In h₀) (hs : Sep A) (off : OwnOff rest [A.dx, A.dtx]) (N : News h₀ L s.heap (stL w A σ rest))
    (h : ∀ h', Fr h₀ L h' m → News h₀ L h' (stL w A ⟨σ.chunk, v, σ.off, σ.pl, σ.pc, σ.buf, σ.place, σ.t0, tv, σ.t2, σ.t3, σ.t4, σ.t5⟩ rest) → Q () { s with heap := h', toks := s.toks + 2 }) :
    wpAny (model prog w) A' (setAttr (.ref A.x) (Str.ofString "chunkSize") (.int v tv)) Q E s := by
  unfold stL dS dT at N h
  obtain ⟨s1, s2, s3, s4, s5, s6, s7, s8, s9⟩ := hs
  k_dflt (refine' set_dict ?k1 ?k2 ?k3 ?k4 ?k5 ?k6 ?k7 ?k8 ?k9 ?k10 ?k11 ?k12 ?k13 ?_; (case k1 => k_asm); (case k2 => k_asm); (case k3 => k_asm); (case k4 => k_inst); (case k5 => exact rfl); (case k6 => k_is); (case k7 => k_is); (case k8 => k_is); (case k9 => k_is); (case k10 => k_get); (case k11 => k_put); (case k12 => k_upd); (case k13 => exact Nat.le_of_ble_eq_true rfl); k_whole)
  exact h
theorem set_chunkOffset {v : Int} {tv : Tok} {Q : Unit → Shared → Prop} (F : Fr h₀ L s.heap m) (X : (Mine.hd.heap_1 w.params).In h₀) (hs : Sep A) (off : OwnOff rest [A.dx, A.dtx]) (N : News h₀ L s.heap (stL w A σ rest))
    (h : ∀ h', Fr h₀ L h' m → News h₀ L h' (stL w A ⟨σ.chunk, σ.size, v, σ.pl, σ.pc, σ.buf, σ.place, σ.t0, σ.t1, tv, σ.t3, σ.t4, σ.t5⟩ rest) → Q () { s with heap := h', toks := s.toks + 2 }) :
    wpAny (model prog w) A' (setAttr (.ref A.x) (Str.ofString "chunkOffset") (.int v tv)) Q E s := by
  unfold stL dS dT at N h
  obtain ⟨s1, s2, s3, s4, s5, s6, s7, s8, s9⟩ := hs
  k_dflt (refine' set_dict ?k1 ?k2 ?k3 ?k4 ?k5 ?k6 ?k7 ?k8 ?k9 ?k10 ?k11 ?k12 ?k13 ?_; (case k1 => k_asm); (case k2 => k_asm); (case k3 => k_asm); (case k4 => k_inst); (case k5 => exact rfl); (case k6 => k_is); (case k7 => k_is); (case k8 => k_is); (case k9 => k_is); (case k10 => k_get); (case k11 => k_put); (case k12 => k_upd); (case k13 => exact Nat.le_of_ble_eq_true rfl); k_whole)
  exact h
theorem set_prevNumLines {v : Int} {tv : Tok} {Q : Unit → Shared → Prop} (F : Fr h₀ L s.heap m) (X : (Mine.hd.heap_1 w.params).In h₀) (hs : Sep A) (off : OwnOff rest [A.dx, A.dtx]) (N : News h₀ L s.heap (stL w A σ rest))
    (h : ∀ h', Fr h₀ L h' m → News h₀ L h' (stL w A ⟨σ.chunk, σ.size, σ.off, v, σ.pc, σ.buf, σ.place, σ.t0, σ.t1, σ.t2, tv, σ.t4, σ.t5⟩ rest) → Q () { s with heap := h', toks := s.toks + 2 }) :
    wpAny (model prog w) A' (setAttr (.ref A.x) (Str.ofString "prevNumLines") (.int v tv)) Q E s := by
  unfold stL dS dT at N h
  obtain ⟨s1, s2, s3, s4, s5, s6, s7, s8, s9⟩ := hs
  k_dflt (refine' set_dict ?k1 ?k2 ?k3 ?k4 ?k5 ?k6 ?k7 ?k8 ?k9 ?k10 ?k11 ?k12 ?k13 ?_; (case k1 => k_asm); (case k2 => k_asm); (case k3 => k_asm); (case k4 => k_inst); (case k5 => exact rfl); (case k6 => k_is); (case k7 => k_is); (case k8 => k_is); (case k9 => k_is); (case k10 => k_get); (case k11 => k_put); (case k12 => k_upd); (case k13 => exact Nat.le_of_ble_eq_true rfl); k_whole)
  exact h
theorem set_prevNumCols {v : Int} {tv : Tok} {Q : Unit → Shared → Prop} (F : Fr h₀ L s.heap m) (X : (Mine.hd.heap_1 w.params).In h₀) (hs : Sep A) (off : OwnOff rest [A.dx, A.dtx]) (N : News h₀ L s.heap (stL w A σ rest))
    (h : ∀ h', Fr h₀ L h' m → News h₀ L h' (stL w A ⟨σ.chunk, σ.size, σ.off, σ.pl, v, σ.buf, σ.place, σ.t0, σ.t1, σ.t2, σ.t3, tv, σ.t5⟩ rest) → Q () { s with heap := h', toks := s.toks + 2 }) :
    wpAny (model prog w) A' (setAttr (.ref A.x) (Str.ofString "prevNumCols") (.int v tv)) Q E s := by
  unfold stL dS dT at N h
  obtain ⟨s1, s2, s3, s4, s5, s6, s7, s8, s9⟩ := hs
  k_dflt (refine' set_dict ?k1 ?k2 ?k3 ?k4 ?k5 ?k6 ?k7 ?k8 ?k9 ?k10 ?k11 ?k12 ?k13 ?_; (case k1 => k_asm); (case k2 => k_asm); (case k3 => k_asm); (case k4 => k_inst); (case k5 => exact rfl); (case k6 => k_is); (case k7 => k_is); (case k8 => k_is); (case k9 => k_is); (case k10 => k_get); (case k11 => k_put); (case k12 => k_upd); (case k13 => exact Nat.le_of_ble_eq_true rfl); k_whole)
  exact h
theorem set_buffered {v : Value} {Q : Unit → Shared → Prop} (F : Fr h₀ L s.heap m) (X : (Mine.hd.heap_1 w.params).In h₀) (hs : Sep A) (off : OwnOff rest [A.dx, A.dtx]) (N : News h₀ L s.heap (stL w A σ rest))
    (h : ∀ h', Fr h₀ L h' m → News h₀ L h' (stL w A ⟨σ.chunk, σ.size, σ.off, σ.pl, σ.pc, v, σ.place, σ.t0, σ.t1, σ.t2, σ.t3, σ.t4, σ.t5⟩ rest) → Q () { s with heap := h', toks := s.toks + 2 }) :
    wpAny (model prog w) A' (setAttr (.ref A.x) (Str.ofString "_bufferedCharacter") (v)) Q E s := by
  unfold stL dS dT at N h
  obtain ⟨s1, s2, s3, s4, s5, s6, s7, s8, s9⟩ := hs
  k_dflt (refine' set_dict ?k1 ?k2 ?k3 ?k4 ?k5 ?k6 ?k7 ?k8 ?k9 ?k10 ?k11 ?k12 ?k13 ?_; (case k1 => k_asm); (case k2 => k_asm); (case k3 => k_asm); (case k4 => k_inst); (case k5 => exact rfl); (case k6 => k_is); (case k7 => k_is); (case k8 => k_is); (case k9 => k_is); (case k10 => k_get); (case k11 => k_put); (case k12 => k_upd); (case k13 => exact Nat.le_of_ble_eq_true rfl); k_whole)
  exact h
end

end
section -- G2
open PySem.Spec PySem.Calls
/-- where the stream's objects lie in a ledger -/
inductive Slot (w : World) (A : SA) (σ : SS) : List (Addr × Obj) → (SS → List (Addr × Obj)) → Prop
  | here {rest : List (Addr × Obj)} (off : OwnOff rest [A.dx, A.dtx]) : Slot w A σ (stL w A σ rest) (fun σ' => stL w A σ' rest)
  | skip {q : Addr × Obj} {l : List (Addr × Obj)} {f : SS → List (Addr × Obj)} (h1 : @Ne Nat q.1 A.dx) (h2 : @Ne Nat q.1 A.dtx) (S : Slot w A σ l f) : Slot w A σ (q :: l) (fun σ' => q :: f σ')
theorem Slot.split {w : World} {A : SA} {σ : SS} {l : List (Addr × Obj)} {f : SS → List (Addr × Obj)} (S : Slot w A σ l f) :
    ∃ fr rest, l = fr ++ stL w A σ rest ∧ (∀ σ', f σ' = fr ++ stL w A σ' rest) ∧ OwnOff (fr ++ rest) [A.dx, A.dtx] := by
  induction S with
  | here off => exact ⟨[], _, rfl, fun _ => rfl, off⟩
  | skip h1 h2 _ ih =>
    obtain ⟨fr, rest, rfl, e, off⟩ := ih
    exact ⟨_ :: fr, rest, rfl, fun σ' => by show _ :: _ = _; rw [e]; rfl, off_cons h1 h2 off⟩
section
variable {prog : Program} {w : World} {A' : Around} {h₀ : Heap} {L : Addr} {m : Str → Option Value} {news : List (Addr × Obj)} {f : SS → List (Addr × Obj)} {s : Shared} {A : SA} {σ : SS} {E : Value → Shared → Prop}
theorem Slot.get (S : Slot w A σ news f) (N : News h₀ L s.heap news) : ∃ rest, News h₀ L s.heap (stL w A σ rest) := by
  obtain ⟨fr, rest, rfl, _, _⟩ := S.split
  exact ⟨rest, fun p hp => N p (List.mem_append_right _ hp)⟩
theorem sget_chunk {expr : Bool} {Q : Value → Shared → Prop} (F : Fr h₀ L s.heap m) (X : (Mine.hd.heap_1 w.params).In h₀) (N : News h₀ L s.heap news) (S : Slot w A σ news f) (h : Q (.str σ.chunk σ.t0) { s with toks := s.toks + 1 }) :
    wpAny (model prog w) A' (getAttr (.ref A.x) (Str.ofString "chunk") expr) Q E s := let ⟨_, N'⟩ := S.get N; get_chunk F X N' h
theorem sget_chunkSize {expr : Bool} {Q : Value → Shared → Prop} (F : Fr h₀ L s.heap m) (X : (Mine.hd.heap_1 w.params).In h₀) (N : News h₀ L s.heap news) (S : Slot w A σ news f) (h : Q (.int σ.size σ.t1) { s with toks := s.toks + 1 }) :
    wpAny (model prog w) A' (getAttr (.ref A.x) (Str.ofString "chunkSize") expr) Q E s := let ⟨_, N'⟩ := S.get N; get_chunkSize F X N' h
theorem sget_chunkOffset {expr : Bool} {Q : Value → Shared → Prop} (F : Fr h₀ L s.heap m) (X : (Mine.hd.heap_1 w.params).In h₀) (N : News h₀ L s.heap news) (S : Slot w A σ news f) (h : Q (.int σ.off σ.t2) { s with toks := s.toks + 1 }) :
    wpAny (model prog w) A' (getAttr (.ref A.x) (Str.ofString "chunkOffset") expr) Q E s := let ⟨_, N'⟩ := S.get N; get_chunkOffset F X N' h
theorem sget_errors {expr : Bool} {Q : Value → Shared → Prop} (F : Fr h₀ L s.heap m) (X : (Mine.hd.heap_1 w.params).In h₀) (N : News h₀ L s.heap news) (S : Slot w A σ news f) (h : Q (.ref A.er) { s with toks := s.toks + 1 }) :
    wpAny (model prog w) A' (getAttr (.ref A.x) (Str.ofString "errors") expr) Q E s := let ⟨_, N'⟩ := S.get N; get_errors F X N' h
theorem sget_prevNumLines {expr : Bool} {Q : Value → Shared → Prop} (F : Fr h₀ L s.heap m) (X : (Mine.hd.heap_1 w.params).In h₀) (N : News h₀ L s.heap news) (S : Slot w A σ news f) (h : Q (.int σ.pl σ.t3) { s with toks := s.toks + 1 }) :
    wpAny (model prog w) A' (getAttr (.ref A.x) (Str.ofString "prevNumLines") expr) Q E s := let ⟨_, N'⟩ := S.get N; get_prevNumLines F X N' h
theorem sget_prevNumCols {expr : Bool} {Q : Value → Shared → Prop} (F : Fr h₀ L s.heap m) (X : (Mine.hd.heap_1 w.params).In h₀) (N : News h₀ L s.heap news) (S : Slot w A σ news f) (h : Q (.int σ.pc σ.t4) { s with toks := s.toks + 1 }) :
    wpAny (model prog w) A' (getAttr (.ref A.x) (Str.ofString "prevNumCols") expr) Q E s := let ⟨_, N'⟩ := S.get N; get_prevNumCols F X N' h
theorem sget_dataStream {expr : Bool} {Q : Value → Shared → Prop} (F : Fr h₀ L s.heap m) (X : (Mine.hd.heap_1 w.params).In h₀) (N : News h₀ L s.heap news) (S : Slot w A σ news f) (h : Q (.ref A.tx) { s with toks := s.toks + 1 }) :
    wpAny (model prog w) A' (getAttr (.ref A.x) (Str.ofString "dataStream") expr) Q E s := let ⟨_, N'⟩ := S.get N; get_dataStream F X N' h
theorem sget_reportCharacterErrors {expr : Bool} {Q : Value → Shared → Prop} (F : Fr h₀ L s.heap m) (X : (Mine.hd.heap_1 w.params).In h₀) (N : News h₀ L s.heap news) (S : Slot w A σ news f) (h : Q (.ref A.rm) { s with toks := s.toks + 1 }) :
    wpAny (model prog w) A' (getAttr (.ref A.x) (Str.ofString "reportCharacterErrors") expr) Q E s := let ⟨_, N'⟩ := S.get N; get_reportCharacterErrors F X N' h
theorem sget_buffered {expr : Bool} {Q : Value → Shared → Prop} (F : Fr h₀ L s.heap m) (X : (Mine.hd.heap_1 w.params).In h₀) (N : News h₀ L s.heap news) (S : Slot w A σ news f) (hv : handedIn σ.buf = true) (h : Q σ.buf { s with toks := s.toks + 1 }) :
    wpAny (model prog w) A' (getAttr (.ref A.x) (Str.ofString "_bufferedCharacter") expr) Q E s := let ⟨_, N'⟩ := S.get N; get_buffered F X N' hv h
theorem sset_chunk {v : Str} {tv : Tok} {Q : Unit → Shared → Prop} (F : Fr h₀ L s.heap m) (X : (Mine.hd.heap_1 w.params).In h₀) (hs : Sep A) (N : News h₀ L s.heap news) (S : Slot w A σ news f)
    (h : ∀ h', Fr h₀ L h' m → News h₀ L h' (f ⟨v, σ.size, σ.off, σ.pl, σ.pc, σ.buf, σ.place, tv, σ.t1, σ.t2, σ.t3, σ.t4, σ.t5⟩) → Q () { s with heap := h', toks := s.toks + 2 }) :
    wpAny (model prog w) A' (setAttr (.ref A.x) (Str.ofString "chunk") (.str v tv)) Q E s := by
  obtain ⟨fr, rest, rfl, e, off⟩ := S.split
  exact set_chunk F X hs off (news_in fr N) fun h' F' N' => h h' F' (by rw [e]; exact news_out fr N')
theorem sset_chunkSize {v : Int} {tv : Tok} {Q : Unit → Shared → Prop} (F : Fr h₀ L s.heap m) (X : (Mine.hd.heap_1 w.params).In h₀) (hs : Sep A) (N : News h₀ L s.heap news) (S : Slot w A σ news f)
    (h : ∀ h', Fr h₀ L h' m → News h₀ L h' (f ⟨σ.chunk, v, σ.off, σ.pl, σ.pc, σ.buf, σ.place, σ.t0, tv, σ.t2, σ.t3, σ.t4, σ.t5⟩) → Q () { s with heap := h', toks := s.toks + 2 }) :
    wpAny (model prog w) A' (setAttr (.ref A.x) (Str.ofString "chunkSize") (.int v tv)) Q E s := by
  obtain ⟨fr, rest, rfl, e, off⟩ := S.split
  exact set_chunkSize F X hs off (news_in fr N) fun h' F' N' => h h' F' (by rw [e]; exact news_out fr N')
theorem sset_chunkOffset {v : Int} {tv : Tok} {Q : Unit → Shared → Prop} (F : Fr h₀ L s.heap m) (X : (Mine.hd.heap_1 w.params).In h₀) (hs : Sep A) (N : News h₀ L s.heap news) (S : Slot w A σ news f)
    (h : ∀ h', Fr h₀ L h' m → News h₀ L h' (f ⟨σ.chunk, σ.size, v, σ.pl, σ.pc, σ.buf, σ.place, σ.t0, σ.t1, tv, σ.t3, σ.t4, σ.t5⟩) → Q () { s with heap := h', toks := s.toks + 2 }) :
    wpAny (model prog w) A' (setAttr (.ref A.x) (Str.ofString "chunkOffset") (.int v tv)) Q E s := by
  obtain ⟨fr, rest, rfl, e, off⟩ := S.split
  exact set_chunkOffset F X hs off (news_in fr N) fun h' F' N' => h h' F' (by rw [e]; exact news_out fr N')
theorem sset_prevNumLines {v : Int} {tv : Tok} {Q : Unit → Shared → Prop} (F : Fr h₀ L s.heap m) (X : (Mine.hd.heap_1 w.params).In h₀) (hs : Sep A) (N : News h₀ L s.heap news) (S : Slot w A σ news f)
    (h : ∀ h', Fr h₀ L h' m → News h₀ L h' (f ⟨σ.chunk, σ.size, σ.off, v, σ.pc, σ.buf, σ.place, σ.t0, σ.t1, σ.t2, tv, σ.t4, σ.t5⟩) → Q () { s with heap := h', toks := s.toks + 2 }) :
    wpAny (model prog w) A' (setAttr (.ref A.x) (Str.ofString "prevNumLines") (.int v tv)) Q E s := by
  obtain ⟨fr, rest, rfl, e, off⟩ := S.split
  exact set_prevNumLines F X hs off (news_in fr N) fun h' F' N' => h h' F' (by rw [e]; exact news_out fr N')
theorem sset_prevNumCols {v : Int} {tv : Tok} {Q : Unit → Shared → Prop} (F : Fr h₀ L s.heap m) (X : (Mine.hd.heap_1 w.params).In h₀) (hs : Sep A) (N : News h₀ L s.heap news) (S : Slot w A σ news f)
    (h : ∀ h', Fr h₀ L h' m → News h₀ L h' (f ⟨σ.chunk, σ.size, σ.off, σ.pl, v, σ.buf, σ.place, σ.t0, σ.t1, σ.t2, σ.t3, tv, σ.t5⟩) → Q () { s with heap := h', toks := s.toks + 2 }) :
    wpAny (model prog w) A' (setAttr (.ref A.x) (Str.ofString "prevNumCols") (.int v tv)) Q E s := by
  obtain ⟨fr, rest, rfl, e, off⟩ := S.split
  exact set_prevNumCols F X hs off (news_in fr N) fun h' F' N' => h h' F' (by rw [e]; exact news_out fr N')
theorem sset_buffered {v : Value} {Q : Unit → Shared → Prop} (F : Fr h₀ L s.heap m) (X : (Mine.hd.heap_1 w.params).In h₀) (hs : Sep A) (N : News h₀ L s.heap news) (S : Slot w A σ news f)
    (h : ∀ h', Fr h₀ L h' m → News h₀ L h' (f ⟨σ.chunk, σ.size, σ.off, σ.pl, σ.pc, v, σ.place, σ.t0, σ.t1, σ.t2, σ.t3, σ.t4, σ.t5⟩) → Q () { s with heap := h', toks := s.toks + 2 }) :
    wpAny (model prog w) A' (setAttr (.ref A.x) (Str.ofString "_bufferedCharacter") (v)) Q E s := by
  obtain ⟨fr, rest, rfl, e, off⟩ := S.split
  exact set_buffered F X hs off (news_in fr N) fun h' F' N' => h h' F' (by rw [e]; exact news_out fr N')
end

end
section -- G3
open PySem.Spec PySem.Calls
section
variable {prog : Program} {w : World} {A' : Around} {h₀ : Heap} {L : Addr} {m : Str → Option Value} {rest : List (Addr × Obj)} {s : Shared} {A : SA} {σ : SS} {E : Value → Shared → Prop}
theorem get_text {expr : Bool} {Q : Value → Shared → Prop} (F : Fr h₀ L s.heap m) (X : (Mine.hd.heap_1 w.params).In h₀) (N : News h₀ L s.heap (stL w A σ rest)) (h : Q (.str A.txt A.j2) { s with toks := s.toks + 1 }) :
    wpAny (model prog w) A' (getAttr (.ref A.tx) (Str.ofString "text") expr) Q E s := by
  unfold stL dS dT at N
  k_dflt (refine' get_own ?k1 ?k2 ?k3 ?k4 ?k5 ?k6 ?k7 ?k8 ?k9 ?_; (case k1 => k_asm); (case k2 => k_asm); (case k3 => k_inst); (case k4 => k_is); (case k5 => k_is); (case k6 => k_is); (case k7 => k_is); (case k8 => k_get); (case k9 => first | assumption | k_handed); k_whole)
  exact h
theorem get_place {expr : Bool} {Q : Value → Shared → Prop} (F : Fr h₀ L s.heap m) (X : (Mine.hd.heap_1 w.params).In h₀) (N : News h₀ L s.heap (stL w A σ rest)) (h : Q (.int σ.place σ.t5) { s with toks := s.toks + 1 }) :
    wpAny (model prog w) A' (getAttr (.ref A.tx) (Str.ofString "place") expr) Q E s := by
  unfold stL dS dT at N
  k_dflt (refine' get_own ?k1 ?k2 ?k3 ?k4 ?k5 ?k6 ?k7 ?k8 ?k9 ?_; (case k1 => k_asm); (case k2 => k_asm); (case k3 => k_inst); (case k4 => k_is); (case k5 => k_is); (case k6 => k_is); (case k7 => k_is); (case k8 => k_get); (case k9 => first | assumption | k_handed); k_whole)
  exact h
theorem set_place {v : Int} {tv : Tok} {Q : Unit → Shared → Prop} (F : Fr h₀ L s.heap m) (X : (Mine.hd.heap_1 w.params).In h₀) (hs : Sep A) (off : OwnOff rest [A.dx, A.dtx]) (N : News h₀ L s.heap (stL w A σ rest))
    (h : ∀ h', Fr h₀ L h' m → News h₀ L h' (stL w A ⟨σ.chunk, σ.size, σ.off, σ.pl, σ.pc, σ.buf, v, σ.t0, σ.t1, σ.t2, σ.t3, σ.t4, tv⟩ rest) → Q () { s with heap := h', toks := s.toks + 2 }) :
    wpAny (model prog w) A' (setAttr (.ref A.tx) (Str.ofString "place") (.int v tv)) Q E s := by
  unfold stL dS dT at N h
  obtain ⟨s1, s2, s3, s4, s5, s6, s7, s8, s9⟩ := hs
  k_dflt (refine' set_dict ?k1 ?k2 ?k3 ?k4 ?k5 ?k6 ?k7 ?k8 ?k9 ?k10 ?k11 ?k12 ?k13 ?_; (case k1 => k_asm); (case k2 => k_asm); (case k3 => k_asm); (case k4 => k_inst); (case k5 => exact rfl); (case k6 => k_is); (case k7 => k_is); (case k8 => k_is); (case k9 => k_is); (case k10 => k_get); (case k11 => k_put); (case k12 => k_upd); (case k13 => exact Nat.le_of_ble_eq_true rfl); k_whole)
  exact h
theorem meth_readChunk {pl : Sem Bool} {Q : Value × List Value → Shared → Prop} (F : Fr h₀ L s.heap m) (X : (Mine.hd.heap_1 w.params).In h₀) (N : News h₀ L s.heap (stL w A σ rest)) (h : Q (.ref 141, [.ref A.x]) s) :
    wpAny (model prog w) A' (getMethod (.ref A.x) (Str.ofString "readChunk") pl) Q E s := by
  unfold stL dS dT at N
  k_dflt (refine' method_inst ?k1 ?k2 ?k3 ?k4 ?k5 ?k6 ?k7 ?_; (case k1 => k_asm); (case k2 => k_asm); (case k3 => k_inst); (case k4 => k_is); (case k5 => k_is); (case k6 => k_is); (case k7 => k_get); k_whole)
  exact h
theorem meth_position {pl : Sem Bool} {Q : Value × List Value → Shared → Prop} (F : Fr h₀ L s.heap m) (X : (Mine.hd.heap_1 w.params).In h₀) (N : News h₀ L s.heap (stL w A σ rest)) (h : Q (.ref 119, [.ref A.x]) s) :
    wpAny (model prog w) A' (getMethod (.ref A.x) (Str.ofString "_position") pl) Q E s := by
  unfold stL dS dT at N
  k_dflt (refine' method_inst ?k1 ?k2 ?k3 ?k4 ?k5 ?k6 ?k7 ?_; (case k1 => k_asm); (case k2 => k_asm); (case k3 => k_inst); (case k4 => k_is); (case k5 => k_is); (case k6 => k_is); (case k7 => k_get); k_whole)
  exact h
theorem meth_char {pl : Sem Bool} {Q : Value × List Value → Shared → Prop} (F : Fr h₀ L s.heap m) (X : (Mine.hd.heap_1 w.params).In h₀) (N : News h₀ L s.heap (stL w A σ rest)) (h : Q (.ref 133, [.ref A.x]) s) :
    wpAny (model prog w) A' (getMethod (.ref A.x) (Str.ofString "char") pl) Q E s := by
  unfold stL dS dT at N
  k_dflt (refine' method_inst ?k1 ?k2 ?k3 ?k4 ?k5 ?k6 ?k7 ?_; (case k1 => k_asm); (case k2 => k_asm); (case k3 => k_inst); (case k4 => k_is); (case k5 => k_is); (case k6 => k_is); (case k7 => k_get); k_whole)
  exact h
theorem meth_unget {pl : Sem Bool} {Q : Value × List Value → Shared → Prop} (F : Fr h₀ L s.heap m) (X : (Mine.hd.heap_1 w.params).In h₀) (N : News h₀ L s.heap (stL w A σ rest)) (h : Q (.ref 163, [.ref A.x]) s) :
    wpAny (model prog w) A' (getMethod (.ref A.x) (Str.ofString "unget") pl) Q E s := by
  unfold stL dS dT at N
  k_dflt (refine' method_inst ?k1 ?k2 ?k3 ?k4 ?k5 ?k6 ?k7 ?_; (case k1 => k_asm); (case k2 => k_asm); (case k3 => k_inst); (case k4 => k_is); (case k5 => k_is); (case k6 => k_is); (case k7 => k_get); k_whole)
  exact h
theorem meth_charsUntil {pl : Sem Bool} {Q : Value × List Value → Shared → Prop} (F : Fr h₀ L s.heap m) (X : (Mine.hd.heap_1 w.params).In h₀) (N : News h₀ L s.heap (stL w A σ rest)) (h : Q (.ref 156, [.ref A.x]) s) :
    wpAny (model prog w) A' (getMethod (.ref A.x) (Str.ofString "charsUntil") pl) Q E s := by
  unfold stL dS dT at N
  k_dflt (refine' method_inst ?k1 ?k2 ?k3 ?k4 ?k5 ?k6 ?k7 ?_; (case k1 => k_asm); (case k2 => k_asm); (case k3 => k_inst); (case k4 => k_is); (case k5 => k_is); (case k6 => k_is); (case k7 => k_get); k_whole)
  exact h
theorem meth_read {pl : Sem Bool} {Q : Value × List Value → Shared → Prop} (F : Fr h₀ L s.heap m) (X : (Mine.hd.heap_1 w.params).In h₀) (N : News h₀ L s.heap (stL w A σ rest)) (h : Q (.ref 70, [.ref A.tx]) s) :
    wpAny (model prog w) A' (getMethod (.ref A.tx) (Str.ofString "read") pl) Q E s := by
  unfold stL dS dT at N
  k_dflt (refine' method_inst ?k1 ?k2 ?k3 ?k4 ?k5 ?k6 ?k7 ?_; (case k1 => k_asm); (case k2 => k_asm); (case k3 => k_inst); (case k4 => k_is); (case k5 => k_is); (case k6 => k_is); (case k7 => k_get); k_whole)
  exact h
theorem meth_report {pl : Sem Bool} {Q : Value × List Value → Shared → Prop} (F : Fr h₀ L s.heap m) (X : (Mine.hd.heap_1 w.params).In h₀) (N : News h₀ L s.heap (stL w A σ rest)) (h : Q (.ref A.rm, []) { s with toks := s.toks + 1 }) :
    wpAny (model prog w) A' (getMethod (.ref A.x) (Str.ofString "reportCharacterErrors") pl) Q E s := by
  have N0 := N
  unfold stL dS dT at N
  k_dflt (refine' kmu_own ?k1 ?k2 ?k3 ?k4 ?k5 ?_; (case k1 => k_asm); (case k2 => k_asm); (case k3 => k_inst); (case k4 => k_is); (case k5 => k_is); k_whole)
  exact get_reportCharacterErrors F X N0 h
theorem rm_in : (A.rm, methodObj (.ref 148) (.ref A.x)) ∈ stL w A σ rest := .tail _ (.tail _ (.tail _ (.tail _ (.head _))))
end
section
variable {prog : Program} {w : World} {A' : Around} {h₀ : Heap} {L : Addr} {m : Str → Option Value} {news : List (Addr × Obj)} {f : SS → List (Addr × Obj)} {s : Shared} {A : SA} {σ : SS} {E : Value → Shared → Prop}
theorem sget_text {expr : Bool} {Q : Value → Shared → Prop} (F : Fr h₀ L s.heap m) (X : (Mine.hd.heap_1 w.params).In h₀) (N : News h₀ L s.heap news) (S : Slot w A σ news f) (h : Q (.str A.txt A.j2) { s with toks := s.toks + 1 }) :
    wpAny (model prog w) A' (getAttr (.ref A.tx) (Str.ofString "text") expr) Q E s := let ⟨_, N'⟩ := S.get N; get_text F X N' h
theorem sget_place {expr : Bool} {Q : Value → Shared → Prop} (F : Fr h₀ L s.heap m) (X : (Mine.hd.heap_1 w.params).In h₀) (N : News h₀ L s.heap news) (S : Slot w A σ news f) (h : Q (.int σ.place σ.t5) { s with toks := s.toks + 1 }) :
    wpAny (model prog w) A' (getAttr (.ref A.tx) (Str.ofString "place") expr) Q E s := let ⟨_, N'⟩ := S.get N; get_place F X N' h
theorem sset_place {v : Int} {tv : Tok} {Q : Unit → Shared → Prop} (F : Fr h₀ L s.heap m) (X : (Mine.hd.heap_1 w.params).In h₀) (hs : Sep A) (N : News h₀ L s.heap news) (S : Slot w A σ news f)
    (h : ∀ h', Fr h₀ L h' m → News h₀ L h' (f ⟨σ.chunk, σ.size, σ.off, σ.pl, σ.pc, σ.buf, v, σ.t0, σ.t1, σ.t2, σ.t3, σ.t4, tv⟩) → Q () { s with heap := h', toks := s.toks + 2 }) :
    wpAny (model prog w) A' (setAttr (.ref A.tx) (Str.ofString "place") (.int v tv)) Q E s := by
  obtain ⟨fr, rest, rfl, e, off⟩ := S.split
  exact set_place F X hs off (news_in fr N) fun h' F' N' => h h' F' (by rw [e]; exact news_out fr N')
theorem smeth_readChunk {pl : Sem Bool} {Q : Value × List Value → Shared → Prop} (F : Fr h₀ L s.heap m) (X : (Mine.hd.heap_1 w.params).In h₀) (N : News h₀ L s.heap news) (S : Slot w A σ news f) (h : Q (.ref 141, [.ref A.x]) s) :
    wpAny (model prog w) A' (getMethod (.ref A.x) (Str.ofString "readChunk") pl) Q E s := let ⟨_, N'⟩ := S.get N; meth_readChunk F X N' h
theorem smeth_position {pl : Sem Bool} {Q : Value × List Value → Shared → Prop} (F : Fr h₀ L s.heap m) (X : (Mine.hd.heap_1 w.params).In h₀) (N : News h₀ L s.heap news) (S : Slot w A σ news f) (h : Q (.ref 119, [.ref A.x]) s) :
    wpAny (model prog w) A' (getMethod (.ref A.x) (Str.ofString "_position") pl) Q E s := let ⟨_, N'⟩ := S.get N; meth_position F X N' h
theorem smeth_char {pl : Sem Bool} {Q : Value × List Value → Shared → Prop} (F : Fr h₀ L s.heap m) (X : (Mine.hd.heap_1 w.params).In h₀) (N : News h₀ L s.heap news) (S : Slot w A σ news f) (h : Q (.ref 133, [.ref A.x]) s) :
    wpAny (model prog w) A' (getMethod (.ref A.x) (Str.ofString "char") pl) Q E s := let ⟨_, N'⟩ := S.get N; meth_char F X N' h
theorem smeth_unget {pl : Sem Bool} {Q : Value × List Value → Shared → Prop} (F : Fr h₀ L s.heap m) (X : (Mine.hd.heap_1 w.params).In h₀) (N : News h₀ L s.heap news) (S : Slot w A σ news f) (h : Q (.ref 163, [.ref A.x]) s) :
    wpAny (model prog w) A' (getMethod (.ref A.x) (Str.ofString "unget") pl) Q E s := let ⟨_, N'⟩ := S.get N; meth_unget F X N' h
theorem smeth_charsUntil {pl : Sem Bool} {Q : Value × List Value → Shared → Prop} (F : Fr h₀ L s.heap m) (X : (Mine.hd.heap_1 w.params).In h₀) (N : News h₀ L s.heap news) (S : Slot w A σ news f) (h : Q (.ref 156, [.ref A.x]) s) :
    wpAny (model prog w) A' (getMethod (.ref A.x) (Str.ofString "charsUntil") pl) Q E s := let ⟨_, N'⟩ := S.get N; meth_charsUntil F X N' h
theorem smeth_read {pl : Sem Bool} {Q : Value × List Value → Shared → Prop} (F : Fr h₀ L s.heap m) (X : (Mine.hd.heap_1 w.params).In h₀) (N : News h₀ L s.heap news) (S : Slot w A σ news f) (h : Q (.ref 70, [.ref A.tx]) s) :
    wpAny (model prog w) A' (getMethod (.ref A.tx) (Str.ofString "read") pl) Q E s := let ⟨_, N'⟩ := S.get N; meth_read F X N' h
theorem smeth_report {pl : Sem Bool} {Q : Value × List Value → Shared → Prop} (F : Fr h₀ L s.heap m) (X : (Mine.hd.heap_1 w.params).In h₀) (N : News h₀ L s.heap news) (S : Slot w A σ news f) (h : Q (.ref A.rm, []) { s with toks := s.toks + 1 }) :
    wpAny (model prog w) A' (getMethod (.ref A.x) (Str.ofString "reportCharacterErrors") pl) Q E s := let ⟨_, N'⟩ := S.get N; meth_report F X N' h
theorem struth_rm {Q : Bool → Shared → Prop} (N : News h₀ L s.heap news) (S : Slot w A σ news f) (h : Q true s) : wpAny (model prog w) A' (truthy (.ref A.rm)) Q E s := let ⟨_, N'⟩ := S.get N; truthy_meth N' rm_in h
theorem scall_rm {Q : Value → Shared → Prop} {pos : List Value} {kw : List (Str × Value)} (N : News h₀ L s.heap news) (S : Slot w A σ news f)
    (h : codeAny (model prog w) A' (.call (.ref 148) ⟨.ref A.x :: pos, kw⟩) (fun r s' => match r with | .ok (.ret v) => Q v s' | .ok _ => False | .error e => E e s') s) : wpAny (model prog w) A' (call (.ref A.rm) pos kw) Q E s :=
  let ⟨_, N'⟩ := S.get N; call_meth N' rm_in h
end

end
section -- H2
open PySem.Spec PySem.Calls
theorem len13h : (⟨#[13]⟩ : Str).length = 1 := rfl
theorem end_plain' {A : SA} {σ : SS} {place : Int} {part y0 y2 y3 : Str} {n : Nat} {b : List Nat} {pl pc : Int} {t0 t1 t2 t3 t4 t5 : Tok} {bv : Value} (hbv : bv = .none) (h0 : 0 ≤ place) (h0' : place ≤ A.txt.length) (tl : A.txt.length ≤ 1000) (hb : b.length ≤ 1)
    (hP : toL part = ((toL A.txt).drop place.toNat).take n) (hn : 2 ≤ n) (hD : toL y0 = b ++ toL part) (hlen : 0 < (y0.length : Int))
    (hlast : (y0.length : Int) ≤ 1 ∨ ∃ c, (toL y0).getLast? = some c ∧ ¬ (c : Int) = 13)
    (h2 : toL y2 = rn (toL y0)) (h3 : toL y3 = cr (toL y2))
    (hσ : bufL σ.buf = b) (hσ' : σ.place = place) :
    Inv A ⟨y3, y3.length, 0, pl, pc, bv, place + part.length, t0, t1, t2, t3, t4, t5⟩ (norm (b ++ (toL A.txt).drop place.toNat)) ∧
    1 ≤ y3.length ∧ unread A ⟨y3, y3.length, 0, pl, pc, bv, place + part.length, t0, t1, t2, t3, t4, t5⟩ < unread A σ := by
  subst hbv
  exact end_plain h0 h0' tl hb hP hn hD hlen hlast h2 h3 hσ hσ'
theorem end_none' {A : SA} {σ : SS} {place : Int} {part z : Str} {n : Nat} {b : List Nat} {pl pc : Int} {t0 t1 t2 t3 t4 t5 : Tok} {bv : Value} (hbv : bv = .none) (h0 : 0 ≤ place) (h0' : place ≤ A.txt.length) (hb : b = [])
    (hP : toL part = ((toL A.txt).drop place.toNat).take n) (hn : 2 ≤ n) (hlen : (part.length : Int) = 0) (hz : z = Str.ofString "")
    (hσ : bufL σ.buf = b) (hσ' : σ.place = place) :
    Inv A ⟨z, 0, 0, pl, pc, bv, place + part.length, t0, t1, t2, t3, t4, t5⟩ (norm (b ++ (toL A.txt).drop place.toNat)) ∧
    z.length = 0 ∧ unread A ⟨z, 0, 0, pl, pc, bv, place + part.length, t0, t1, t2, t3, t4, t5⟩ = 0 := by
  subst hbv
  exact end_none h0 h0' hb hP hn hlen hz hσ hσ'
theorem buf_nil {v : Value} (h : v = .none) : bufL v = [] := by subst h; rfl
theorem buf_app {v : Value} {x : List Nat} (h : v = .none) : x = bufL v ++ x := by subst h; rfl
theorem buf_le {v : Value} (h : v = .none) : (bufL v).length ≤ 1 := by subst h; exact Nat.zero_le _
theorem buf_cr {v : Value} {t : Tok} {x y : List Nat} (h : v = .str ⟨#[13]⟩ t) (e : x = toL ⟨#[13]⟩ ++ y) : x = bufL v ++ y := by subst h; exact e
theorem buf_le1 {v : Value} {t : Tok} (h : v = .str ⟨#[13]⟩ t) : (bufL v).length ≤ 1 := by subst h; exact Nat.le_refl _
structure RFlag : Prop where
  out : True
/-- what the rest of readChunk makes of the data -/
def EndOk (A : SA) (σ σ1 : SS) (y : Str) (R : List Nat) : Prop := ∀ (y2 y3 : Str) (t0 t1 t2 t3 t4 t5 : Tok), toL y2 = rn (toL y) → toL y3 = cr (toL y2) →
  Inv A ⟨y3, y3.length, σ1.off, σ1.pl, σ1.pc, σ1.buf, σ1.place, t0, t1, t2, t3, t4, t5⟩ R ∧ 1 ≤ y3.length ∧ unread A ⟨y3, y3.length, σ1.off, σ1.pl, σ1.pc, σ1.buf, σ1.place, t0, t1, t2, t3, t4, t5⟩ < unread A σ
def MeetR (w : World) (A : SA) (σ : SS) (rest : List (Addr × Obj)) (h₀ : Heap) (L : Addr) (m₁ : Str → Option Value) (R : List Nat) (s s' : Shared) : Prop :=
  ∃ σ1 y ty h' tk' m', s' = { s with heap := h', toks := tk' } ∧ TP tk' ∧ Fr h₀ L h' m' ∧ (∀ z, [Str.ofString "data", Str.ofString "lastv"].contains z = false → m' z = m₁ z) ∧ m' (Str.ofString "data") = some (.str y ty) ∧
    News h₀ L h' (stL w A σ1 rest) ∧ y.length ≤ 20000 ∧ OkS y ∧ σ1.off = 0 ∧ EndOk A σ σ1 y R
theorem read_cut (w : World) (A : SA) (σ : SS) (rest : List (Addr × Obj)) (R : List Nat) {M : Model} {A' : Around} {E : Value → Shared → Prop} {s : Shared} {env : Env} {h₀ : Heap} {L : Addr} {m₁ : Str → Option Value} {Q : Flow → Shared → Prop} {S : Stmt} (_ : Fr h₀ L s.heap m₁)
    (walk : wpAny M A' (exec S env) (fun f s' => match f with | .next => MeetR w A σ rest h₀ L m₁ R s s' | f => Q f s') E s) (go : ∀ s', MeetR w A σ rest h₀ L m₁ R s s' → Q .next s') : wpAny M A' (exec S env) Q E s :=
  wpAny_mono walk (fun f s' x => by cases f with | next => exact go s' x | _ => exact x) fun _ _ x => x
theorem fr_flag0 {h₀ h : Heap} {L : Addr} {m₀ m₁ : Str → Option Value} {a b : Str} {v : Value} (F : Fr h₀ L h m₁) (e : ∀ z, [a, b].contains z = false → m₁ z = m₀ z) (ha : m₁ a = some v) : Fr h₀ L h (fun z => if z = a then some v else if [b].contains z then m₁ z else m₀ z) := by
  have em : (fun z => if z = a then some v else if [b].contains z then m₁ z else m₀ z) = m₁ := by
    funext z
    by_cases h1 : z = a
    · subst h1; simp [ha]
    · rw [if_neg h1]
      cases h : [b].contains z with
      | true => simp
      | false =>
        have : [a, b].contains z = false := by
          simp only [List.contains_cons, List.contains_nil, Bool.or_false, Bool.or_eq_false_iff, beq_eq_false_iff_ne] at h ⊢
          exact ⟨h1, h⟩
        simp [e z this]
  rw [em]; exact F
structure BFlag : Prop where
  out : True
/-- behind the look at the buffered sign -/
def MeetB (w : World) (A : SA) (σ : SS) (rest : List (Addr × Obj)) (h₀ : Heap) (L : Addr) (m₁ : Str → Option Value) (s s' : Shared) : Prop :=
  ∃ (σ1 : SS) (y : Str) (ty : Tok) (part : Str) (n : Nat) (h' : Heap) (tk' : Nat) (m' : Str → Option Value), s' = { s with heap := h', toks := tk' } ∧ TP tk' ∧ Fr h₀ L h' m' ∧ (∀ z, [Str.ofString "data"].contains z = false → m' z = m₁ z) ∧ m' (Str.ofString "data") = some (.str y ty) ∧
    News h₀ L h' (stL w A σ1 rest) ∧ toL part = ((toL A.txt).drop σ.place.toNat).take n ∧ 2 ≤ n ∧ toL y = bufL σ.buf ++ toL part ∧ 0 < (y.length : Int) ∧ y.length ≤ 20000 ∧ OkS y ∧ σ1.off = 0 ∧ σ1.buf = .none ∧ σ1.place = σ.place + part.length
theorem buf_cut (w : World) (A : SA) (σ : SS) (rest : List (Addr × Obj)) {M : Model} {A' : Around} {E : Value → Shared → Prop} {s : Shared} {env : Env} {h₀ : Heap} {L : Addr} {m₁ : Str → Option Value} {Q : Flow → Shared → Prop} {S : Stmt} (_ : Fr h₀ L s.heap m₁)
    (walk : wpAny M A' (exec S env) (fun f s' => match f with | .next => MeetB w A σ rest h₀ L m₁ s s' | f => Q f s') E s) (go : ∀ s', MeetB w A σ rest h₀ L m₁ s s' → Q .next s') : wpAny M A' (exec S env) Q E s :=
  wpAny_mono walk (fun f s' x => by cases f with | next => exact go s' x | _ => exact x) fun _ _ x => x
theorem buf_leq {v : Value} (h : v = .none ∨ ∃ t, v = .str ⟨#[13]⟩ t) : (bufL v).length ≤ 1 := by
  rcases h with h | ⟨t, h⟩
  · exact buf_le h
  · exact buf_le1 h
theorem fr_one0 {h₀ h : Heap} {L : Addr} {m₀ m₁ : Str → Option Value} {a : Str} {v : Value} (F : Fr h₀ L h m₁) (e : ∀ z, [a].contains z = false → m₁ z = m₀ z) (ha : m₁ a = some v) : Fr h₀ L h (fun z => if z = a then some v else m₀ z) := by
  have em : (fun z => if z = a then some v else m₀ z) = m₁ := by
    funext z
    by_cases h1 : z = a
    · subst h1; simp [ha]
    · rw [if_neg h1, e z (by simpa using h1)]
  rw [em]; exact F
theorem not_two0 {z a b : Str} (h : [a, b].contains z = false) : z ≠ a ∧ z ≠ b := by
  simp only [List.contains_cons, List.contains_nil, Bool.or_false, Bool.or_eq_false_iff, beq_eq_false_iff_ne] at h
  exact h
section
variable {prog : Program} {w : World} {p : Program} {loose : List Str} {mean : ExcName → Option Value} {mg mb : Str → Option Value}
   {dp un : Nat} {gd : Option (List Code)} {cn : Str} {cs : Scope} {a : Addr} {ccd : Value} {cl : List (Str × Addr)} {outer : List Env} {A₀ : Around} {base h₀ : Heap} {L : Addr} {m : Str → Option Value} {rest : List (Addr × Obj)} {s : Shared}
    {Q E : Value → Shared → Prop}
theorem sget_bufV {w : World} {A' : Around} {news : List (Addr × Obj)} {f : SS → List (Addr × Obj)} {A : SA} {σ : SS} {expr : Bool} {v : Value} (F : Fr h₀ L s.heap m) (X : (Mine.hd.heap_1 w.params).In h₀) (N : News h₀ L s.heap news) (S : Slot w A σ news f) (hb : σ.buf = v) (hv : handedIn v = true) (h : Q v { s with toks := s.toks + 1 }) :
    wpAny (model prog w) A' (getAttr (.ref A.x) (Str.ofString "_bufferedCharacter") expr) Q E s := by
  subst hb
  exact sget_buffered F X N S hv h
theorem posS_t {A : SA} {σ : SS} {o : Int} {to : Tok}
    (B : Below A₀ base outer h₀) (F : Fr h₀ L s.heap m) (X : (Mine.hd.heap_1 w.params).In h₀)
    (N : News h₀ L s.heap (stL w A σ rest))
    (T : Top p loose mean mg mb h₀) (hk : cs.kind = .function) (hd : dp + 10 < recursionLimit) (hu : un + 100 < cLine)
    (ret : ∀ tp i j ti tj h' tk', Fr h₀ L h' m → News h₀ L h' ((tp, tup2 i j ti tj) :: stL w A σ rest) → @Ne Nat tp A.dx → @Ne Nat tp A.dtx → Q (.ref tp) { s with heap := h', toks := tk' }) :
    wpAny (model prog w) (ktrTop dp un gd cn cs L a ccd cl outer) (call (.ref 119) [.ref A.x, .int o to]) Q E s :=
  pos_t B F X N T hk hd hu fun tp i j ti tj h' tk' F' N' l1 => ret tp i j ti tj h' tk' F' N' (Nat.ne_of_gt l1.2.1) (Nat.ne_of_gt l1.2.2.2.1)
theorem readC_t {A : SA} {σ : SS} {r : List Nat} (hs : Sep A) (tk : TxtOk A) (I : Inv A σ r)
    (B : Below A₀ base outer h₀) (F : Fr h₀ L s.heap m) (X : (Mine.hd.heap_1 w.params).In h₀)
    (N : News h₀ L s.heap (stL w A σ rest)) (off : OwnOff rest [A.dx, A.dtx])
    (T : Top p loose mean mg mb h₀) (hk : cs.kind = .function) (hd : dp + 20 < recursionLimit) (hu : un + 200 < cLine)
    (ret : ∀ σ' b h' tk', TP tk' → Inv A σ' (norm (bufL σ.buf ++ (toL A.txt).drop σ.place.toNat)) → σ'.off = 0 →
      (b = false → σ'.chunk.length = 0 ∧ unread A σ' = 0) → (b = true → 1 ≤ σ'.chunk.length ∧ unread A σ' < unread A σ) →
      Fr h₀ L h' m → News h₀ L h' (stL w A σ' rest) → Q (.bool b) { s with heap := h', toks := tk' }) :
    wpAny (model prog w) (ktrTop dp un gd cn cs L a ccd cl outer) (call (.ref 141) [.ref A.x]) Q E s := by
  k_with_none
  (k_with "nd" => first | k_asm | exact nd1 (by k_asm) | exact nd2 (by k_asm) | exact nd3 (by k_asm) | exact nd4 (by k_asm))
  (k_with "my_enter" => k_dflt (refine' code_def ?k1₉ ?k2₉ ?k3₉ ?k4₉ ?k5₉ ?kA₉ ?kF₉ ?kK₉ ?k6₉ ?k7₉ ?k8₉ ?k9₉ ?kB₉ ?_ ?c2₉ ?c3₉ ?c4₉ ?c5₉; (case kA₉ => exact rfl); (case kF₉ => exact rfl); (case kK₉ => first | exact rfl | assumption); (case k1₉ => k_asm); (case k2₉ => k_asm); (case k3₉ => k_asm); (case k4₉ => k_asm); (case k5₉ => k_asm); (case k6₉ => k_is); (case k7₉ => k_is); (case k8₉ => ktr_room); (case k9₉ => first | exact BindsTo.of_eq rfl | exact binds_K (by k_in) rfl (by k_is) rfl rfl rfl); (case c5₉ => decide); (case kB₉ => exact locs rfl); (case c2₉ => exact rfl); (case c3₉ => exact rfl); (case c4₉ => exact rfl); k_whole; intro g'₉ L'₉ h'₉ FG'₉ F'₉ N'₉ B'₉ X'₉ T'₉; (try dsimp only); (try k_fold)))
  (k_with "my_args" => ((case B₉ => k_asm); (case F₉ => k_asm); (case X₉ => k_asm); (case T₉ => k_asm); (case hk₉ => first | exact rfl | assumption); (case hd₉ => ktr_room); (case hu₉ => ktr_units)))
  (k_with "tp" => ((try dsimp only); with_reducible (first | assumption | exact TP.succ | exact TP.add2 | exact TP.add3 | exact TP.add4 | exact ⟨by omega⟩)))
  (k_with "forall" => ((with_reducible show (TP _ → _)); intro hT₉; dsimp only at hT₉))
  (k_with "execs nil" => (k_here; (with_reducible refine execsNG (by walk_at "tp") ?_); intro tk₉ htk₉; (try dsimp only)))
  (k_with "execs cons" => (k_here; (with_reducible refine execsQ (by walk_at "tp") ?_); intro Q9₉ hQ9₉ tk9₉ htk9₉; (try dsimp only)))
  (k_with "slot" => first | exact Slot.here (by with_reducible assumption) | (refine' Slot.skip ?za₉ ?zb₉ ?zc₉; (case za₉ => first | assumption | k_ne); (case zb₉ => first | assumption | k_ne); (case zc₉ => walk_at "slot")))
  (k_with "getAttr ref" => (k_here; with_reducible (first | (refine' sget_chunk ?F₉ ?X₉ ?N₉ ?S₉ ?_) | (refine' sget_chunkSize ?F₉ ?X₉ ?N₉ ?S₉ ?_) | (refine' sget_chunkOffset ?F₉ ?X₉ ?N₉ ?S₉ ?_) | (refine' sget_errors ?F₉ ?X₉ ?N₉ ?S₉ ?_) | (refine' sget_prevNumLines ?F₉ ?X₉ ?N₉ ?S₉ ?_) | (refine' sget_prevNumCols ?F₉ ?X₉ ?N₉ ?S₉ ?_) | (refine' sget_dataStream ?F₉ ?X₉ ?N₉ ?S₉ ?_) | (refine' sget_reportCharacterErrors ?F₉ ?X₉ ?N₉ ?S₉ ?_) | (refine' sget_text ?F₉ ?X₉ ?N₉ ?S₉ ?_) | (refine' sget_place ?F₉ ?X₉ ?N₉ ?S₉ ?_)); (case F₉ => k_asm); (case X₉ => k_asm); (case N₉ => k_asm); (case S₉ => walk_at "slot"); k_whole; (try dsimp only)))
  (k_with "setAttr ref" => (k_here; with_reducible (first | (refine' sset_chunk ?F₉ ?X₉ (by assumption) ?N₉ ?S₉ ?_) | (refine' sset_chunkSize ?F₉ ?X₉ (by assumption) ?N₉ ?S₉ ?_) | (refine' sset_chunkOffset ?F₉ ?X₉ (by assumption) ?N₉ ?S₉ ?_) | (refine' sset_prevNumLines ?F₉ ?X₉ (by assumption) ?N₉ ?S₉ ?_) | (refine' sset_prevNumCols ?F₉ ?X₉ (by assumption) ?N₉ ?S₉ ?_) | (refine' sset_buffered ?F₉ ?X₉ (by assumption) ?N₉ ?S₉ ?_) | (refine' sset_place ?F₉ ?X₉ (by assumption) ?N₉ ?S₉ ?_)); (case F₉ => k_asm); (case X₉ => k_asm); (case N₉ => k_asm); (case S₉ => walk_at "slot"); k_whole; intro h'₉ F'₉ N'₉; (try dsimp only at N'₉); (try k_sweep)))
  (k_with "getMethod ref" => (k_here; with_reducible (first | (refine' smeth_readChunk ?F₉ ?X₉ ?N₉ ?S₉ ?_) | (refine' smeth_position ?F₉ ?X₉ ?N₉ ?S₉ ?_) | (refine' smeth_char ?F₉ ?X₉ ?N₉ ?S₉ ?_) | (refine' smeth_unget ?F₉ ?X₉ ?N₉ ?S₉ ?_) | (refine' smeth_charsUntil ?F₉ ?X₉ ?N₉ ?S₉ ?_) | (refine' smeth_read ?F₉ ?X₉ ?N₉ ?S₉ ?_) | (refine' smeth_report ?F₉ ?X₉ ?N₉ ?S₉ ?_)); (case F₉ => k_asm); (case X₉ => k_asm); (case N₉ => k_asm); (case S₉ => walk_at "slot"); k_whole))
  (k_with "my_ok" => first | with_reducible assumption | with_reducible exact OkS.cr | (with_reducible refine OkS.of1 (by with_reducible assumption) ?_; walk_at "my_ok") | (with_reducible refine OkS.of2 (by with_reducible assumption) ?_; walk_at "my_ok") | (with_reducible refine OkS.of3 (by with_reducible assumption) ?_ ?_ <;> walk_at "my_ok") | (with_reducible refine OkS.app ?_ ?_ <;> walk_at "my_ok"))
  (k_with "call builtin:str.replace" => (with_reducible (first | (refine replace1 (by walk_at "tp") (by walk_at "tp") (by first | exact Nat.ne_of_lt (Nat.lt_succ_self _) | omega) (by omega) (by walk_at "tp") ?_; intro y'₉ t'₉ k'₉ hk'₉ e'₉ l'₉; (try dsimp only)) | (refine replace2 (by walk_at "tp") (by walk_at "tp") (by first | exact Nat.ne_of_lt (Nat.lt_succ_self _) | omega) (by omega) (by walk_at "tp") ?_; intro y'₉ t'₉ k'₉ hk'₉ e'₉ l'₉; (try dsimp only)))))
  (k_with "subscriptTail Name UnaryOp str int" => (k_here; (refine it_last (by omega) (by omega) ?_); intro c'₉ e'₉; (have hok₉ := OkS.last (by walk_at "my_ok") e'₉); (unfold okc at hok₉); (try dsimp only)))
  (k_with "subscriptTail" => (k_here; ((with_reducible rename Fr _ _ _ _ => F'₉); (with_reducible rename News _ _ _ _ => N'₉); ((with_reducible show wpAny _ _ (subscriptTail _ (Expr.Slice (some _) (some _) none _) (Value.str _ _) _) _ _ _); (refine sl_ss (s := ⟨_, _, _, _, _⟩) (by omega) (by omega) (by omega) F'₉ N'₉ ?_); clear F'₉ N'₉; intro y'₉ h'₉ t'₉ k'₉ e'₉ l'₉ F'₉ N'₉; (try dsimp only)))))
  (k_with "subscriptTail Name Slice str ref" => (k_here; ((with_reducible rename Fr _ _ _ _ => F'₉); (with_reducible rename News _ _ _ _ => N'₉); ((with_reducible show wpAny _ _ (subscriptTail _ (Expr.Slice none (some _) none _) (Value.str _ _) _) _ _ _); (refine sl_last (s := ⟨_, _, _, _, _⟩) (by omega) F'₉ N'₉ ?_); clear F'₉ N'₉; intro y'₉ h'₉ t'₉ k'₉ e'₉ l'₉ F'₉ N'₉; (try dsimp only)))))
  (k_with "binaryOp Add str str" => (k_here; (have e13₉ := len13h); (refine add_abs (by omega) ?_); intro y'₉ t'₉ k'₉ e'₉ l'₉; (try dsimp only)))
  (k_with "getAttr ref" => (k_here; (with_reducible show wpAny _ _ (getAttr (Value.ref _) (Str.ofString "_bufferedCharacter") _) _ _ _); k_dflt (refine' sget_bufV ?F₉ ?X₉ ?N₉ ?S₉ ?b₉ ?v₉ ?_; (case F₉ => k_asm); (case X₉ => k_asm); (case N₉ => k_asm); (case S₉ => walk_at "slot"); (case b₉ => assumption); (case v₉ => rfl))))
  (k_with "truthy ref" => (k_here; with_reducible (refine' struth_rm ?N₉ ?S₉ ?_); (case N₉ => k_asm); (case S₉ => walk_at "slot"); k_whole))
  (k_with "call ref" => (k_here; (with_reducible show wpAny _ _ (call (Value.ref 70) _) _ _ _); k_dflt (refine wpAny_call ?_); walk_at "my_enter"))
  (k_with "call ref" => (k_here; (with_reducible show wpAny _ _ (call (Value.ref 119) _) _ _ _); k_dflt (refine' posS_t ?B₉ ?F₉ ?X₉ ?N₉ ?T₉ ?hk₉ ?hd₉ ?hu₉ ?_; walk_at "my_args"; (case N₉ => k_asm)); intro tp'₉ i'₉ j'₉ ti'₉ tj'₉ h'₉ tk'₉ F'₉ N'₉ n1₉ n2₉; (try dsimp only); (try k_sweep)))
  (k_with "call ref" => (k_here; k_dflt (refine' scall_rm ?k1₉ ?k2₉ ?_; (case k1₉ => k_asm); (case k2₉ => walk_at "slot"); k_whole; refine' errs_t (by walk_at "my_ok") ?B₉ ?F₉ ?X₉ ?N₉ ?T₉ ?hk₉ ?hd₉ ?hu₉ ?_; walk_at "my_args"; (case N₉ => k_asm)); intro h'₉ tk'₉ F'₉ N'₉; (try dsimp only); (try k_sweep)))
  (k_with "exec If" => ((with_reducible show wpAny _ _ (exec (Stmt.If (Expr.Compare (Expr.Call (Expr.Name (Str.ofString "len") _) _ _ _) _ _ _) _ _ _) _) _ _ _); (fail_if_success (have fl'₉ : RFlag := by assumption)); (with_reducible refine Hold.mk ?_)))
  (k_with "exec If" => ((with_reducible show wpAny _ _ (exec (Stmt.If (Expr.Attribute _ (Str.ofString "_bufferedCharacter") _) _ _ _) _) _ _ _); (fail_if_success (have fl'₉ : BFlag := by assumption)); (with_reducible refine Hold.mk ?_)))
  (k_with "MeetB" => (with_reducible refine Hold.mk ?_))
  (k_with "my_rz1" => (intro z₉ hz₉; (have z1₉ : z₉ ≠ Str.ofString "data" := by simpa using hz₉); first | rfl | simp only [if_neg z1₉]))
  (k_with "MeetR" => (with_reducible refine Hold.mk ?_))
  (k_with "my_rz" => (intro z₉ hz₉; obtain ⟨z1₉, z2₉⟩ := not_two0 hz₉; first | rfl | simp only [if_neg z1₉, if_neg z2₉]))
  (k_with "my_rd" => first | exact if_pos rfl | exact (if_neg (by decide +kernel)).trans (if_pos rfl))
  (k_with "my_steps" => (repeat' (first | (with_reducible refine GoOn.go (by with_reducible assumption) ?_; (try dsimp only)) | (k_unfold; (try dsimp only)) | (k_end; wrow_close) | walk1 | (dsimp only; walk1) | (leave1; (try dsimp only)) | fail "no step")))
  have i1 := I.size
  have i4 := I.len
  have i5 := I.pl0
  have i6 := I.pl1
  have ib := I.buf
  obtain ⟨e1, e2⟩ := tk
  refine wpAny_call ?_
  walk_at "my_enter"
  walk_at "my_steps"
  refine Hold.of ?_
  rename Fr _ _ _ _ => F1
  refine buf_cut w A σ rest F1 ?walk1₉ ?go1₉
  case walk1₉ =>
    have fl : BFlag := ⟨trivial⟩
    rcases ib with hb | ⟨tb, hb⟩
    · walk_at "my_steps"
      · refine Hold.of ⟨_, _, _, _, _, _, _, _, rfl, by walk_at "tp", by k_asm, by walk_at "my_rz1", by walk_at "my_rd", by walk_at "nd", by with_reducible assumption, by omega, by exact buf_app hb, by omega, by omega, by walk_at "my_ok", by exact rfl, by exact hb, by exact rfl⟩
      · obtain ⟨z1, z2, z3⟩ := end_none' (σ := σ) (b := bufL σ.buf) (place := σ.place) hb i5 i6 (buf_nil hb) (by with_reducible assumption) (by omega) (by with_reducible assumption) rfl rfl rfl
        refine ret _ false _ _ (by walk_at "tp") z1 rfl (fun _ => ⟨z2, z3⟩) (fun e => nomatch e) (by k_asm) ?_
        walk_at "nd"
    · walk_at "my_steps"
      refine Hold.of ⟨_, _, _, _, _, _, _, _, rfl, by walk_at "tp", by k_asm, by walk_at "my_rz1", by walk_at "my_rd", by walk_at "nd", by with_reducible assumption, by omega, by exact buf_cr hb (by with_reducible assumption), by omega, by omega, by walk_at "my_ok", by exact rfl, by exact rfl, by exact rfl⟩
  case go1₉ =>
    rintro s' ⟨σ1, y, ty, part, n, h', tk', m', rfl, hT, F', hz, hd0, N', hP, hn, hD, hy1, hy2, hok, ho0, hbf, hpl⟩
    have F6 := fr_one0 F' hz hd0
    clear F1 F'
    have fl : BFlag := ⟨trivial⟩
    walk_at "my_steps"
    refine Hold.of ?_
    rename Fr _ _ _ _ => F1
    refine read_cut w A σ rest (norm (bufL σ.buf ++ (toL A.txt).drop σ.place.toNat)) F1 ?walk₉ ?go₉
    case walk₉ =>
      have fl : RFlag := ⟨trivial⟩
      walk_at "my_steps"
      · refine Hold.of ⟨_, _, _, _, _, _, rfl, by walk_at "tp", by k_asm, by walk_at "my_rz", by walk_at "my_rd", by walk_at "nd", by omega, by walk_at "my_ok", by exact ho0, by exact fun y2 y3 _ _ _ _ _ _ e2 e3 => by rw [ho0, hpl]; exact end_buf (σ := σ) (b := bufL σ.buf) (place := σ.place) i5 i6 e1 (buf_leq I.buf) hP hD (by with_reducible assumption) (by with_reducible assumption) (by with_reducible assumption) (by with_reducible assumption) (by with_reducible assumption) e2 e3 rfl rfl⟩
      · refine Hold.of ⟨_, _, _, _, _, _, rfl, by walk_at "tp", by k_asm, by walk_at "my_rz", by walk_at "my_rd", by walk_at "nd", by omega, by walk_at "my_ok", by exact ho0, by exact fun y2 y3 _ _ _ _ _ _ e2 e3 => by rw [ho0, hpl]; exact end_plain' (σ := σ) (b := bufL σ.buf) (place := σ.place) hbf i5 i6 e1 (buf_leq I.buf) hP hn hD (by omega) (.inr ⟨_, by with_reducible assumption, by with_reducible assumption⟩) e2 e3 rfl rfl⟩
      · refine Hold.of ⟨_, _, _, _, _, _, rfl, by walk_at "tp", by k_asm, by walk_at "my_rz", by walk_at "my_rd", by walk_at "nd", by omega, by walk_at "my_ok", by exact ho0, by exact fun y2 y3 _ _ _ _ _ _ e2 e3 => by rw [ho0, hpl]; exact end_plain' (σ := σ) (b := bufL σ.buf) (place := σ.place) hbf i5 i6 e1 (buf_leq I.buf) hP hn hD (by omega) (.inl (by omega)) e2 e3 rfl rfl⟩
    case go₉ =>
      rintro s' ⟨σ1, y, ty, h', tk', m', rfl, hT, F', hz, hd0, N', hl0, hok, ho0, hE⟩
      have F6 := fr_flag0 F' hz hd0
      clear F1 F'
      walk_at "my_steps"
      obtain ⟨z1, z2, z3⟩ := hE _ _ _ _ _ _ _ _ (by with_reducible assumption) (by with_reducible assumption)
      refine ret _ true _ _ (by walk_at "tp") z1 ho0 (fun e => nomatch e) (fun _ => ⟨z2, z3⟩) (by k_asm) ?_
      walk_at "nd"
theorem readFn_t {A : SA} {σ : SS} {r : List Nat} (hs : Sep A) (ht0 : TxtOk A) (I : Inv A σ r)
    (hb : σ.buf = .none) {n : Int} {tn : Tok} (hn : 2 ≤ n) (hn2 : n ≤ 100)
    (B : Below A₀ base outer h₀) (F : Fr h₀ L s.heap m) (X : (Mine.hd.heap_1 w.params).In h₀)
    (N : News h₀ L s.heap (stL w A σ rest)) (off : OwnOff rest [A.dx, A.dtx])
    (T : Top p loose mean mg mb h₀) (hk : cs.kind = .function) (hd : dp + 20 < recursionLimit) (hu : un + 200 < cLine)
    (ret : ∀ σ' b h' tk', TP tk' → Inv A σ' (norm (bufL σ.buf ++ (toL A.txt).drop σ.place.toNat)) → σ'.off = 0 →
      (b = false → σ'.chunk.length = 0 ∧ unread A σ' = 0) → (b = true → 1 ≤ σ'.chunk.length ∧ unread A σ' < unread A σ) →
      Fr h₀ L h' m → News h₀ L h' (stL w A σ' rest) → Q (.bool b) { s with heap := h', toks := tk' }) :
    wpAny (model prog w) (ktrTop dp un gd cn cs L a ccd cl outer) (call (.ref 141) [.ref A.x, .int n tn]) Q E s := by
  k_with_none
  (k_with "nd" => first | k_asm | exact nd1 (by k_asm) | exact nd2 (by k_asm) | exact nd3 (by k_asm) | exact nd4 (by k_asm))
  (k_with "my_enter" => k_dflt (refine' code_def ?k1₉ ?k2₉ ?k3₉ ?k4₉ ?k5₉ ?kA₉ ?kF₉ ?kK₉ ?k6₉ ?k7₉ ?k8₉ ?k9₉ ?kB₉ ?_ ?c2₉ ?c3₉ ?c4₉ ?c5₉; (case kA₉ => exact rfl); (case kF₉ => exact rfl); (case kK₉ => first | exact rfl | assumption); (case k1₉ => k_asm); (case k2₉ => k_asm); (case k3₉ => k_asm); (case k4₉ => k_asm); (case k5₉ => k_asm); (case k6₉ => k_is); (case k7₉ => k_is); (case k8₉ => ktr_room); (case k9₉ => first | exact BindsTo.of_eq rfl | exact binds_K (by k_in) rfl (by k_is) rfl rfl rfl); (case c5₉ => decide); (case kB₉ => exact locs rfl); (case c2₉ => exact rfl); (case c3₉ => exact rfl); (case c4₉ => exact rfl); k_whole; intro g'₉ L'₉ h'₉ FG'₉ F'₉ N'₉ B'₉ X'₉ T'₉; (try dsimp only); (try k_fold)))
  (k_with "my_args" => ((case B₉ => k_asm); (case F₉ => k_asm); (case X₉ => k_asm); (case T₉ => k_asm); (case hk₉ => first | exact rfl | assumption); (case hd₉ => ktr_room); (case hu₉ => ktr_units)))
  (k_with "tp" => ((try dsimp only); with_reducible (first | assumption | exact TP.succ | exact TP.add2 | exact TP.add3 | exact TP.add4 | exact ⟨by omega⟩)))
  (k_with "forall" => ((with_reducible show (TP _ → _)); intro hT₉; dsimp only at hT₉))
  (k_with "execs nil" => (k_here; (with_reducible refine execsNG (by walk_at "tp") ?_); intro tk₉ htk₉; (try dsimp only)))
  (k_with "execs cons" => (k_here; (with_reducible refine execsQ (by walk_at "tp") ?_); intro Q9₉ hQ9₉ tk9₉ htk9₉; (try dsimp only)))
  (k_with "slot" => first | exact Slot.here (by with_reducible assumption) | (refine' Slot.skip ?za₉ ?zb₉ ?zc₉; (case za₉ => first | assumption | k_ne); (case zb₉ => first | assumption | k_ne); (case zc₉ => walk_at "slot")))
  (k_with "getAttr ref" => (k_here; with_reducible (first | (refine' sget_chunk ?F₉ ?X₉ ?N₉ ?S₉ ?_) | (refine' sget_chunkSize ?F₉ ?X₉ ?N₉ ?S₉ ?_) | (refine' sget_chunkOffset ?F₉ ?X₉ ?N₉ ?S₉ ?_) | (refine' sget_errors ?F₉ ?X₉ ?N₉ ?S₉ ?_) | (refine' sget_prevNumLines ?F₉ ?X₉ ?N₉ ?S₉ ?_) | (refine' sget_prevNumCols ?F₉ ?X₉ ?N₉ ?S₉ ?_) | (refine' sget_dataStream ?F₉ ?X₉ ?N₉ ?S₉ ?_) | (refine' sget_reportCharacterErrors ?F₉ ?X₉ ?N₉ ?S₉ ?_) | (refine' sget_text ?F₉ ?X₉ ?N₉ ?S₉ ?_) | (refine' sget_place ?F₉ ?X₉ ?N₉ ?S₉ ?_)); (case F₉ => k_asm); (case X₉ => k_asm); (case N₉ => k_asm); (case S₉ => walk_at "slot"); k_whole; (try dsimp only)))
  (k_with "setAttr ref" => (k_here; with_reducible (first | (refine' sset_chunk ?F₉ ?X₉ (by assumption) ?N₉ ?S₉ ?_) | (refine' sset_chunkSize ?F₉ ?X₉ (by assumption) ?N₉ ?S₉ ?_) | (refine' sset_chunkOffset ?F₉ ?X₉ (by assumption) ?N₉ ?S₉ ?_) | (refine' sset_prevNumLines ?F₉ ?X₉ (by assumption) ?N₉ ?S₉ ?_) | (refine' sset_prevNumCols ?F₉ ?X₉ (by assumption) ?N₉ ?S₉ ?_) | (refine' sset_buffered ?F₉ ?X₉ (by assumption) ?N₉ ?S₉ ?_) | (refine' sset_place ?F₉ ?X₉ (by assumption) ?N₉ ?S₉ ?_)); (case F₉ => k_asm); (case X₉ => k_asm); (case N₉ => k_asm); (case S₉ => walk_at "slot"); k_whole; intro h'₉ F'₉ N'₉; (try dsimp only at N'₉); (try k_sweep)))
  (k_with "getMethod ref" => (k_here; with_reducible (first | (refine' smeth_readChunk ?F₉ ?X₉ ?N₉ ?S₉ ?_) | (refine' smeth_position ?F₉ ?X₉ ?N₉ ?S₉ ?_) | (refine' smeth_char ?F₉ ?X₉ ?N₉ ?S₉ ?_) | (refine' smeth_unget ?F₉ ?X₉ ?N₉ ?S₉ ?_) | (refine' smeth_charsUntil ?F₉ ?X₉ ?N₉ ?S₉ ?_) | (refine' smeth_read ?F₉ ?X₉ ?N₉ ?S₉ ?_) | (refine' smeth_report ?F₉ ?X₉ ?N₉ ?S₉ ?_)); (case F₉ => k_asm); (case X₉ => k_asm); (case N₉ => k_asm); (case S₉ => walk_at "slot"); k_whole))
  (k_with "my_ok" => first | with_reducible assumption | with_reducible exact OkS.cr | (with_reducible refine OkS.of1 (by with_reducible assumption) ?_; walk_at "my_ok") | (with_reducible refine OkS.of2 (by with_reducible assumption) ?_; walk_at "my_ok") | (with_reducible refine OkS.of3 (by with_reducible assumption) ?_ ?_ <;> walk_at "my_ok") | (with_reducible refine OkS.app ?_ ?_ <;> walk_at "my_ok"))
  (k_with "call builtin:str.replace" => (with_reducible (first | (refine replace1 (by walk_at "tp") (by walk_at "tp") (by first | exact Nat.ne_of_lt (Nat.lt_succ_self _) | omega) (by omega) (by walk_at "tp") ?_; intro y'₉ t'₉ k'₉ hk'₉ e'₉ l'₉; (try dsimp only)) | (refine replace2 (by walk_at "tp") (by walk_at "tp") (by first | exact Nat.ne_of_lt (Nat.lt_succ_self _) | omega) (by omega) (by walk_at "tp") ?_; intro y'₉ t'₉ k'₉ hk'₉ e'₉ l'₉; (try dsimp only)))))
  (k_with "subscriptTail Name UnaryOp str int" => (k_here; (refine it_last (by omega) (by omega) ?_); intro c'₉ e'₉; (have hok₉ := OkS.last (by walk_at "my_ok") e'₉); (unfold okc at hok₉); (try dsimp only)))
  (k_with "subscriptTail" => (k_here; ((with_reducible rename Fr _ _ _ _ => F'₉); (with_reducible rename News _ _ _ _ => N'₉); ((with_reducible show wpAny _ _ (subscriptTail _ (Expr.Slice (some _) (some _) none _) (Value.str _ _) _) _ _ _); (refine sl_ss (s := ⟨_, _, _, _, _⟩) (by omega) (by omega) (by omega) F'₉ N'₉ ?_); clear F'₉ N'₉; intro y'₉ h'₉ t'₉ k'₉ e'₉ l'₉ F'₉ N'₉; (try dsimp only)))))
  (k_with "subscriptTail Name Slice str ref" => (k_here; ((with_reducible rename Fr _ _ _ _ => F'₉); (with_reducible rename News _ _ _ _ => N'₉); ((with_reducible show wpAny _ _ (subscriptTail _ (Expr.Slice none (some _) none _) (Value.str _ _) _) _ _ _); (refine sl_last (s := ⟨_, _, _, _, _⟩) (by omega) F'₉ N'₉ ?_); clear F'₉ N'₉; intro y'₉ h'₉ t'₉ k'₉ e'₉ l'₉ F'₉ N'₉; (try dsimp only)))))
  (k_with "binaryOp Add str str" => (k_here; (have e13₉ := len13h); (refine add_abs (by omega) ?_); intro y'₉ t'₉ k'₉ e'₉ l'₉; (try dsimp only)))
  (k_with "getAttr ref" => (k_here; (with_reducible show wpAny _ _ (getAttr (Value.ref _) (Str.ofString "_bufferedCharacter") _) _ _ _); k_dflt (refine' sget_bufV ?F₉ ?X₉ ?N₉ ?S₉ ?b₉ ?v₉ ?_; (case F₉ => k_asm); (case X₉ => k_asm); (case N₉ => k_asm); (case S₉ => walk_at "slot"); (case b₉ => assumption); (case v₉ => rfl))))
  (k_with "truthy ref" => (k_here; with_reducible (refine' struth_rm ?N₉ ?S₉ ?_); (case N₉ => k_asm); (case S₉ => walk_at "slot"); k_whole))
  (k_with "call ref" => (k_here; (with_reducible show wpAny _ _ (call (Value.ref 70) _) _ _ _); k_dflt (refine wpAny_call ?_); walk_at "my_enter"))
  (k_with "call ref" => (k_here; (with_reducible show wpAny _ _ (call (Value.ref 119) _) _ _ _); k_dflt (refine' posS_t ?B₉ ?F₉ ?X₉ ?N₉ ?T₉ ?hk₉ ?hd₉ ?hu₉ ?_; walk_at "my_args"; (case N₉ => k_asm)); intro tp'₉ i'₉ j'₉ ti'₉ tj'₉ h'₉ tk'₉ F'₉ N'₉ n1₉ n2₉; (try dsimp only); (try k_sweep)))
  (k_with "call ref" => (k_here; k_dflt (refine' scall_rm ?k1₉ ?k2₉ ?_; (case k1₉ => k_asm); (case k2₉ => walk_at "slot"); k_whole; refine' errs_t (by walk_at "my_ok") ?B₉ ?F₉ ?X₉ ?N₉ ?T₉ ?hk₉ ?hd₉ ?hu₉ ?_; walk_at "my_args"; (case N₉ => k_asm)); intro h'₉ tk'₉ F'₉ N'₉; (try dsimp only); (try k_sweep)))
  (k_with "exec If" => ((with_reducible show wpAny _ _ (exec (Stmt.If (Expr.Compare (Expr.Call (Expr.Name (Str.ofString "len") _) _ _ _) _ _ _) _ _ _) _) _ _ _); (fail_if_success (have fl'₉ : RFlag := by assumption)); (with_reducible refine Hold.mk ?_)))
  (k_with "exec If" => ((with_reducible show wpAny _ _ (exec (Stmt.If (Expr.Attribute _ (Str.ofString "_bufferedCharacter") _) _ _ _) _) _ _ _); (fail_if_success (have fl'₉ : BFlag := by assumption)); (with_reducible refine Hold.mk ?_)))
  (k_with "MeetB" => (with_reducible refine Hold.mk ?_))
  (k_with "my_rz1" => (intro z₉ hz₉; (have z1₉ : z₉ ≠ Str.ofString "data" := by simpa using hz₉); first | rfl | simp only [if_neg z1₉]))
  (k_with "MeetR" => (with_reducible refine Hold.mk ?_))
  (k_with "my_rz" => (intro z₉ hz₉; obtain ⟨z1₉, z2₉⟩ := not_two0 hz₉; first | rfl | simp only [if_neg z1₉, if_neg z2₉]))
  (k_with "my_rd" => first | exact if_pos rfl | exact (if_neg (by decide +kernel)).trans (if_pos rfl))
  (k_with "my_steps" => (repeat' (first | (with_reducible refine GoOn.go (by with_reducible assumption) ?_; (try dsimp only)) | (k_unfold; (try dsimp only)) | (k_end; wrow_close) | walk1 | (dsimp only; walk1) | (leave1; (try dsimp only)) | fail "no step")))
  have i1 := I.size
  have i4 := I.len
  have i5 := I.pl0
  have i6 := I.pl1
  obtain ⟨e1, e2⟩ := ht0
  have flB : BFlag := ⟨trivial⟩
  refine wpAny_call ?_
  walk_at "my_enter"
  walk_at "my_steps"
  · refine Hold.of ?_
    rename Fr _ _ _ _ => F1
    refine read_cut w A σ rest (norm (bufL σ.buf ++ (toL A.txt).drop σ.place.toNat)) F1 ?walk₉ ?go₉
    case walk₉ =>
      have fl : RFlag := ⟨trivial⟩
      walk_at "my_steps"
      · refine Hold.of ⟨_, _, _, _, _, _, rfl, by walk_at "tp", by k_asm, by walk_at "my_rz", by walk_at "my_rd", by walk_at "nd", by omega, by walk_at "my_ok", by exact rfl, by exact fun y2 y3 _ _ _ _ _ _ e2 e3 => end_buf (σ := σ) (b := bufL σ.buf) (place := σ.place) i5 i6 e1 (buf_le hb) (by with_reducible assumption) (buf_app hb) (by with_reducible assumption) (by with_reducible assumption) (by with_reducible assumption) (by with_reducible assumption) (by with_reducible assumption) e2 e3 rfl rfl⟩
      · refine Hold.of ⟨_, _, _, _, _, _, rfl, by walk_at "tp", by k_asm, by walk_at "my_rz", by walk_at "my_rd", by walk_at "nd", by omega, by walk_at "my_ok", by exact rfl, by exact fun y2 y3 _ _ _ _ _ _ e2 e3 => end_plain' (σ := σ) (b := bufL σ.buf) (place := σ.place) hb i5 i6 e1 (buf_le hb) (by with_reducible assumption) (by omega) (buf_app hb) (by omega) (.inr ⟨_, by with_reducible assumption, by with_reducible assumption⟩) e2 e3 rfl rfl⟩
      · refine Hold.of ⟨_, _, _, _, _, _, rfl, by walk_at "tp", by k_asm, by walk_at "my_rz", by walk_at "my_rd", by walk_at "nd", by omega, by walk_at "my_ok", by exact rfl, by exact fun y2 y3 _ _ _ _ _ _ e2 e3 => end_plain' (σ := σ) (b := bufL σ.buf) (place := σ.place) hb i5 i6 e1 (buf_le hb) (by with_reducible assumption) (by omega) (buf_app hb) (by omega) (.inl (by omega)) e2 e3 rfl rfl⟩
    case go₉ =>
      rintro s' ⟨σ1, y, ty, h', tk', m', rfl, hT, F', hz, hd0, N', hl0, hok, ho0, hE⟩
      have F6 := fr_flag0 F' hz hd0
      clear F1 F'
      walk_at "my_steps"
      obtain ⟨z1, z2, z3⟩ := hE _ _ _ _ _ _ _ _ (by with_reducible assumption) (by with_reducible assumption)
      refine ret _ true _ _ (by walk_at "tp") z1 ho0 (fun e => nomatch e) (fun _ => ⟨z2, z3⟩) (by k_asm) ?_
      walk_at "nd"
  · obtain ⟨z1, z2, z3⟩ := end_none' (σ := σ) (b := bufL σ.buf) (place := σ.place) hb i5 i6 (buf_nil hb) (by with_reducible assumption) (by omega) (by with_reducible assumption) rfl rfl rfl
    refine ret _ false _ _ (by walk_at "tp") z1 rfl (fun _ => ⟨z2, z3⟩) (fun e => nomatch e) (by k_asm) ?_
    walk_at "nd"
end

end
section -- H1
open PySem.Spec PySem.Calls
section
variable {prog : Program} {w : World} {p : Program} {loose : List Str} {mean : ExcName → Option Value} {mg mb : Str → Option Value}
   {dp un : Nat} {gd : Option (List Code)} {cn : Str} {cs : Scope} {a : Addr} {ccd : Value} {cl : List (Str × Addr)} {outer : List Env} {A₀ : Around} {base h₀ : Heap} {L : Addr} {m : Str → Option Value} {rest : List (Addr × Obj)} {s : Shared}
    {Q E : Value → Shared → Prop}
theorem readS_t {A : SA} {σ : SS} {r : List Nat} {news : List (Addr × Obj)} {f : SS → List (Addr × Obj)} (hs : Sep A) (tk : TxtOk A)
    (B : Below A₀ base outer h₀) (F : Fr h₀ L s.heap m) (X : (Mine.hd.heap_1 w.params).In h₀)
    (N : News h₀ L s.heap news) (S : Slot w A σ news f) (I : Inv A σ r)
    (T : Top p loose mean mg mb h₀) (hk : cs.kind = .function) (hd : dp + 20 < recursionLimit) (hu : un + 200 < cLine)
    (ret : ∀ σ' b h' tk', TP tk' → Inv A σ' (norm (bufL σ.buf ++ (toL A.txt).drop σ.place.toNat)) → σ'.off = 0 →
      (b = false → σ'.chunk.length = 0 ∧ unread A σ' = 0) → (b = true → 1 ≤ σ'.chunk.length ∧ unread A σ' < unread A σ) →
      Fr h₀ L h' m → News h₀ L h' (f σ') → Q (.bool b) { s with heap := h', toks := tk' }) :
    wpAny (model prog w) (ktrTop dp un gd cn cs L a ccd cl outer) (call (.ref 141) [.ref A.x]) Q E s := by
  obtain ⟨fr, rest, rfl, e, off⟩ := S.split
  exact readC_t hs tk I B F X (news_in fr N) off T hk hd hu fun σ' b h' tk' t1 t2 t3 t4 t5 F' N' => ret σ' b h' tk' t1 t2 t3 t4 t5 F' (by rw [e]; exact news_out fr N')

theorem charS_t {A : SA} {σ : SS} {r : List Nat} (hs : Sep A) (tk : TxtOk A) (I : Inv A σ r)
    (B : Below A₀ base outer h₀) (F : Fr h₀ L s.heap m) (X : (Mine.hd.heap_1 w.params).In h₀)
    (N : News h₀ L s.heap (stL w A σ rest)) (off : OwnOff rest [A.dx, A.dtx])
    (T : Top p loose mean mg mb h₀) (hk : cs.kind = .function) (hd : dp + 30 < recursionLimit) (hu : un + 300 < cLine)
    (ret : ∀ σ' v h' tk', TP tk' → CharPost A σ r v σ' → Fr h₀ L h' m → News h₀ L h' (stL w A σ' rest) → Q v { s with heap := h', toks := tk' }) :
    wpAny (model prog w) (ktrTop dp un gd cn cs L a ccd cl outer) (call (.ref 133) [.ref A.x]) Q E s := by
  k_with_none
  (k_with "nd" => first | k_asm | exact nd1 (by k_asm) | exact nd2 (by k_asm) | exact nd3 (by k_asm) | exact nd4 (by k_asm))
  (k_with "my_enter" => k_dflt (refine' code_def ?k1₉ ?k2₉ ?k3₉ ?k4₉ ?k5₉ ?kA₉ ?kF₉ ?kK₉ ?k6₉ ?k7₉ ?k8₉ ?k9₉ ?kB₉ ?_ ?c2₉ ?c3₉ ?c4₉ ?c5₉; (case kA₉ => exact rfl); (case kF₉ => exact rfl); (case kK₉ => first | exact rfl | assumption); (case k1₉ => k_asm); (case k2₉ => k_asm); (case k3₉ => k_asm); (case k4₉ => k_asm); (case k5₉ => k_asm); (case k6₉ => k_is); (case k7₉ => k_is); (case k8₉ => ktr_room); (case k9₉ => first | exact BindsTo.of_eq rfl | exact binds_K (by k_in) rfl (by k_is) rfl rfl rfl); (case c5₉ => decide); (case kB₉ => exact locs rfl); (case c2₉ => exact rfl); (case c3₉ => exact rfl); (case c4₉ => exact rfl); k_whole; intro g'₉ L'₉ h'₉ FG'₉ F'₉ N'₉ B'₉ X'₉ T'₉; (try dsimp only); (try k_fold)))
  (k_with "my_args" => ((case B₉ => k_asm); (case F₉ => k_asm); (case X₉ => k_asm); (case T₉ => k_asm); (case hk₉ => first | exact rfl | assumption); (case hd₉ => ktr_room); (case hu₉ => ktr_units)))
  (k_with "tp" => ((try dsimp only); with_reducible (first | assumption | exact TP.succ | exact TP.add2 | exact TP.add3 | exact TP.add4 | exact ⟨by omega⟩)))
  (k_with "forall" => ((with_reducible show (TP _ → _)); intro hT₉; dsimp only at hT₉))
  (k_with "execs nil" => (k_here; (with_reducible refine execsNG (by walk_at "tp") ?_); intro tk₉ htk₉; (try dsimp only)))
  (k_with "execs cons" => (k_here; (with_reducible refine execsQ (by walk_at "tp") ?_); intro Q9₉ hQ9₉ tk9₉ htk9₉; (try dsimp only)))
  (k_with "slot" => first | exact Slot.here (by with_reducible assumption) | (refine' Slot.skip ?za₉ ?zb₉ ?zc₉; (case za₉ => first | assumption | k_ne); (case zb₉ => first | assumption | k_ne); (case zc₉ => walk_at "slot")))
  (k_with "getAttr ref" => (k_here; with_reducible (first | (refine' sget_chunk ?F₉ ?X₉ ?N₉ ?S₉ ?_) | (refine' sget_chunkSize ?F₉ ?X₉ ?N₉ ?S₉ ?_) | (refine' sget_chunkOffset ?F₉ ?X₉ ?N₉ ?S₉ ?_) | (refine' sget_errors ?F₉ ?X₉ ?N₉ ?S₉ ?_) | (refine' sget_prevNumLines ?F₉ ?X₉ ?N₉ ?S₉ ?_) | (refine' sget_prevNumCols ?F₉ ?X₉ ?N₉ ?S₉ ?_) | (refine' sget_dataStream ?F₉ ?X₉ ?N₉ ?S₉ ?_) | (refine' sget_reportCharacterErrors ?F₉ ?X₉ ?N₉ ?S₉ ?_) | (refine' sget_text ?F₉ ?X₉ ?N₉ ?S₉ ?_) | (refine' sget_place ?F₉ ?X₉ ?N₉ ?S₉ ?_)); (case F₉ => k_asm); (case X₉ => k_asm); (case N₉ => k_asm); (case S₉ => walk_at "slot"); k_whole; (try dsimp only)))
  (k_with "setAttr ref" => (k_here; with_reducible (first | (refine' sset_chunk ?F₉ ?X₉ (by assumption) ?N₉ ?S₉ ?_) | (refine' sset_chunkSize ?F₉ ?X₉ (by assumption) ?N₉ ?S₉ ?_) | (refine' sset_chunkOffset ?F₉ ?X₉ (by assumption) ?N₉ ?S₉ ?_) | (refine' sset_prevNumLines ?F₉ ?X₉ (by assumption) ?N₉ ?S₉ ?_) | (refine' sset_prevNumCols ?F₉ ?X₉ (by assumption) ?N₉ ?S₉ ?_) | (refine' sset_buffered ?F₉ ?X₉ (by assumption) ?N₉ ?S₉ ?_) | (refine' sset_place ?F₉ ?X₉ (by assumption) ?N₉ ?S₉ ?_)); (case F₉ => k_asm); (case X₉ => k_asm); (case N₉ => k_asm); (case S₉ => walk_at "slot"); k_whole; intro h'₉ F'₉ N'₉; (try dsimp only at N'₉); (try k_sweep)))
  (k_with "getMethod ref" => (k_here; with_reducible (first | (refine' smeth_readChunk ?F₉ ?X₉ ?N₉ ?S₉ ?_) | (refine' smeth_position ?F₉ ?X₉ ?N₉ ?S₉ ?_) | (refine' smeth_char ?F₉ ?X₉ ?N₉ ?S₉ ?_) | (refine' smeth_unget ?F₉ ?X₉ ?N₉ ?S₉ ?_) | (refine' smeth_charsUntil ?F₉ ?X₉ ?N₉ ?S₉ ?_) | (refine' smeth_read ?F₉ ?X₉ ?N₉ ?S₉ ?_) | (refine' smeth_report ?F₉ ?X₉ ?N₉ ?S₉ ?_)); (case F₉ => k_asm); (case X₉ => k_asm); (case N₉ => k_asm); (case S₉ => walk_at "slot"); k_whole))
  (k_with "call ref" => (k_here; (try dsimp only [List.append_nil, List.cons_append, List.nil_append]); (with_reducible show wpAny _ _ (call (Value.ref 141) [_]) _ _ _); k_dflt (refine' readS_t (by assumption) (by assumption) ?B₉ ?F₉ ?X₉ ?N₉ ?S₉ ?I₉ ?T₉ ?hk₉ ?hd₉ ?hu₉ ?_; walk_at "my_args"; (case N₉ => k_asm); (case S₉ => walk_at "slot"); (case I₉ => assumption)); intro σ1₉ b1₉ h'₉ tk'₉ hT'₉ I'₉ o'₉ hf₉ ht₉ F'₉ N'₉; (try dsimp only at N'₉); (try dsimp only); ((cases b1₉) <;> (first | (replace hf₉ := hf₉ rfl; clear ht₉) | (replace ht₉ := ht₉ rfl; clear hf₉))); all_goals (have j1₉ := Inv.size I'₉; have j2₉ := Inv.len I'₉; try k_sweep)))
  (k_with "subscriptTail" => (k_here; (with_reducible show wpAny _ _ (subscriptTail _ _ (Value.str _ _) (Value.int _ _)) _ _ _); (refine it_at (by omega) (by omega) (by omega) ?_); intro c'₉ e'₉; (try dsimp only)))
  (k_with "my_steps" => (repeat' (first | (with_reducible refine GoOn.go (by with_reducible assumption) ?_; (try dsimp only)) | (k_unfold; (try dsimp only)) | (k_end; wrow_close) | walk1 | (dsimp only; walk1) | (leave1; (try dsimp only)) | fail "no step")))
  have i1 := I.size
  have i2 := I.off0
  have i3 := I.off1
  have i4 := I.len
  refine wpAny_call ?_
  walk_at "my_enter"
  walk_at "my_steps"
  · exact ret _ _ _ _ (by walk_at "tp") (char_post3 I (by omega) (by assumption) (by assumption) (by assumption)) (by k_asm) (by walk_at "nd")
  · exact ret _ _ _ _ (by walk_at "tp") (char_post2 I (by omega) (by assumption) (by assumption) (by assumption)) (by k_asm) (by walk_at "nd")
  · exact ret _ _ _ _ (by walk_at "tp") (char_post1 I (by assumption)) (by k_asm) (by walk_at "nd")
theorem unget_t {A : SA} {σ : SS} {r st : List Nat} {c : Nat} {tc : Tok} (hs : Sep A) (I : Inv A σ r) (hb : Back σ (c :: st)) (hl : r.length + 1 ≤ 2000)
    (B : Below A₀ base outer h₀) (F : Fr h₀ L s.heap m) (X : (Mine.hd.heap_1 w.params).In h₀)
    (N : News h₀ L s.heap (stL w A σ rest)) (off : OwnOff rest [A.dx, A.dtx])
    (T : Top p loose mean mg mb h₀) (hk : cs.kind = .function) (hd : dp + 30 < recursionLimit) (hu : un + 300 < cLine)
    (ret : ∀ σ' h' tk', TP tk' → UngetPost A c r st σ' → Fr h₀ L h' m → News h₀ L h' (stL w A σ' rest) → Q .none { s with heap := h', toks := tk' }) :
    wpAny (model prog w) (ktrTop dp un gd cn cs L a ccd cl outer) (call (.ref 163) [.ref A.x, .str ⟨#[c]⟩ tc]) Q E s := by
  k_with_none
  (k_with "nd" => first | k_asm | exact nd1 (by k_asm) | exact nd2 (by k_asm) | exact nd3 (by k_asm) | exact nd4 (by k_asm))
  (k_with "my_enter" => k_dflt (refine' code_def ?k1₉ ?k2₉ ?k3₉ ?k4₉ ?k5₉ ?kA₉ ?kF₉ ?kK₉ ?k6₉ ?k7₉ ?k8₉ ?k9₉ ?kB₉ ?_ ?c2₉ ?c3₉ ?c4₉ ?c5₉; (case kA₉ => exact rfl); (case kF₉ => exact rfl); (case kK₉ => first | exact rfl | assumption); (case k1₉ => k_asm); (case k2₉ => k_asm); (case k3₉ => k_asm); (case k4₉ => k_asm); (case k5₉ => k_asm); (case k6₉ => k_is); (case k7₉ => k_is); (case k8₉ => ktr_room); (case k9₉ => first | exact BindsTo.of_eq rfl | exact binds_K (by k_in) rfl (by k_is) rfl rfl rfl); (case c5₉ => decide); (case kB₉ => exact locs rfl); (case c2₉ => exact rfl); (case c3₉ => exact rfl); (case c4₉ => exact rfl); k_whole; intro g'₉ L'₉ h'₉ FG'₉ F'₉ N'₉ B'₉ X'₉ T'₉; (try dsimp only); (try k_fold)))
  (k_with "my_args" => ((case B₉ => k_asm); (case F₉ => k_asm); (case X₉ => k_asm); (case T₉ => k_asm); (case hk₉ => first | exact rfl | assumption); (case hd₉ => ktr_room); (case hu₉ => ktr_units)))
  (k_with "tp" => ((try dsimp only); with_reducible (first | assumption | exact TP.succ | exact TP.add2 | exact TP.add3 | exact TP.add4 | exact ⟨by omega⟩)))
  (k_with "forall" => ((with_reducible show (TP _ → _)); intro hT₉; dsimp only at hT₉))
  (k_with "execs nil" => (k_here; (with_reducible refine execsNG (by walk_at "tp") ?_); intro tk₉ htk₉; (try dsimp only)))
  (k_with "execs cons" => (k_here; (with_reducible refine execsQ (by walk_at "tp") ?_); intro Q9₉ hQ9₉ tk9₉ htk9₉; (try dsimp only)))
  (k_with "slot" => first | exact Slot.here (by with_reducible assumption) | (refine' Slot.skip ?za₉ ?zb₉ ?zc₉; (case za₉ => first | assumption | k_ne); (case zb₉ => first | assumption | k_ne); (case zc₉ => walk_at "slot")))
  (k_with "getAttr ref" => (k_here; with_reducible (first | (refine' sget_chunk ?F₉ ?X₉ ?N₉ ?S₉ ?_) | (refine' sget_chunkSize ?F₉ ?X₉ ?N₉ ?S₉ ?_) | (refine' sget_chunkOffset ?F₉ ?X₉ ?N₉ ?S₉ ?_) | (refine' sget_errors ?F₉ ?X₉ ?N₉ ?S₉ ?_) | (refine' sget_prevNumLines ?F₉ ?X₉ ?N₉ ?S₉ ?_) | (refine' sget_prevNumCols ?F₉ ?X₉ ?N₉ ?S₉ ?_) | (refine' sget_dataStream ?F₉ ?X₉ ?N₉ ?S₉ ?_) | (refine' sget_reportCharacterErrors ?F₉ ?X₉ ?N₉ ?S₉ ?_) | (refine' sget_text ?F₉ ?X₉ ?N₉ ?S₉ ?_) | (refine' sget_place ?F₉ ?X₉ ?N₉ ?S₉ ?_)); (case F₉ => k_asm); (case X₉ => k_asm); (case N₉ => k_asm); (case S₉ => walk_at "slot"); k_whole; (try dsimp only)))
  (k_with "setAttr ref" => (k_here; with_reducible (first | (refine' sset_chunk ?F₉ ?X₉ (by assumption) ?N₉ ?S₉ ?_) | (refine' sset_chunkSize ?F₉ ?X₉ (by assumption) ?N₉ ?S₉ ?_) | (refine' sset_chunkOffset ?F₉ ?X₉ (by assumption) ?N₉ ?S₉ ?_) | (refine' sset_prevNumLines ?F₉ ?X₉ (by assumption) ?N₉ ?S₉ ?_) | (refine' sset_prevNumCols ?F₉ ?X₉ (by assumption) ?N₉ ?S₉ ?_) | (refine' sset_buffered ?F₉ ?X₉ (by assumption) ?N₉ ?S₉ ?_) | (refine' sset_place ?F₉ ?X₉ (by assumption) ?N₉ ?S₉ ?_)); (case F₉ => k_asm); (case X₉ => k_asm); (case N₉ => k_asm); (case S₉ => walk_at "slot"); k_whole; intro h'₉ F'₉ N'₉; (try dsimp only at N'₉); (try k_sweep)))
  (k_with "getMethod ref" => (k_here; with_reducible (first | (refine' smeth_readChunk ?F₉ ?X₉ ?N₉ ?S₉ ?_) | (refine' smeth_position ?F₉ ?X₉ ?N₉ ?S₉ ?_) | (refine' smeth_char ?F₉ ?X₉ ?N₉ ?S₉ ?_) | (refine' smeth_unget ?F₉ ?X₉ ?N₉ ?S₉ ?_) | (refine' smeth_charsUntil ?F₉ ?X₉ ?N₉ ?S₉ ?_) | (refine' smeth_read ?F₉ ?X₉ ?N₉ ?S₉ ?_) | (refine' smeth_report ?F₉ ?X₉ ?N₉ ?S₉ ?_)); (case F₉ => k_asm); (case X₉ => k_asm); (case N₉ => k_asm); (case S₉ => walk_at "slot"); k_whole))
  (k_with "call ref" => (k_here; (try dsimp only [List.append_nil, List.cons_append, List.nil_append]); (with_reducible show wpAny _ _ (call (Value.ref 141) [_]) _ _ _); k_dflt (refine' readS_t (by assumption) (by assumption) ?B₉ ?F₉ ?X₉ ?N₉ ?S₉ ?I₉ ?T₉ ?hk₉ ?hd₉ ?hu₉ ?_; walk_at "my_args"; (case N₉ => k_asm); (case S₉ => walk_at "slot"); (case I₉ => assumption)); intro σ1₉ b1₉ h'₉ tk'₉ hT'₉ I'₉ o'₉ hf₉ ht₉ F'₉ N'₉; (try dsimp only at N'₉); (try dsimp only); ((cases b1₉) <;> (first | (replace hf₉ := hf₉ rfl; clear ht₉) | (replace ht₉ := ht₉ rfl; clear hf₉))); all_goals (have j1₉ := Inv.size I'₉; have j2₉ := Inv.len I'₉; try k_sweep)))
  (k_with "subscriptTail" => (k_here; (with_reducible show wpAny _ _ (subscriptTail _ _ (Value.str _ _) (Value.int _ _)) _ _ _); (refine it_at (by omega) (by omega) (by omega) ?_); intro c'₉ e'₉; (try dsimp only)))
  (k_with "my_steps" => (repeat' (first | (with_reducible refine GoOn.go (by with_reducible assumption) ?_; (try dsimp only)) | (k_unfold; (try dsimp only)) | (k_end; wrow_close) | walk1 | (dsimp only; walk1) | (leave1; (try dsimp only)) | fail "no step")))
  have i1 := I.size
  have i2 := I.off0
  have i3 := I.off1
  have i4 := I.len
  refine wpAny_call ?_
  walk_at "my_enter"
  walk_at "my_steps"
  · exact ret _ _ _ (by walk_at "tp") (unget_post1 I hl (by assumption) rfl) (by k_asm) (by walk_at "nd")
  · exact ret _ _ _ (by walk_at "tp") (unget_post2 I hb (by assumption)) (by k_asm) (by walk_at "nd")
  · exact (unget_no (by assumption) (unget_at I hb (by assumption)) (by assumption)).elim
theorem ungetN_t {x : Addr}
    (B : Below A₀ base outer h₀) (F : Fr h₀ L s.heap m) (X : (Mine.hd.heap_1 w.params).In h₀)
    (N : News h₀ L s.heap rest)
    (T : Top p loose mean mg mb h₀) (hk : cs.kind = .function) (hd : dp + 30 < recursionLimit) (hu : un + 300 < cLine)
    (ret : ∀ h' tk', Fr h₀ L h' m → News h₀ L h' rest → Q .none { s with heap := h', toks := tk' }) :
    wpAny (model prog w) (ktrTop dp un gd cn cs L a ccd cl outer) (call (.ref 163) [.ref x, .none]) Q E s := by
  k_with_none
  (k_with "nd" => first | k_asm | exact nd1 (by k_asm) | exact nd2 (by k_asm) | exact nd3 (by k_asm) | exact nd4 (by k_asm))
  (k_with "my_enter" => k_dflt (refine' code_def ?k1₉ ?k2₉ ?k3₉ ?k4₉ ?k5₉ ?kA₉ ?kF₉ ?kK₉ ?k6₉ ?k7₉ ?k8₉ ?k9₉ ?kB₉ ?_ ?c2₉ ?c3₉ ?c4₉ ?c5₉; (case kA₉ => exact rfl); (case kF₉ => exact rfl); (case kK₉ => first | exact rfl | assumption); (case k1₉ => k_asm); (case k2₉ => k_asm); (case k3₉ => k_asm); (case k4₉ => k_asm); (case k5₉ => k_asm); (case k6₉ => k_is); (case k7₉ => k_is); (case k8₉ => ktr_room); (case k9₉ => first | exact BindsTo.of_eq rfl | exact binds_K (by k_in) rfl (by k_is) rfl rfl rfl); (case c5₉ => decide); (case kB₉ => exact locs rfl); (case c2₉ => exact rfl); (case c3₉ => exact rfl); (case c4₉ => exact rfl); k_whole; intro g'₉ L'₉ h'₉ FG'₉ F'₉ N'₉ B'₉ X'₉ T'₉; (try dsimp only); (try k_fold)))
  (k_with "my_args" => ((case B₉ => k_asm); (case F₉ => k_asm); (case X₉ => k_asm); (case T₉ => k_asm); (case hk₉ => first | exact rfl | assumption); (case hd₉ => ktr_room); (case hu₉ => ktr_units)))
  (k_with "tp" => ((try dsimp only); with_reducible (first | assumption | exact TP.succ | exact TP.add2 | exact TP.add3 | exact TP.add4 | exact ⟨by omega⟩)))
  (k_with "forall" => ((with_reducible show (TP _ → _)); intro hT₉; dsimp only at hT₉))
  (k_with "execs nil" => (k_here; (with_reducible refine execsNG (by walk_at "tp") ?_); intro tk₉ htk₉; (try dsimp only)))
  (k_with "execs cons" => (k_here; (with_reducible refine execsQ (by walk_at "tp") ?_); intro Q9₉ hQ9₉ tk9₉ htk9₉; (try dsimp only)))
  (k_with "slot" => first | exact Slot.here (by with_reducible assumption) | (refine' Slot.skip ?za₉ ?zb₉ ?zc₉; (case za₉ => first | assumption | k_ne); (case zb₉ => first | assumption | k_ne); (case zc₉ => walk_at "slot")))
  (k_with "getAttr ref" => (k_here; with_reducible (first | (refine' sget_chunk ?F₉ ?X₉ ?N₉ ?S₉ ?_) | (refine' sget_chunkSize ?F₉ ?X₉ ?N₉ ?S₉ ?_) | (refine' sget_chunkOffset ?F₉ ?X₉ ?N₉ ?S₉ ?_) | (refine' sget_errors ?F₉ ?X₉ ?N₉ ?S₉ ?_) | (refine' sget_prevNumLines ?F₉ ?X₉ ?N₉ ?S₉ ?_) | (refine' sget_prevNumCols ?F₉ ?X₉ ?N₉ ?S₉ ?_) | (refine' sget_dataStream ?F₉ ?X₉ ?N₉ ?S₉ ?_) | (refine' sget_reportCharacterErrors ?F₉ ?X₉ ?N₉ ?S₉ ?_) | (refine' sget_text ?F₉ ?X₉ ?N₉ ?S₉ ?_) | (refine' sget_place ?F₉ ?X₉ ?N₉ ?S₉ ?_)); (case F₉ => k_asm); (case X₉ => k_asm); (case N₉ => k_asm); (case S₉ => walk_at "slot"); k_whole; (try dsimp only)))
  (k_with "setAttr ref" => (k_here; with_reducible (first | (refine' sset_chunk ?F₉ ?X₉ (by assumption) ?N₉ ?S₉ ?_) | (refine' sset_chunkSize ?F₉ ?X₉ (by assumption) ?N₉ ?S₉ ?_) | (refine' sset_chunkOffset ?F₉ ?X₉ (by assumption) ?N₉ ?S₉ ?_) | (refine' sset_prevNumLines ?F₉ ?X₉ (by assumption) ?N₉ ?S₉ ?_) | (refine' sset_prevNumCols ?F₉ ?X₉ (by assumption) ?N₉ ?S₉ ?_) | (refine' sset_buffered ?F₉ ?X₉ (by assumption) ?N₉ ?S₉ ?_) | (refine' sset_place ?F₉ ?X₉ (by assumption) ?N₉ ?S₉ ?_)); (case F₉ => k_asm); (case X₉ => k_asm); (case N₉ => k_asm); (case S₉ => walk_at "slot"); k_whole; intro h'₉ F'₉ N'₉; (try dsimp only at N'₉); (try k_sweep)))
  (k_with "getMethod ref" => (k_here; with_reducible (first | (refine' smeth_readChunk ?F₉ ?X₉ ?N₉ ?S₉ ?_) | (refine' smeth_position ?F₉ ?X₉ ?N₉ ?S₉ ?_) | (refine' smeth_char ?F₉ ?X₉ ?N₉ ?S₉ ?_) | (refine' smeth_unget ?F₉ ?X₉ ?N₉ ?S₉ ?_) | (refine' smeth_charsUntil ?F₉ ?X₉ ?N₉ ?S₉ ?_) | (refine' smeth_read ?F₉ ?X₉ ?N₉ ?S₉ ?_) | (refine' smeth_report ?F₉ ?X₉ ?N₉ ?S₉ ?_)); (case F₉ => k_asm); (case X₉ => k_asm); (case N₉ => k_asm); (case S₉ => walk_at "slot"); k_whole))
  (k_with "call ref" => (k_here; (try dsimp only [List.append_nil, List.cons_append, List.nil_append]); (with_reducible show wpAny _ _ (call (Value.ref 141) [_]) _ _ _); k_dflt (refine' readS_t (by assumption) (by assumption) ?B₉ ?F₉ ?X₉ ?N₉ ?S₉ ?I₉ ?T₉ ?hk₉ ?hd₉ ?hu₉ ?_; walk_at "my_args"; (case N₉ => k_asm); (case S₉ => walk_at "slot"); (case I₉ => assumption)); intro σ1₉ b1₉ h'₉ tk'₉ hT'₉ I'₉ o'₉ hf₉ ht₉ F'₉ N'₉; (try dsimp only at N'₉); (try dsimp only); ((cases b1₉) <;> (first | (replace hf₉ := hf₉ rfl; clear ht₉) | (replace ht₉ := ht₉ rfl; clear hf₉))); all_goals (have j1₉ := Inv.size I'₉; have j2₉ := Inv.len I'₉; try k_sweep)))
  (k_with "subscriptTail" => (k_here; (with_reducible show wpAny _ _ (subscriptTail _ _ (Value.str _ _) (Value.int _ _)) _ _ _); (refine it_at (by omega) (by omega) (by omega) ?_); intro c'₉ e'₉; (try dsimp only)))
  (k_with "my_steps" => (repeat' (first | (with_reducible refine GoOn.go (by with_reducible assumption) ?_; (try dsimp only)) | (k_unfold; (try dsimp only)) | (k_end; wrow_close) | walk1 | (dsimp only; walk1) | (leave1; (try dsimp only)) | fail "no step")))
  refine wpAny_call ?_
  walk_at "my_enter"
  walk_at "my_steps"
  all_goals exact ret _ _ (by k_asm) (by walk_at "nd")
end

end
section -- H3
open PySem.Spec PySem.Calls
/-- an address that no object of the stream's ledger has -/
def Apart (d : Addr) (A : SA) (rest : List (Addr × Obj)) : Prop := (@Ne Nat A.x d ∧ @Ne Nat A.dx d ∧ @Ne Nat A.tx d ∧ @Ne Nat A.dtx d ∧ @Ne Nat A.rm d ∧ @Ne Nat A.er d) ∧ ∀ p ∈ rest, p.1 ≠ d
theorem rv_ne {w : World} {d : Addr} {A : SA} {rest : List (Addr × Obj)} (h : Apart d A rest) (σ : SS) : ∀ p ∈ stL w A σ rest, p.1 ≠ d := by
  intro p hp
  unfold stL at hp
  obtain ⟨⟨h1, h2, h3, h4, h5, h6⟩, h7⟩ := h
  simp only [List.mem_cons] at hp
  rcases hp with rfl | rfl | rfl | rfl | rfl | rfl | hp
  · exact h1
  · exact h2
  · exact h3
  · exact h4
  · exact h5
  · exact h6
  · exact h7 p hp
theorem mem_stL {w : World} {A : SA} {σ : SS} {rest : List (Addr × Obj)} : (A.x, instObj 166 A.dx) ∈ stL w A σ rest ∧ (A.dx, dS w A σ) ∈ stL w A σ rest ∧ (A.tx, instObj 73 A.dtx) ∈ stL w A σ rest ∧ (A.dtx, dT w A σ) ∈ stL w A σ rest ∧
    (A.rm, methodObj (.ref 148) (.ref A.x)) ∈ stL w A σ rest ∧ (A.er, listOf #[] 0) ∈ stL w A σ rest ∧ ∀ p ∈ rest, p ∈ stL w A σ rest := by
  unfold stL
  refine ⟨.head _, .tail _ (.head _), .tail _ (.tail _ (.head _)), .tail _ (.tail _ (.tail _ (.head _))), .tail _ (.tail _ (.tail _ (.tail _ (.head _)))), .tail _ (.tail _ (.tail _ (.tail _ (.tail _ (.head _))))), fun p hp => .tail _ (.tail _ (.tail _ (.tail _ (.tail _ (.tail _ hp)))))⟩
theorem apart_of {w : World} {d : Addr} {A : SA} {σ : SS} {rest : List (Addr × Obj)} (h : ∀ p ∈ stL w A σ rest, p.1 < d) : Apart d A rest := by
  obtain ⟨m1, m2, m3, m4, m5, m6, m7⟩ := mem_stL (w := w) (A := A) (σ := σ) (rest := rest)
  exact ⟨⟨Nat.ne_of_lt (h _ m1), Nat.ne_of_lt (h _ m2), Nat.ne_of_lt (h _ m3), Nat.ne_of_lt (h _ m4), Nat.ne_of_lt (h _ m5), Nat.ne_of_lt (h _ m6)⟩, fun p hp => Nat.ne_of_lt (h _ (m7 p hp))⟩
section
variable {prog : Program} {w : World} {p : Program} {loose : List Str} {mean : ExcName → Option Value} {mg mb : Str → Option Value}
   {dp un : Nat} {gd : Option (List Code)} {cn : Str} {cs : Scope} {a : Addr} {ccd : Value} {cl : List (Str × Addr)} {outer : List Env} {A₀ : Around} {base h₀ : Heap} {L : Addr} {m : Str → Option Value} {rest : List (Addr × Obj)} {s : Shared}
    {Q E : Value → Shared → Prop}
theorem charsUntil_t {A : SA} {σ : SS} {r : List Nat} {tg : Tok} (hs : Sep A) (ht0 : TxtOk A) (I : Inv A σ r)
    (B : Below A₀ base outer h₀) (F : Fr h₀ L s.heap m) (X : (Mine.hd.heap_1 w.params).In h₀)
    (N : News h₀ L s.heap (stL w A σ rest)) (off : OwnOff rest [A.dx, A.dtx])
    (T : Top p loose mean mg mb h₀) (hk : cs.kind = .function) (hd : dp + 30 < recursionLimit) (hu : un + 300 < cLine)
    (ret : ∀ σ' y t' h' tk', toL y = r.takeWhile (· != 62) → Inv A σ' (r.dropWhile (· != 62)) → Fr h₀ L h' m → News h₀ L h' (stL w A σ' rest) → Q (.str y t') { s with heap := h', toks := tk' }) :
    wpAny (model prog w) (ktrTop dp un gd cn cs L a ccd cl outer) (call (.ref 156) [.ref A.x, .str (Str.ofString ">") tg]) Q E s := by
  k_with_none
  (k_with "nd" => first | k_asm | exact nd1 (by k_asm) | exact nd2 (by k_asm) | exact nd3 (by k_asm) | exact nd4 (by k_asm))
  (k_with "my_enter" => k_dflt (refine' code_def ?k1₉ ?k2₉ ?k3₉ ?k4₉ ?k5₉ ?kA₉ ?kF₉ ?kK₉ ?k6₉ ?k7₉ ?k8₉ ?k9₉ ?kB₉ ?_ ?c2₉ ?c3₉ ?c4₉ ?c5₉; (case kA₉ => exact rfl); (case kF₉ => exact rfl); (case kK₉ => first | exact rfl | assumption); (case k1₉ => k_asm); (case k2₉ => k_asm); (case k3₉ => k_asm); (case k4₉ => k_asm); (case k5₉ => k_asm); (case k6₉ => k_is); (case k7₉ => k_is); (case k8₉ => ktr_room); (case k9₉ => first | exact BindsTo.of_eq rfl | exact binds_K (by k_in) rfl (by k_is) rfl rfl rfl); (case c5₉ => decide); (case kB₉ => exact locs rfl); (case c2₉ => exact rfl); (case c3₉ => exact rfl); (case c4₉ => exact rfl); k_whole; intro g'₉ L'₉ h'₉ FG'₉ F'₉ N'₉ B'₉ X'₉ T'₉; (try dsimp only); (try k_fold)))
  (k_with "my_args" => ((case B₉ => k_asm); (case F₉ => k_asm); (case X₉ => k_asm); (case T₉ => k_asm); (case hk₉ => first | exact rfl | assumption); (case hd₉ => ktr_room); (case hu₉ => ktr_units)))
  (k_with "tp" => ((try dsimp only); with_reducible (first | assumption | exact TP.succ | exact TP.add2 | exact TP.add3 | exact TP.add4 | exact ⟨by omega⟩)))
  (k_with "forall" => ((with_reducible show (TP _ → _)); intro hT₉; dsimp only at hT₉))
  (k_with "execs nil" => (k_here; (with_reducible refine execsNG (by walk_at "tp") ?_); intro tk₉ htk₉; (try dsimp only)))
  (k_with "execs cons" => (k_here; (with_reducible refine execsQ (by walk_at "tp") ?_); intro Q9₉ hQ9₉ tk9₉ htk9₉; (try dsimp only)))
  (k_with "slot" => first | exact Slot.here (by with_reducible assumption) | (refine' Slot.skip ?za₉ ?zb₉ ?zc₉; (case za₉ => first | assumption | k_ne); (case zb₉ => first | assumption | k_ne); (case zc₉ => walk_at "slot")))
  (k_with "getAttr ref" => (k_here; with_reducible (first | (refine' sget_chunk ?F₉ ?X₉ ?N₉ ?S₉ ?_) | (refine' sget_chunkSize ?F₉ ?X₉ ?N₉ ?S₉ ?_) | (refine' sget_chunkOffset ?F₉ ?X₉ ?N₉ ?S₉ ?_) | (refine' sget_errors ?F₉ ?X₉ ?N₉ ?S₉ ?_) | (refine' sget_prevNumLines ?F₉ ?X₉ ?N₉ ?S₉ ?_) | (refine' sget_prevNumCols ?F₉ ?X₉ ?N₉ ?S₉ ?_) | (refine' sget_dataStream ?F₉ ?X₉ ?N₉ ?S₉ ?_) | (refine' sget_reportCharacterErrors ?F₉ ?X₉ ?N₉ ?S₉ ?_) | (refine' sget_text ?F₉ ?X₉ ?N₉ ?S₉ ?_) | (refine' sget_place ?F₉ ?X₉ ?N₉ ?S₉ ?_)); (case F₉ => k_asm); (case X₉ => k_asm); (case N₉ => k_asm); (case S₉ => walk_at "slot"); k_whole; (try dsimp only)))
  (k_with "setAttr ref" => (k_here; with_reducible (first | (refine' sset_chunk ?F₉ ?X₉ (by assumption) ?N₉ ?S₉ ?_) | (refine' sset_chunkSize ?F₉ ?X₉ (by assumption) ?N₉ ?S₉ ?_) | (refine' sset_chunkOffset ?F₉ ?X₉ (by assumption) ?N₉ ?S₉ ?_) | (refine' sset_prevNumLines ?F₉ ?X₉ (by assumption) ?N₉ ?S₉ ?_) | (refine' sset_prevNumCols ?F₉ ?X₉ (by assumption) ?N₉ ?S₉ ?_) | (refine' sset_buffered ?F₉ ?X₉ (by assumption) ?N₉ ?S₉ ?_) | (refine' sset_place ?F₉ ?X₉ (by assumption) ?N₉ ?S₉ ?_)); (case F₉ => k_asm); (case X₉ => k_asm); (case N₉ => k_asm); (case S₉ => walk_at "slot"); k_whole; intro h'₉ F'₉ N'₉; (try dsimp only at N'₉); (try k_sweep)))
  (k_with "getMethod ref" => (k_here; with_reducible (first | (refine' smeth_readChunk ?F₉ ?X₉ ?N₉ ?S₉ ?_) | (refine' smeth_position ?F₉ ?X₉ ?N₉ ?S₉ ?_) | (refine' smeth_char ?F₉ ?X₉ ?N₉ ?S₉ ?_) | (refine' smeth_unget ?F₉ ?X₉ ?N₉ ?S₉ ?_) | (refine' smeth_charsUntil ?F₉ ?X₉ ?N₉ ?S₉ ?_) | (refine' smeth_read ?F₉ ?X₉ ?N₉ ?S₉ ?_) | (refine' smeth_report ?F₉ ?X₉ ?N₉ ?S₉ ?_)); (case F₉ => k_asm); (case X₉ => k_asm); (case N₉ => k_asm); (case S₉ => walk_at "slot"); k_whole))
  (k_with "call ref" => (k_here; (try dsimp only [List.append_nil, List.cons_append, List.nil_append]); (with_reducible show wpAny _ _ (call (Value.ref 141) [_]) _ _ _); k_dflt (refine' readS_t (by assumption) (by assumption) ?B₉ ?F₉ ?X₉ ?N₉ ?S₉ ?I₉ ?T₉ ?hk₉ ?hd₉ ?hu₉ ?_; walk_at "my_args"; (case N₉ => k_asm); (case S₉ => walk_at "slot"); (case I₉ => assumption)); intro σ1₉ b1₉ h'₉ tk'₉ hT'₉ I'₉ o'₉ hf₉ ht₉ F'₉ N'₉; (try dsimp only at N'₉); (try dsimp only); ((cases b1₉) <;> (first | (replace hf₉ := hf₉ rfl; clear ht₉) | (replace ht₉ := ht₉ rfl; clear hf₉))); all_goals (have j1₉ := Inv.size I'₉; have j2₉ := Inv.len I'₉; try k_sweep)))
  (k_with "subscriptTail" => (k_here; (with_reducible show wpAny _ _ (subscriptTail _ _ (Value.str _ _) (Value.int _ _)) _ _ _); (refine it_at (by omega) (by omega) (by omega) ?_); intro c'₉ e'₉; (try dsimp only)))
  (k_with "compareOp In str str" => (k_here; (with_reducible refine in_gt ?_); (try dsimp only)))
  (k_with "getMethod ref" => (k_here; (with_reducible show wpAny _ _ (getMethod (Value.ref _) (PySem.Str.ofString "append") _) _ _ _); k_dflt (refine' listMethod_K ?N₉ ?m₉ PySem.F.slot_list_append PySem.F.type_list_append ?_; (case N₉ => k_asm); (case m₉ => exact List.Mem.head _))))
  (k_with "call builtin:list.append" => (k_here; k_dflt (refine' app_abs ?k1₉ ?k2₉ ?k4₉ ?k3₉ ?_; (case k1₉ => k_asm); (case k2₉ => k_asm); (case k3₉ => exact Upd.head (rv_ne (by assumption) _)); (case k4₉ => omega); k_whole); intro h'₉ F'₉ N'₉; (try k_sweep)))
  (k_with "call builtin:str.join" => (k_here; k_dflt (refine' join_abs ?k1₉ ?k2₉ ?k3₉ ?_; (case k1₉ => k_asm); (case k2₉ => exact List.Mem.head _); (case k3₉ => (first | omega | (rw [flat_snoc, List.length_append, toL_length]; omega))); k_whole); intro y'₉ t'₉ k'₉ e'₉; (try dsimp only)))
  (k_with "subscriptTail" => (k_here; ((with_reducible rename Fr _ _ _ _ => F'₉); (with_reducible rename News _ _ _ _ => N'₉); first | ((with_reducible show wpAny _ _ (subscriptTail _ (Expr.Slice (some _) (some _) none _) (Value.str _ _) _) _ _ _); (refine sl_ss (s := ⟨_, _, _, _, _⟩) (by omega) (by omega) (by omega) F'₉ N'₉ ?_); clear F'₉ N'₉; intro y'₉ h'₉ t'₉ k'₉ e'₉ l'₉ F'₉ N'₉; (try dsimp only)) | ((with_reducible show wpAny _ _ (subscriptTail _ (Expr.Slice (some _) none none _) (Value.str _ _) _) _ _ _); (refine sl_sn (s := ⟨_, _, _, _, _⟩) (by omega) (by omega) F'₉ N'₉ ?_); clear F'₉ N'₉; intro y'₉ h'₉ t'₉ k'₉ e'₉ l'₉ F'₉ N'₉; (try dsimp only)))))
  (k_with "KswEnd" => (with_reducible refine Hold.mk ?_))
  (k_with "exec While" => (with_reducible refine Hold.mk ?_))
  (k_with "exec While Constant cons nil" => (with_reducible refine Hold.mk ?_))
  (k_with "exec While BoolOp cons nil" => (with_reducible refine Hold.mk ?_))
  (k_with "my_steps" => (repeat' (first | (with_reducible refine GoOn.go (by with_reducible assumption) ?_; (try dsimp only)) | (k_unfold; (try dsimp only)) | (k_end; wrow_close) | walk1 | (dsimp only; walk1) | (leave1; (try dsimp only)) | fail "no step")))
  have i1 := I.size
  have i2 := I.off0
  have i3 := I.off1
  have i4 := I.len
  refine wpAny_call ?_
  walk_at "my_enter"
  walk_at "my_steps"
  rename Fr _ _ _ _ => F1
  rename News _ _ _ _ => N1
  rename ∀ p, p ∈ stL _ _ _ _ → _ => l1
  have ap := apart_of l1
  have n1 := Ne.symm ap.1.2.1
  have n2 := Ne.symm ap.1.2.2.2.1
  refine Hold.of ?_
  refine ksw_while (σ := SS × List (Str × Tok) × Nat) (fun c => (_, listOf (strValues c.2.1).toArray c.2.2) :: stL w A c.1 rest) (fun _ => [])
    (fun c => ∃ rc, Inv A c.1 rc ∧ (c.2.1.map fun p => toL p.1).flatten ++ rc.takeWhile (· != 62) = r.takeWhile (· != 62) ∧ rc.dropWhile (· != 62) = r.dropWhile (· != 62) ∧ c.2.1.length + unread A c.1 ≤ unread A σ)
    [Str.ofString "end"] (fun _ => True) (fun c => unread A c.1) (σ, [], 0) F1 N1 ⟨r, I, rfl, rfl, by simp⟩ (fun _ h => nomatch h) trivial ?_
  intro c u h2 tk2 hf _ F2 N2
  obtain ⟨σ2, l, n⟩ := c
  obtain ⟨rc, J, q1, q2, q3⟩ := hf
  clear F1 N1
  dsimp only at J q1 q2 q3 N2 F2
  have j1 := J.size
  have j2 := J.off0
  have j3 := J.off1
  have j4 := J.len
  have lr := I.rlen ht0
  have lf : (l.map fun p => toL p.1).flatten.length ≤ r.length := flat_len q1 (tw_len r)
  (try k_fold)
  walk_at "my_steps"
  rename Fr _ _ _ _ => F3
  rename News _ _ _ _ => N3
  refine Hold.of ?_
  refine ksw_cut (σ := Int × Tok) (fun _ => _) (fun c => [(Str.ofString "end", .int c.1 c.2)]) (fun c => EndAt σ2 c.1) [] (fun c => c.1 = σ2.size ∨ (toL σ2.chunk)[c.1.toNat]? = some 62) (fun c => (σ2.size - c.1).toNat) (σ2.off, σ2.t2) F3 N3
    ⟨Int.le_refl _, by dsimp only; omega, fun k a b => by dsimp only at b; omega⟩ (by kst_all) ?_ ?_
  · intro c u3 h3 tk3 hf F4 N4
    obtain ⟨e, te⟩ := c
    clear F3 N3
    have hf0 := hf
    obtain ⟨a1, a2, a3⟩ := hf
    dsimp only at a1 a2 a3 F4 N4
    (try k_fold)
    walk_at "my_steps"
    · (rename Fr _ _ _ _ => F5); (rename News _ _ _ _ => N5)
      refine Hold.of ?_
      refine ksw_end (e + 1, _) F5 N5 (fun p hp => hp) ⟨by dsimp only; omega, by dsimp only; omega, fun k k1 k2 => ?_⟩ (by kst_all) (fun z h1 _ => by have hne := h1 _ (List.Mem.head _); dsimp only at hne; simp [kstB, hne]) trivial (by dsimp only; omega)
      dsimp only at k2
      by_cases hke : k < e.toNat
      · exact a3 k k1 hke
      · have : k = e.toNat := by omega
        subst this
        exact gt_no (by assumption) (by assumption)
    · exact ⟨(e, te), u3, _, _, rfl, hf0, .inr (gt_yes (by assumption) (by assumption)), F4, N4⟩
    · exact ⟨(e, te), u3, _, _, rfl, hf0, .inl (by dsimp only; omega), F4, N4⟩
  · intro c u3 h3 tk3 hf hx F4 N4
    obtain ⟨e, te⟩ := c
    clear F3 N3
    have hf0 := hf
    obtain ⟨a1, a2, a3⟩ := hf
    dsimp only at a1 a2 a3 F4 N4 hx
    walk_at "my_steps"
    · obtain ⟨z1, z2⟩ := cu_end1 J hf0 (by omega) (by omega) hx q1 q2 (by assumption)
      exact ret σ2 _ _ _ _ z1 z2 (by k_asm) (by walk_at "nd")
    · obtain ⟨z1, z2⟩ := cu_end2 J hf0 (by omega) q1 q2 (by assumption) (by assumption) (by assumption) (by assumption)
      exact ret _ _ _ _ _ z1 z2 (by k_asm) (by walk_at "nd")
    · (rename Fr _ _ _ _ => F5); (rename News _ _ _ _ => N5)
      refine Hold.of ?_
      refine ksw_end (_, _, _) F5 N5 (fun p hp => hp) (cu_end3 J hf0 (by omega) q1 q2 q3 (by assumption) (by assumption) (by assumption)) (fun _ h => nomatch h) ?m2₉ trivial ?m3₉
      case m2₉ =>
        intro z _ h3
        have hz : z ≠ Str.ofString "end" := by
          intro e; subst e; exact absurd h3 (by decide)
        simp [kstB, hz]
      case m3₉ => dsimp only; omega
    · obtain ⟨z1, z2⟩ := cu_end4 (t2 := ?w2₉) J hf0 (by omega) hx q1 q2 (by assumption) (by assumption)
      refine ret _ _ _ _ _ z1 z2 (by k_asm) ?nn₉
      case nn₉ => walk_at "nd"
    · obtain ⟨z1, z2⟩ := cu_end2 J hf0 (by omega) q1 q2 (by assumption) (by assumption) (by assumption) (by assumption)
      exact ret _ _ _ _ _ z1 z2 (by k_asm) (by walk_at "nd")
    · (rename Fr _ _ _ _ => F5); (rename News _ _ _ _ => N5)
      refine Hold.of ?_
      refine ksw_end (_, _, _) F5 N5 (fun p hp => hp) (cu_end3 J hf0 (by omega) q1 q2 q3 (by assumption) (by assumption) (by assumption)) (fun _ h => nomatch h) ?m2₉ trivial ?m3₉
      case m2₉ =>
        intro z _ h3
        have hz : z ≠ Str.ofString "end" := by
          intro e; subst e; exact absurd h3 (by decide)
        simp [kstB, hz]
      case m3₉ => dsimp only; omega
end

end
section -- G4
open PySem.Spec PySem.Calls
/-- what stays of the tokenizer's part of the ledger -/
structure TA where
  A : SA
  t : Nat
  dt : Nat
  q : Nat
  lf : Nat
  u0 : Tok
  u1 : Tok
  u2 : Tok
  u3 : Tok
  u4 : Tok
  u5 : Tok
  u6 : Tok
  u7 : Tok
/-- what turns -/
structure TS where
  σ : SS
  st : Value
  cur : Value
  qs : List Value
  qn : Nat
abbrev dK (w : World) (G : TA) (g : TS) : Obj :=
  dictOf [⟨PyData.keyHash w.params (Str.ofString "stream"), .str (Str.ofString "stream") G.u0, .ref G.A.x⟩,
    ⟨PyData.keyHash w.params (Str.ofString "parser"), .str (Str.ofString "parser") G.u1, .none⟩,
    ⟨PyData.keyHash w.params (Str.ofString "escapeFlag"), .str (Str.ofString "escapeFlag") G.u2, .bool false⟩,
    ⟨PyData.keyHash w.params (Str.ofString "lastFourChars"), .str (Str.ofString "lastFourChars") G.u3, .ref G.lf⟩,
    ⟨PyData.keyHash w.params (Str.ofString "state"), .str (Str.ofString "state") G.u4, g.st⟩,
    ⟨PyData.keyHash w.params (Str.ofString "escape"), .str (Str.ofString "escape") G.u5, .bool false⟩,
    ⟨PyData.keyHash w.params (Str.ofString "currentToken"), .str (Str.ofString "currentToken") G.u6, g.cur⟩,
    ⟨PyData.keyHash w.params (Str.ofString "tokenQueue"), .str (Str.ofString "tokenQueue") G.u7, .ref G.q⟩] 8
/-- the tokenizer's objects and the stream's, ahead of the rest -/
def tkL (w : World) (G : TA) (g : TS) (rest : List (Addr × Obj)) : List (Addr × Obj) :=
  (G.t, instObj 762 G.dt) :: (G.dt, dK w G g) :: (G.q, listOf g.qs.toArray g.qn) :: stL w G.A g.σ rest
structure SepG (G : TA) : Prop where
  s : Sep G.A
  a0 : @Ne Nat G.t G.dt
  a1 : @Ne Nat G.q G.dt
  a2 : @Ne Nat G.A.x G.dt
  a3 : @Ne Nat G.A.dx G.dt
  a4 : @Ne Nat G.A.tx G.dt
  a5 : @Ne Nat G.A.dtx G.dt
  a6 : @Ne Nat G.A.rm G.dt
  a7 : @Ne Nat G.A.er G.dt
  b0 : @Ne Nat G.t G.q
  b2 : @Ne Nat G.A.x G.q
  b3 : @Ne Nat G.A.dx G.q
  b4 : @Ne Nat G.A.tx G.q
  b5 : @Ne Nat G.A.dtx G.q
  b6 : @Ne Nat G.A.rm G.q
  b7 : @Ne Nat G.A.er G.q
  c0 : @Ne Nat G.t G.A.dx
  c1 : @Ne Nat G.t G.A.dtx
/-- an address that no stored object has -/
structure Off (G : TA) (d : Nat) : Prop where
  dt : @Ne Nat d G.dt
  q : @Ne Nat d G.q
  dx : @Ne Nat d G.A.dx
  dtx : @Ne Nat d G.A.dtx
def OffR (G : TA) (l : List (Addr × Obj)) : Prop := ∀ p ∈ l, Off G p.1
theorem OffR.cons {G : TA} {q : Addr × Obj} {l : List (Addr × Obj)} (h : Off G q.1) (r : OffR G l) : OffR G (q :: l) := by
  intro p hp
  rcases List.mem_cons.mp hp with rfl | hp
  · exact h
  · exact r p hp
theorem OffR.app {G : TA} {l r : List (Addr × Obj)} (h : OffR G l) (h' : OffR G r) : OffR G (l ++ r) := fun p hp => (List.mem_append.mp hp).elim (h p) (h' p)
theorem OffR.left {G : TA} {l r : List (Addr × Obj)} (h : OffR G (l ++ r)) : OffR G l := fun p hp => h p (List.mem_append_left _ hp)
theorem OffR.right {G : TA} {l r : List (Addr × Obj)} (h : OffR G (l ++ r)) : OffR G r := fun p hp => h p (List.mem_append_right _ hp)
theorem OffR.nil {G : TA} : OffR G [] := fun _ h => nomatch h
theorem OffR.own {G : TA} {l : List (Addr × Obj)} (h : OffR G l) : OwnOff l [G.dt, G.q, G.A.dx, G.A.dtx] := by
  intro p hp b hb
  have o := h p hp
  simp only [List.mem_cons, List.not_mem_nil, or_false] at hb
  rcases hb with rfl | rfl | rfl | rfl
  · exact o.dt
  · exact o.q
  · exact o.dx
  · exact o.dtx
theorem OffR.own2 {G : TA} {l : List (Addr × Obj)} (h : OffR G l) : OwnOff l [G.A.dx, G.A.dtx] := by
  intro p hp b hb
  have o := h p hp
  simp only [List.mem_cons, List.not_mem_nil, or_false] at hb
  rcases hb with rfl | rfl
  · exact o.dx
  · exact o.dtx
/-- where they lie in a ledger -/
inductive FSlot (w : World) (G : TA) (g : TS) : List (Addr × Obj) → (TS → List (Addr × Obj)) → Prop
  | here {rest : List (Addr × Obj)} (off : OffR G rest) : FSlot w G g (tkL w G g rest) (fun g' => tkL w G g' rest)
  | skip {q : Addr × Obj} {l : List (Addr × Obj)} {f : TS → List (Addr × Obj)} (h : Off G q.1) (S : FSlot w G g l f) : FSlot w G g (q :: l) (fun g' => q :: f g')
theorem FSlot.split {w : World} {G : TA} {g : TS} {l : List (Addr × Obj)} {f : TS → List (Addr × Obj)} (S : FSlot w G g l f) :
    ∃ fr rest, l = fr ++ tkL w G g rest ∧ (∀ g', f g' = fr ++ tkL w G g' rest) ∧ OffR G fr ∧ OffR G rest := by
  induction S with
  | here off => exact ⟨[], _, rfl, fun _ => rfl, .nil, off⟩
  | skip h _ ih =>
    obtain ⟨fr, rest, rfl, e, o1, o2⟩ := ih
    exact ⟨_ :: fr, rest, rfl, fun g' => by show _ :: _ = _; rw [e]; rfl, o1.cons h, o2⟩
theorem newsT_in {w : World} {G : TA} {g : TS} {h₀ h : Heap} {L : Addr} (fr : List (Addr × Obj)) {rest : List (Addr × Obj)} (N : News h₀ L h (fr ++ tkL w G g rest)) : News h₀ L h (tkL w G g (fr ++ rest)) :=
  fun p hp => N p (show p ∈ fr ++ (tkL w G g [] ++ rest) from mem_in (show p ∈ tkL w G g [] ++ (fr ++ rest) from hp))
theorem newsT_out {w : World} {G : TA} {g : TS} {h₀ h : Heap} {L : Addr} (fr : List (Addr × Obj)) {rest : List (Addr × Obj)} (N : News h₀ L h (tkL w G g (fr ++ rest))) : News h₀ L h (fr ++ tkL w G g rest) :=
  fun p hp => N p (show p ∈ tkL w G g [] ++ (fr ++ rest) from mem_in (show p ∈ fr ++ (tkL w G g [] ++ rest) from hp))
theorem Slot.front {w : World} {A : SA} {σ : SS} {l : List (Addr × Obj)} {f : SS → List (Addr × Obj)} (S : Slot w A σ l f) : ∀ fr : List (Addr × Obj), OwnOff fr [A.dx, A.dtx] → Slot w A σ (fr ++ l) (fun σ' => fr ++ f σ')
  | [], _ => S
  | q :: fr, h => .skip (h q (.head _) _ (.head _)) (h q (.head _) _ (.tail _ (.head _))) (Slot.front S fr fun p hp => h p (.tail _ hp))
theorem FSlot.slot {w : World} {G : TA} {g : TS} {l : List (Addr × Obj)} {f : TS → List (Addr × Obj)} (hG : SepG G) (S : FSlot w G g l f) : Slot w G.A g.σ l (fun σ' => f ⟨σ', g.st, g.cur, g.qs, g.qn⟩) := by
  obtain ⟨fr, rest, rfl, e, o1, o2⟩ := S.split
  have ef : (fun σ' => f ⟨σ', g.st, g.cur, g.qs, g.qn⟩) = fun σ' => fr ++ ((G.t, instObj 762 G.dt) :: (G.dt, dK w G g) :: (G.q, listOf g.qs.toArray g.qn) :: stL w G.A σ' rest) := by
    funext σ'; rw [e]; rfl
  rw [ef]
  refine Slot.front (f := fun σ' => (G.t, instObj 762 G.dt) :: (G.dt, dK w G g) :: (G.q, listOf g.qs.toArray g.qn) :: stL w G.A σ' rest) (.skip hG.c0 hG.c1 (.skip hG.a3.symm hG.a5.symm (.skip hG.b3.symm hG.b5.symm (.here o2.own2)))) fr o1.own2
theorem FSlot.mem {w : World} {G : TA} {g : TS} {l : List (Addr × Obj)} {f : TS → List (Addr × Obj)} (S : FSlot w G g l f) : (G.t, instObj 762 G.dt) ∈ l ∧ (G.dt, dK w G g) ∈ l ∧ (G.q, listOf g.qs.toArray g.qn) ∈ l ∧ (G.A.dx, dS w G.A g.σ) ∈ l ∧ (G.A.dtx, dT w G.A g.σ) ∈ l := by
  obtain ⟨fr, rest, rfl, e, o1, o2⟩ := S.split
  exact ⟨List.mem_append_right _ (.head _), List.mem_append_right _ (.tail _ (.head _)), List.mem_append_right _ (.tail _ (.tail _ (.head _))), List.mem_append_right _ (.tail _ (.tail _ (.tail _ (.tail _ (.head _))))), List.mem_append_right _ (.tail _ (.tail _ (.tail _ (.tail _ (.tail _ (.tail _ (.head _)))))))⟩
theorem FSlot.off {w : World} {G : TA} {g : TS} {l : List (Addr × Obj)} {f : TS → List (Addr × Obj)} (S : FSlot w G g l f) {d : Addr} (h : ∀ p ∈ l, p.1 < d) : Off G d := by
  obtain ⟨_, m2, m3, m4, m5⟩ := S.mem
  exact ⟨Nat.ne_of_gt (h _ m2), Nat.ne_of_gt (h _ m3), Nat.ne_of_gt (h _ m4), Nat.ne_of_gt (h _ m5)⟩
section
variable {prog : Program} {w : World} {A' : Around} {h₀ : Heap} {L : Addr} {m : Str → Option Value} {rest : List (Addr × Obj)} {s : Shared} {G : TA} {g : TS} {E : Value → Shared → Prop}
theorem tget_stream {expr : Bool} {Q : Value → Shared → Prop} (F : Fr h₀ L s.heap m) (X : (Mine.hd.heap_1 w.params).In h₀) (N : News h₀ L s.heap (tkL w G g rest)) (h : Q (.ref G.A.x) { s with toks := s.toks + 1 }) :
    wpAny (model prog w) A' (getAttr (.ref G.t) (Str.ofString "stream") expr) Q E s := by
  unfold tkL dK at N
  k_dflt (refine' get_own ?k1 ?k2 ?k3 ?k4 ?k5 ?k6 ?k7 ?k8 ?k9 ?_; (case k1 => k_asm); (case k2 => k_asm); (case k3 => k_inst); (case k4 => k_is); (case k5 => k_is); (case k6 => k_is); (case k7 => k_is); (case k8 => k_get); (case k9 => first | assumption | k_handed); k_whole)
  exact h
theorem tget_state {expr : Bool} {Q : Value → Shared → Prop} (F : Fr h₀ L s.heap m) (X : (Mine.hd.heap_1 w.params).In h₀) (N : News h₀ L s.heap (tkL w G g rest)) (hv : handedIn g.st = true) (h : Q (g.st) { s with toks := s.toks + 1 }) :
    wpAny (model prog w) A' (getAttr (.ref G.t) (Str.ofString "state") expr) Q E s := by
  unfold tkL dK at N
  k_dflt (refine' get_own ?k1 ?k2 ?k3 ?k4 ?k5 ?k6 ?k7 ?k8 ?k9 ?_; (case k1 => k_asm); (case k2 => k_asm); (case k3 => k_inst); (case k4 => k_is); (case k5 => k_is); (case k6 => k_is); (case k7 => k_is); (case k8 => k_get); (case k9 => first | assumption | k_handed); k_whole)
  exact h
theorem tget_currentToken {expr : Bool} {Q : Value → Shared → Prop} (F : Fr h₀ L s.heap m) (X : (Mine.hd.heap_1 w.params).In h₀) (N : News h₀ L s.heap (tkL w G g rest)) (hv : handedIn g.cur = true) (h : Q (g.cur) { s with toks := s.toks + 1 }) :
    wpAny (model prog w) A' (getAttr (.ref G.t) (Str.ofString "currentToken") expr) Q E s := by
  unfold tkL dK at N
  k_dflt (refine' get_own ?k1 ?k2 ?k3 ?k4 ?k5 ?k6 ?k7 ?k8 ?k9 ?_; (case k1 => k_asm); (case k2 => k_asm); (case k3 => k_inst); (case k4 => k_is); (case k5 => k_is); (case k6 => k_is); (case k7 => k_is); (case k8 => k_get); (case k9 => first | assumption | k_handed); k_whole)
  exact h
theorem tget_tokenQueue {expr : Bool} {Q : Value → Shared → Prop} (F : Fr h₀ L s.heap m) (X : (Mine.hd.heap_1 w.params).In h₀) (N : News h₀ L s.heap (tkL w G g rest)) (h : Q (.ref G.q) { s with toks := s.toks + 1 }) :
    wpAny (model prog w) A' (getAttr (.ref G.t) (Str.ofString "tokenQueue") expr) Q E s := by
  unfold tkL dK at N
  k_dflt (refine' get_own ?k1 ?k2 ?k3 ?k4 ?k5 ?k6 ?k7 ?k8 ?k9 ?_; (case k1 => k_asm); (case k2 => k_asm); (case k3 => k_inst); (case k4 => k_is); (case k5 => k_is); (case k6 => k_is); (case k7 => k_is); (case k8 => k_get); (case k9 => first | assumption | k_handed); k_whole)
  exact h
theorem tset_state {v : Value} {Q : Unit → Shared → Prop} (F : Fr h₀ L s.heap m) (X : (Mine.hd.heap_1 w.params).In h₀) (N : News h₀ L s.heap (tkL w G g rest)) (hG : SepG G) (offR : OffR G rest)
    (h : ∀ h', Fr h₀ L h' m → News h₀ L h' (tkL w G ⟨g.σ, v, g.cur, g.qs, g.qn⟩ rest) → Q () { s with heap := h', toks := s.toks + 2 }) :
    wpAny (model prog w) A' (setAttr (.ref G.t) (Str.ofString "state") v) Q E s := by
  unfold tkL dK stL at N h
  have off := offR.own
  obtain ⟨s0, a0, a1, a2, a3, a4, a5, a6, a7, b0, b2, b3, b4, b5, b6, b7, c0, c1⟩ := hG
  k_dflt (refine' set_dict ?k1 ?k2 ?k3 ?k4 ?k5 ?k6 ?k7 ?k8 ?k9 ?k10 ?k11 ?k12 ?k13 ?_; (case k1 => k_asm); (case k2 => k_asm); (case k3 => k_asm); (case k4 => k_inst); (case k5 => exact rfl); (case k6 => k_is); (case k7 => k_is); (case k8 => k_is); (case k9 => k_is); (case k10 => k_get); (case k11 => k_put); (case k12 => k_upd); (case k13 => exact Nat.le_of_ble_eq_true rfl); k_whole)
  exact h
theorem tset_currentToken {v : Value} {Q : Unit → Shared → Prop} (F : Fr h₀ L s.heap m) (X : (Mine.hd.heap_1 w.params).In h₀) (N : News h₀ L s.heap (tkL w G g rest)) (hG : SepG G) (offR : OffR G rest)
    (h : ∀ h', Fr h₀ L h' m → News h₀ L h' (tkL w G ⟨g.σ, g.st, v, g.qs, g.qn⟩ rest) → Q () { s with heap := h', toks := s.toks + 2 }) :
    wpAny (model prog w) A' (setAttr (.ref G.t) (Str.ofString "currentToken") v) Q E s := by
  unfold tkL dK stL at N h
  have off := offR.own
  obtain ⟨s0, a0, a1, a2, a3, a4, a5, a6, a7, b0, b2, b3, b4, b5, b6, b7, c0, c1⟩ := hG
  k_dflt (refine' set_dict ?k1 ?k2 ?k3 ?k4 ?k5 ?k6 ?k7 ?k8 ?k9 ?k10 ?k11 ?k12 ?k13 ?_; (case k1 => k_asm); (case k2 => k_asm); (case k3 => k_asm); (case k4 => k_inst); (case k5 => exact rfl); (case k6 => k_is); (case k7 => k_is); (case k8 => k_is); (case k9 => k_is); (case k10 => k_get); (case k11 => k_put); (case k12 => k_upd); (case k13 => exact Nat.le_of_ble_eq_true rfl); k_whole)
  exact h
theorem tapp {v : Value} {Q : Value → Shared → Prop} (F : Fr h₀ L s.heap m) (X : (Mine.hd.heap_1 w.params).In h₀) (N : News h₀ L s.heap (tkL w G g rest)) (hG : SepG G) (offR : OffR G rest) (hl : g.qs.length ≤ 1000)
    (h : ∀ h', Fr h₀ L h' m → News h₀ L h' (tkL w G ⟨g.σ, g.st, g.cur, g.qs ++ [v], g.qn + 1⟩ rest) → Q .none { s with heap := h' }) :
    wpAny (model prog w) A' (call (.builtin "list.append") [.ref G.q, v]) Q E s := by
  have e : (g.qs ++ [v]).toArray = g.qs.toArray.push v := by simp
  unfold tkL dK stL at N h
  dsimp only at h
  rw [e] at h
  have off := offR.own
  obtain ⟨s0, a0, a1, a2, a3, a4, a5, a6, a7, b0, b2, b3, b4, b5, b6, b7, c0, c1⟩ := hG
  have a1' := a1.symm
  refine append_K (D := G.q) (its := g.qs.toArray) (n := g.qn) F N ?U h ?z
  case z => rw [sizeLine_eq, List.size_toArray]; omega
  case U => k_upd
theorem tmeth_markupDeclarationOpenState {pl : Sem Bool} {Q : Value × List Value → Shared → Prop} (F : Fr h₀ L s.heap m) (X : (Mine.hd.heap_1 w.params).In h₀) (N : News h₀ L s.heap (tkL w G g rest)) (h : Q (.ref 605, [.ref G.t]) s) :
    wpAny (model prog w) A' (getMethod (.ref G.t) (Str.ofString "markupDeclarationOpenState") pl) Q E s := by
  unfold tkL dK at N
  k_dflt (refine' method_inst ?k1 ?k2 ?k3 ?k4 ?k5 ?k6 ?k7 ?_; (case k1 => k_asm); (case k2 => k_asm); (case k3 => k_inst); (case k4 => k_is); (case k5 => k_is); (case k6 => k_is); (case k7 => k_get); k_whole)
  exact h
theorem tmeth_closeTagOpenState {pl : Sem Bool} {Q : Value × List Value → Shared → Prop} (F : Fr h₀ L s.heap m) (X : (Mine.hd.heap_1 w.params).In h₀) (N : News h₀ L s.heap (tkL w G g rest)) (h : Q (.ref 360, [.ref G.t]) s) :
    wpAny (model prog w) A' (getMethod (.ref G.t) (Str.ofString "closeTagOpenState") pl) Q E s := by
  unfold tkL dK at N
  k_dflt (refine' method_inst ?k1 ?k2 ?k3 ?k4 ?k5 ?k6 ?k7 ?_; (case k1 => k_asm); (case k2 => k_asm); (case k3 => k_inst); (case k4 => k_is); (case k5 => k_is); (case k6 => k_is); (case k7 => k_get); k_whole)
  exact h
theorem tmeth_tagOpenState {pl : Sem Bool} {Q : Value × List Value → Shared → Prop} (F : Fr h₀ L s.heap m) (X : (Mine.hd.heap_1 w.params).In h₀) (N : News h₀ L s.heap (tkL w G g rest)) (h : Q (.ref 353, [.ref G.t]) s) :
    wpAny (model prog w) A' (getMethod (.ref G.t) (Str.ofString "tagOpenState") pl) Q E s := by
  unfold tkL dK at N
  k_dflt (refine' method_inst ?k1 ?k2 ?k3 ?k4 ?k5 ?k6 ?k7 ?_; (case k1 => k_asm); (case k2 => k_asm); (case k3 => k_inst); (case k4 => k_is); (case k5 => k_is); (case k6 => k_is); (case k7 => k_get); k_whole)
  exact h
theorem tmeth_bogusCommentState {pl : Sem Bool} {Q : Value × List Value → Shared → Prop} (F : Fr h₀ L s.heap m) (X : (Mine.hd.heap_1 w.params).In h₀) (N : News h₀ L s.heap (tkL w G g rest)) (h : Q (.ref 598, [.ref G.t]) s) :
    wpAny (model prog w) A' (getMethod (.ref G.t) (Str.ofString "bogusCommentState") pl) Q E s := by
  unfold tkL dK at N
  k_dflt (refine' method_inst ?k1 ?k2 ?k3 ?k4 ?k5 ?k6 ?k7 ?_; (case k1 => k_asm); (case k2 => k_asm); (case k3 => k_inst); (case k4 => k_is); (case k5 => k_is); (case k6 => k_is); (case k7 => k_get); k_whole)
  exact h
end
section
variable {prog : Program} {w : World} {A' : Around} {h₀ : Heap} {L : Addr} {m : Str → Option Value} {news : List (Addr × Obj)} {f : TS → List (Addr × Obj)} {s : Shared} {G : TA} {g : TS} {E : Value → Shared → Prop}
theorem FSlot.get (S : FSlot w G g news f) (N : News h₀ L s.heap news) : ∃ rest, News h₀ L s.heap (tkL w G g rest) := by
  obtain ⟨fr, rest, rfl, _, _, _⟩ := S.split
  exact ⟨rest, fun p hp => N p (List.mem_append_right _ hp)⟩
theorem fget_stream {expr : Bool} {Q : Value → Shared → Prop} (F : Fr h₀ L s.heap m) (X : (Mine.hd.heap_1 w.params).In h₀) (N : News h₀ L s.heap news) (S : FSlot w G g news f) (h : Q (.ref G.A.x) { s with toks := s.toks + 1 }) :
    wpAny (model prog w) A' (getAttr (.ref G.t) (Str.ofString "stream") expr) Q E s := let ⟨_, N'⟩ := S.get N; tget_stream F X N' h
theorem fget_state {expr : Bool} {Q : Value → Shared → Prop} (F : Fr h₀ L s.heap m) (X : (Mine.hd.heap_1 w.params).In h₀) (N : News h₀ L s.heap news) (S : FSlot w G g news f) (hv : handedIn g.st = true) (h : Q (g.st) { s with toks := s.toks + 1 }) :
    wpAny (model prog w) A' (getAttr (.ref G.t) (Str.ofString "state") expr) Q E s := let ⟨_, N'⟩ := S.get N; tget_state F X N' hv h
theorem fget_currentToken {expr : Bool} {Q : Value → Shared → Prop} (F : Fr h₀ L s.heap m) (X : (Mine.hd.heap_1 w.params).In h₀) (N : News h₀ L s.heap news) (S : FSlot w G g news f) (hv : handedIn g.cur = true) (h : Q (g.cur) { s with toks := s.toks + 1 }) :
    wpAny (model prog w) A' (getAttr (.ref G.t) (Str.ofString "currentToken") expr) Q E s := let ⟨_, N'⟩ := S.get N; tget_currentToken F X N' hv h
theorem fget_tokenQueue {expr : Bool} {Q : Value → Shared → Prop} (F : Fr h₀ L s.heap m) (X : (Mine.hd.heap_1 w.params).In h₀) (N : News h₀ L s.heap news) (S : FSlot w G g news f) (h : Q (.ref G.q) { s with toks := s.toks + 1 }) :
    wpAny (model prog w) A' (getAttr (.ref G.t) (Str.ofString "tokenQueue") expr) Q E s := let ⟨_, N'⟩ := S.get N; tget_tokenQueue F X N' h
theorem fset_state {v : Value} {Q : Unit → Shared → Prop} (F : Fr h₀ L s.heap m) (X : (Mine.hd.heap_1 w.params).In h₀) (N : News h₀ L s.heap news) (S : FSlot w G g news f) (hG : SepG G)
    (h : ∀ h', Fr h₀ L h' m → News h₀ L h' (f ⟨g.σ, v, g.cur, g.qs, g.qn⟩) → Q () { s with heap := h', toks := s.toks + 2 }) :
    wpAny (model prog w) A' (setAttr (.ref G.t) (Str.ofString "state") v) Q E s := by
  obtain ⟨fr, rest, rfl, e, o1, o2⟩ := S.split
  exact tset_state F X (newsT_in fr N) hG (o1.app o2) fun h' F' N' => h h' F' (by rw [e]; exact newsT_out fr N')
theorem fset_currentToken {v : Value} {Q : Unit → Shared → Prop} (F : Fr h₀ L s.heap m) (X : (Mine.hd.heap_1 w.params).In h₀) (N : News h₀ L s.heap news) (S : FSlot w G g news f) (hG : SepG G)
    (h : ∀ h', Fr h₀ L h' m → News h₀ L h' (f ⟨g.σ, g.st, v, g.qs, g.qn⟩) → Q () { s with heap := h', toks := s.toks + 2 }) :
    wpAny (model prog w) A' (setAttr (.ref G.t) (Str.ofString "currentToken") v) Q E s := by
  obtain ⟨fr, rest, rfl, e, o1, o2⟩ := S.split
  exact tset_currentToken F X (newsT_in fr N) hG (o1.app o2) fun h' F' N' => h h' F' (by rw [e]; exact newsT_out fr N')
theorem fapp {v : Value} {Q : Value → Shared → Prop} (F : Fr h₀ L s.heap m) (X : (Mine.hd.heap_1 w.params).In h₀) (N : News h₀ L s.heap news) (S : FSlot w G g news f) (hG : SepG G) (hl : g.qs.length ≤ 1000)
    (h : ∀ h', Fr h₀ L h' m → News h₀ L h' (f ⟨g.σ, g.st, g.cur, g.qs ++ [v], g.qn + 1⟩) → Q .none { s with heap := h' }) :
    wpAny (model prog w) A' (call (.builtin "list.append") [.ref G.q, v]) Q E s := by
  obtain ⟨fr, rest, rfl, e, o1, o2⟩ := S.split
  exact tapp F X (newsT_in fr N) hG (o1.app o2) hl fun h' F' N' => h h' F' (by rw [e]; exact newsT_out fr N')
theorem fmeth_markupDeclarationOpenState {pl : Sem Bool} {Q : Value × List Value → Shared → Prop} (F : Fr h₀ L s.heap m) (X : (Mine.hd.heap_1 w.params).In h₀) (N : News h₀ L s.heap news) (S : FSlot w G g news f) (h : Q (.ref 605, [.ref G.t]) s) :
    wpAny (model prog w) A' (getMethod (.ref G.t) (Str.ofString "markupDeclarationOpenState") pl) Q E s := let ⟨_, N'⟩ := S.get N; tmeth_markupDeclarationOpenState F X N' h
theorem fmeth_closeTagOpenState {pl : Sem Bool} {Q : Value × List Value → Shared → Prop} (F : Fr h₀ L s.heap m) (X : (Mine.hd.heap_1 w.params).In h₀) (N : News h₀ L s.heap news) (S : FSlot w G g news f) (h : Q (.ref 360, [.ref G.t]) s) :
    wpAny (model prog w) A' (getMethod (.ref G.t) (Str.ofString "closeTagOpenState") pl) Q E s := let ⟨_, N'⟩ := S.get N; tmeth_closeTagOpenState F X N' h
theorem fmeth_tagOpenState {pl : Sem Bool} {Q : Value × List Value → Shared → Prop} (F : Fr h₀ L s.heap m) (X : (Mine.hd.heap_1 w.params).In h₀) (N : News h₀ L s.heap news) (S : FSlot w G g news f) (h : Q (.ref 353, [.ref G.t]) s) :
    wpAny (model prog w) A' (getMethod (.ref G.t) (Str.ofString "tagOpenState") pl) Q E s := let ⟨_, N'⟩ := S.get N; tmeth_tagOpenState F X N' h
theorem fmeth_bogusCommentState {pl : Sem Bool} {Q : Value × List Value → Shared → Prop} (F : Fr h₀ L s.heap m) (X : (Mine.hd.heap_1 w.params).In h₀) (N : News h₀ L s.heap news) (S : FSlot w G g news f) (h : Q (.ref 598, [.ref G.t]) s) :
    wpAny (model prog w) A' (getMethod (.ref G.t) (Str.ofString "bogusCommentState") pl) Q E s := let ⟨_, N'⟩ := S.get N; tmeth_bogusCommentState F X N' h
theorem fmeth_append {pl : Sem Bool} {Q : Value × List Value → Shared → Prop} (X : (Mine.hd.heap_1 w.params).In h₀) (N : News h₀ L s.heap news) (S : FSlot w G g news f) (h : Q (.builtin "list.append", [.ref G.q]) s) :
    wpAny (model prog w) A' (getMethod (.ref G.q) (Str.ofString "append") pl) Q E s :=
  listMethod_K N S.mem.2.2.1 PySem.F.slot_list_append PySem.F.type_list_append h
theorem fbound_markupDeclarationOpenState {expr : Bool} {Q : Value → Shared → Prop} (F : Fr h₀ L s.heap m) (X : (Mine.hd.heap_1 w.params).In h₀) (N : News h₀ L s.heap news) (S : FSlot w G g news f) (h : ∀ q h', Fr h₀ L h' m → News h₀ L h' news → Q (.ref q) { s with heap := h', toks := s.toks + 1 }) :
    wpAny (model prog w) A' (getAttr (.ref G.t) (Str.ofString "markupDeclarationOpenState") expr) Q E s := by
  obtain ⟨rest, N'⟩ := S.get N
  unfold tkL dK at N'
  k_dflt (refine' kbm_bound ?k1 ?k2 N ?k4 ?k5 ?k6 ?k7 ?k8 ?k9 ?k10 ?k11 ?k12 ?_; (case k4 => k_inst); (case k1 => k_asm); (case k2 => k_asm); (case k7 => k_is); (case k5 => k_is); (case k6 => k_is); (case k8 => k_is); (case k9 => k_is); (case k10 => k_is); (case k11 => decide +kernel); (case k12 => k_get); k_whole)
  intro q h' F1 N1 _
  exact h q h' F1 (nd1 N1)
theorem fbound_closeTagOpenState {expr : Bool} {Q : Value → Shared → Prop} (F : Fr h₀ L s.heap m) (X : (Mine.hd.heap_1 w.params).In h₀) (N : News h₀ L s.heap news) (S : FSlot w G g news f) (h : ∀ q h', Fr h₀ L h' m → News h₀ L h' news → Q (.ref q) { s with heap := h', toks := s.toks + 1 }) :
    wpAny (model prog w) A' (getAttr (.ref G.t) (Str.ofString "closeTagOpenState") expr) Q E s := by
  obtain ⟨rest, N'⟩ := S.get N
  unfold tkL dK at N'
  k_dflt (refine' kbm_bound ?k1 ?k2 N ?k4 ?k5 ?k6 ?k7 ?k8 ?k9 ?k10 ?k11 ?k12 ?_; (case k4 => k_inst); (case k1 => k_asm); (case k2 => k_asm); (case k7 => k_is); (case k5 => k_is); (case k6 => k_is); (case k8 => k_is); (case k9 => k_is); (case k10 => k_is); (case k11 => decide +kernel); (case k12 => k_get); k_whole)
  intro q h' F1 N1 _
  exact h q h' F1 (nd1 N1)
theorem fbound_tagNameState {expr : Bool} {Q : Value → Shared → Prop} (F : Fr h₀ L s.heap m) (X : (Mine.hd.heap_1 w.params).In h₀) (N : News h₀ L s.heap news) (S : FSlot w G g news f) (h : ∀ q h', Fr h₀ L h' m → News h₀ L h' news → Q (.ref q) { s with heap := h', toks := s.toks + 1 }) :
    wpAny (model prog w) A' (getAttr (.ref G.t) (Str.ofString "tagNameState") expr) Q E s := by
  obtain ⟨rest, N'⟩ := S.get N
  unfold tkL dK at N'
  k_dflt (refine' kbm_bound ?k1 ?k2 N ?k4 ?k5 ?k6 ?k7 ?k8 ?k9 ?k10 ?k11 ?k12 ?_; (case k4 => k_inst); (case k1 => k_asm); (case k2 => k_asm); (case k7 => k_is); (case k5 => k_is); (case k6 => k_is); (case k8 => k_is); (case k9 => k_is); (case k10 => k_is); (case k11 => decide +kernel); (case k12 => k_get); k_whole)
  intro q h' F1 N1 _
  exact h q h' F1 (nd1 N1)
theorem fbound_bogusCommentState {expr : Bool} {Q : Value → Shared → Prop} (F : Fr h₀ L s.heap m) (X : (Mine.hd.heap_1 w.params).In h₀) (N : News h₀ L s.heap news) (S : FSlot w G g news f) (h : ∀ q h', Fr h₀ L h' m → News h₀ L h' news → Q (.ref q) { s with heap := h', toks := s.toks + 1 }) :
    wpAny (model prog w) A' (getAttr (.ref G.t) (Str.ofString "bogusCommentState") expr) Q E s := by
  obtain ⟨rest, N'⟩ := S.get N
  unfold tkL dK at N'
  k_dflt (refine' kbm_bound ?k1 ?k2 N ?k4 ?k5 ?k6 ?k7 ?k8 ?k9 ?k10 ?k11 ?k12 ?_; (case k4 => k_inst); (case k1 => k_asm); (case k2 => k_asm); (case k7 => k_is); (case k5 => k_is); (case k6 => k_is); (case k8 => k_is); (case k9 => k_is); (case k10 => k_is); (case k11 => decide +kernel); (case k12 => k_get); k_whole)
  intro q h' F1 N1 _
  exact h q h' F1 (nd1 N1)
theorem fbound_dataState {expr : Bool} {Q : Value → Shared → Prop} (F : Fr h₀ L s.heap m) (X : (Mine.hd.heap_1 w.params).In h₀) (N : News h₀ L s.heap news) (S : FSlot w G g news f) (h : ∀ q h', Fr h₀ L h' m → News h₀ L h' news → Q (.ref q) { s with heap := h', toks := s.toks + 1 }) :
    wpAny (model prog w) A' (getAttr (.ref G.t) (Str.ofString "dataState") expr) Q E s := by
  obtain ⟨rest, N'⟩ := S.get N
  unfold tkL dK at N'
  k_dflt (refine' kbm_bound ?k1 ?k2 N ?k4 ?k5 ?k6 ?k7 ?k8 ?k9 ?k10 ?k11 ?k12 ?_; (case k4 => k_inst); (case k1 => k_asm); (case k2 => k_asm); (case k7 => k_is); (case k5 => k_is); (case k6 => k_is); (case k8 => k_is); (case k9 => k_is); (case k10 => k_is); (case k11 => decide +kernel); (case k12 => k_get); k_whole)
  intro q h' F1 N1 _
  exact h q h' F1 (nd1 N1)
theorem fbound_commentStartState {expr : Bool} {Q : Value → Shared → Prop} (F : Fr h₀ L s.heap m) (X : (Mine.hd.heap_1 w.params).In h₀) (N : News h₀ L s.heap news) (S : FSlot w G g news f) (h : ∀ q h', Fr h₀ L h' m → News h₀ L h' news → Q (.ref q) { s with heap := h', toks := s.toks + 1 }) :
    wpAny (model prog w) A' (getAttr (.ref G.t) (Str.ofString "commentStartState") expr) Q E s := by
  obtain ⟨rest, N'⟩ := S.get N
  unfold tkL dK at N'
  k_dflt (refine' kbm_bound ?k1 ?k2 N ?k4 ?k5 ?k6 ?k7 ?k8 ?k9 ?k10 ?k11 ?k12 ?_; (case k4 => k_inst); (case k1 => k_asm); (case k2 => k_asm); (case k7 => k_is); (case k5 => k_is); (case k6 => k_is); (case k8 => k_is); (case k9 => k_is); (case k10 => k_is); (case k11 => decide +kernel); (case k12 => k_get); k_whole)
  intro q h' F1 N1 _
  exact h q h' F1 (nd1 N1)
theorem fbound_doctypeState {expr : Bool} {Q : Value → Shared → Prop} (F : Fr h₀ L s.heap m) (X : (Mine.hd.heap_1 w.params).In h₀) (N : News h₀ L s.heap news) (S : FSlot w G g news f) (h : ∀ q h', Fr h₀ L h' m → News h₀ L h' news → Q (.ref q) { s with heap := h', toks := s.toks + 1 }) :
    wpAny (model prog w) A' (getAttr (.ref G.t) (Str.ofString "doctypeState") expr) Q E s := by
  obtain ⟨rest, N'⟩ := S.get N
  unfold tkL dK at N'
  k_dflt (refine' kbm_bound ?k1 ?k2 N ?k4 ?k5 ?k6 ?k7 ?k8 ?k9 ?k10 ?k11 ?k12 ?_; (case k4 => k_inst); (case k1 => k_asm); (case k2 => k_asm); (case k7 => k_is); (case k5 => k_is); (case k6 => k_is); (case k8 => k_is); (case k9 => k_is); (case k10 => k_is); (case k11 => decide +kernel); (case k12 => k_get); k_whole)
  intro q h' F1 N1 _
  exact h q h' F1 (nd1 N1)
end

end
section -- T1
open PySem.Spec PySem.Calls
section
variable {prog : Program} {w : World} {p : Program} {loose : List Str} {mean : ExcName → Option Value} {mg mb : Str → Option Value}
   {dp un : Nat} {gd : Option (List Code)} {cn : Str} {cs : Scope} {a : Addr} {ccd : Value} {cl : List (Str × Addr)} {outer : List Env} {A₀ : Around} {base h₀ : Heap} {L : Addr} {m : Str → Option Value} {rest : List (Addr × Obj)} {s : Shared}
    {Q E : Value → Shared → Prop}
/-- the stream's calls, wherever the tokenizer's part lies -/
theorem charF_t {G : TA} {g : TS} {r : List Nat} {news : List (Addr × Obj)} {f : TS → List (Addr × Obj)} (hG : SepG G) (tk : TxtOk G.A)
    (B : Below A₀ base outer h₀) (F : Fr h₀ L s.heap m) (X : (Mine.hd.heap_1 w.params).In h₀)
    (N : News h₀ L s.heap news) (S : FSlot w G g news f) (I : Inv G.A g.σ r)
    (T : Top p loose mean mg mb h₀) (hk : cs.kind = .function) (hd : dp + 30 < recursionLimit) (hu : un + 300 < cLine)
    (ret : ∀ σ' v h' tk', TP tk' → CharPost G.A g.σ r v σ' → Fr h₀ L h' m → News h₀ L h' (f ⟨σ', g.st, g.cur, g.qs, g.qn⟩) → Q v { s with heap := h', toks := tk' }) :
    wpAny (model prog w) (ktrTop dp un gd cn cs L a ccd cl outer) (call (.ref 133) [.ref G.A.x]) Q E s := by
  obtain ⟨fr, rest, rfl, e, off⟩ := (S.slot hG).split
  refine charS_t hG.s tk I B F X (news_in fr N) off T hk hd hu fun σ' v h' tk' t1 t2 F' N' => ret σ' v h' tk' t1 t2 F' ?_
  have e' := e σ'
  rw [e']; exact news_out fr N'
theorem ungetF_t {G : TA} {g : TS} {r st : List Nat} {c : Nat} {tc : Tok} {news : List (Addr × Obj)} {f : TS → List (Addr × Obj)} (hG : SepG G)
    (B : Below A₀ base outer h₀) (F : Fr h₀ L s.heap m) (X : (Mine.hd.heap_1 w.params).In h₀)
    (N : News h₀ L s.heap news) (S : FSlot w G g news f) (I : Inv G.A g.σ r) (hb : Back g.σ (c :: st)) (hl : r.length + 1 ≤ 2000)
    (T : Top p loose mean mg mb h₀) (hk : cs.kind = .function) (hd : dp + 30 < recursionLimit) (hu : un + 300 < cLine)
    (ret : ∀ σ' h' tk', TP tk' → UngetPost G.A c r st σ' → Fr h₀ L h' m → News h₀ L h' (f ⟨σ', g.st, g.cur, g.qs, g.qn⟩) → Q .none { s with heap := h', toks := tk' }) :
    wpAny (model prog w) (ktrTop dp un gd cn cs L a ccd cl outer) (call (.ref 163) [.ref G.A.x, .str ⟨#[c]⟩ tc]) Q E s := by
  obtain ⟨fr, rest, rfl, e, off⟩ := (S.slot hG).split
  refine unget_t hG.s I hb hl B F X (news_in fr N) off T hk hd hu fun σ' h' tk' t1 t2 F' N' => ret σ' h' tk' t1 t2 F' ?_
  have e' := e σ'
  rw [e']; exact news_out fr N'
theorem untilF_t {G : TA} {g : TS} {r : List Nat} {tg : Tok} {news : List (Addr × Obj)} {f : TS → List (Addr × Obj)} (hG : SepG G) (tk : TxtOk G.A)
    (B : Below A₀ base outer h₀) (F : Fr h₀ L s.heap m) (X : (Mine.hd.heap_1 w.params).In h₀)
    (N : News h₀ L s.heap news) (S : FSlot w G g news f) (I : Inv G.A g.σ r)
    (T : Top p loose mean mg mb h₀) (hk : cs.kind = .function) (hd : dp + 30 < recursionLimit) (hu : un + 300 < cLine)
    (ret : ∀ σ' y t' h' tk', toL y = r.takeWhile (· != 62) → Inv G.A σ' (r.dropWhile (· != 62)) → Fr h₀ L h' m → News h₀ L h' (f ⟨σ', g.st, g.cur, g.qs, g.qn⟩) → Q (.str y t') { s with heap := h', toks := tk' }) :
    wpAny (model prog w) (ktrTop dp un gd cn cs L a ccd cl outer) (call (.ref 156) [.ref G.A.x, .str (Str.ofString ">") tg]) Q E s := by
  obtain ⟨fr, rest, rfl, e, off⟩ := (S.slot hG).split
  refine charsUntil_t hG.s tk I B F X (news_in fr N) off T hk hd hu fun σ' y t' h' tk' t1 t2 F' N' => ret σ' y t' h' tk' t1 t2 F' ?_
  have e' := e σ'
  rw [e']; exact news_out fr N'
end

end
section -- Q2
open PySem.Spec PySem.Calls PySem.SeqAt
/-- the data of a token's field, of a token -/
inductive FD
  | none
  | int (i : Int)
  | str (x : Str)
  | bool (b : Bool)
  | nil
inductive MD
  | leaf (f : FD)
  | dic (ps : List (Str × FD))
abbrev DD := List (Str × MD)
def RepF (own : List (Addr × Obj)) (v : Value) : FD → Prop
  | .none => v = .none
  | .int i => ∃ t, v = .int i t
  | .str x => ∃ t, v = .str x t
  | .bool b => v = .bool b
  | .nil => ∃ l n, v = .ref l ∧ (l, listOf #[] n) ∈ own
def RepD (prog : Program) (w : World) {α : Type} (R : Value → α → Prop) (own : List (Addr × Obj)) (v : Value) (ps : List (Str × α)) : Prop :=
  ∃ a o kvs, v = .ref a ∧ (a, o) ∈ own ∧ (a == sysModules) = false ∧ o.IsDictOf (strKind prog w) kvs ∧ All2 (fun x y => x.1 = y.1 ∧ R x.2 y.2) kvs ps
def RepM (prog : Program) (w : World) (own : List (Addr × Obj)) (v : Value) : MD → Prop
  | .leaf f => RepF own v f
  | .dic ps => RepD prog w (RepF own) own v ps
def RepT (prog : Program) (w : World) (own : List (Addr × Obj)) (v : Value) (ps : DD) : Prop := RepD prog w (RepM prog w own) own v ps
def RepC (prog : Program) (w : World) (own : List (Addr × Obj)) (v : Value) : Option DD → Prop
  | none => v = .none
  | some ps => RepT prog w own v ps
section
variable {prog : Program} {w : World} {own own' : List (Addr × Obj)} {v y : Value}
theorem RepF.sub (h : ∀ p ∈ own, p ∈ own') : ∀ {f : FD}, RepF own v f → RepF own' v f
  | .none, r => r
  | .int _, r => r
  | .str _, r => r
  | .bool _, r => r
  | .nil, ⟨l, n, e, m⟩ => ⟨l, n, e, h _ m⟩
theorem RepD.sub {α : Type} {R R' : Value → α → Prop} (h : ∀ p ∈ own, p ∈ own') (f : ∀ v d, R v d → R' v d) {ps : List (Str × α)} : RepD prog w R own v ps → RepD prog w R' own' v ps
  | ⟨a, o, kvs, e, m, l, d, p⟩ => ⟨a, o, kvs, e, h _ m, l, d, p.imp fun _ _ x => ⟨x.1, f _ _ x.2⟩⟩
theorem RepM.sub (h : ∀ p ∈ own, p ∈ own') : ∀ {d : MD}, RepM prog w own v d → RepM prog w own' v d
  | .leaf _, r => RepF.sub h r
  | .dic _, r => RepD.sub (R := RepF own) (R' := RepF own') h (fun _ _ x => RepF.sub h x) (show RepD prog w (RepF own) own v _ from r)
theorem RepT.sub (h : ∀ p ∈ own, p ∈ own') {ps : DD} (r : RepT prog w own v ps) : RepT prog w own' v ps := RepD.sub (R := RepM prog w own) (R' := RepM prog w own') h (fun _ _ x => RepM.sub h x) r
theorem RepC.sub (h : ∀ p ∈ own, p ∈ own') : ∀ {c : Option DD}, RepC prog w own v c → RepC prog w own' v c
  | none, r => r
  | some _, r => RepT.sub h r
variable {h₀ : Heap} {L : Addr} {s : Shared}
theorem repF_eq (N : News h₀ L s.heap own) (N' : News h₀ L s.heap own') : ∀ {f : FD}, RepF own v f → RepF own' y f → EqW prog w 1 s v y
  | .none, h, h' => by
    have h : v = .none := h
    have h' : y = .none := h'
    subst h h'; exact eqw_at fun A => EqAt.same _
  | .int i, ⟨t, h⟩, ⟨t', h'⟩ => by subst h h'; exact eqw_at fun A => by simpa using EqAt.int_int (A := A) (s := s) i t i t'
  | .str x, ⟨t, h⟩, ⟨t', h'⟩ => by subst h h'; exact eqw_at fun A => by simpa using EqAt.str_str (A := A) (s := s) x t x t'
  | .bool b, h, h' => by
    have h : v = .bool b := h
    have h' : y = .bool b := h'
    subst h h'; exact eqw_at fun A => EqAt.same _
  | .nil, ⟨l, n, h, m⟩, ⟨l', n', h', m'⟩ => by
    subst h h'
    refine eqw_of_ne fun _ A E Q hu hq => ?_
    refine RcAt.lists (e := fun _ => true) ⟨_, (N _ m).1, rfl, n, rfl⟩ ⟨_, (N' _ m').1, rfl, n', rfl⟩ rfl (by omega) (fun j h1 _ => absurd h1 (Nat.not_lt_zero _)) prog w E Q ?_
    simpa using hq
theorem repD_eq {α : Type} {k : Nat} {R R' : Value → α → Prop} (N : News h₀ L s.heap own) (N' : News h₀ L s.heap own') (f : ∀ v y d, R v d → R' y d → EqW prog w k s v y) {ps : List (Str × α)} (r : RepD prog w R own v ps) (r' : RepD prog w R' own' y ps) :
    ∃ a b ka kb, v = .ref a ∧ y = .ref b ∧ (a == sysModules) = false ∧ (b == sysModules) = false ∧ s.heap.DictOf (strKind prog w) a ka ∧ s.heap.DictOf (strKind prog w) b kb ∧ All2 (fun x y => x.1 = y.1 ∧ EqW prog w k s x.2 y.2) ka kb := by
  obtain ⟨a, o, ka, e, m, l, d, p⟩ := r
  obtain ⟨b, o', kb, e', m', l', d', p'⟩ := r'
  exact ⟨a, b, ka, kb, e, e', l, l', Heap.dictOf_iff.mpr ⟨o, (N _ m).1, d⟩, Heap.dictOf_iff.mpr ⟨o', (N' _ m').1, d'⟩, p.meet (fun _ _ _ h h' => ⟨h.1.trans h'.1.symm, f _ _ _ h.2 h'.2⟩) p'⟩
theorem repM_eq (N : News h₀ L s.heap own) (N' : News h₀ L s.heap own') : ∀ {d : MD}, RepM prog w own v d → RepM prog w own' y d → EqW prog w 2 s v y
  | .leaf _, h, h' => (repF_eq N N' h h').le (by omega)
  | .dic _, h, h' => by
    obtain ⟨a, b, ka, kb, rfl, rfl, l, l', d, d', p⟩ := repD_eq (prog := prog) (w := w) (R := RepF own) (R' := RepF own') N N' (fun _ _ _ => repF_eq N N') (show RepD prog w (RepF own) own v _ from h) (show RepD prog w (RepF own') own' y _ from h')
    exact eqw_dicts l l' d d' p
theorem repT_eq (N : News h₀ L s.heap own) (N' : News h₀ L s.heap own') {ps : DD} (h : RepT prog w own v ps) (h' : RepT prog w own' y ps) : EqW prog w 3 s v y := by
  obtain ⟨a, b, ka, kb, rfl, rfl, l, l', d, d', p⟩ := repD_eq (prog := prog) (w := w) (R := RepM prog w own) (R' := RepM prog w own') N N' (fun _ _ _ => repM_eq N N') (show RepD prog w (RepM prog w own) own v _ from h) (show RepD prog w (RepM prog w own') own' y _ from h')
  exact eqw_dicts l l' d d' p
theorem ne_cur {A : Around} {E Q : Value → Shared → Prop} (N : News h₀ L s.heap own) (N' : News h₀ L s.heap own') (hu : A.units + 10 < cLine) {c : Option DD} (h : RepC prog w own v c) (h' : RepC prog w own' y c) (hq : Q (.bool false) s) :
    wpAny (model prog w) A (compareOp .NotEq v y) Q E s := by
  cases c with
  | none =>
    have h : v = .none := h
    have h' : y = .none := h'
    subst h h'
    exact RcNeAt.none_none prog w E Q hq
  | some ps =>
    obtain ⟨a, b, ka, kb, rfl, rfl, l, l', d, d', p⟩ := repD_eq (prog := prog) (w := w) (R := RepM prog w own) (R' := RepM prog w own') N N' (fun _ _ _ => repM_eq N N') (show RepD prog w (RepM prog w own) own v _ from h) (show RepD prog w (RepM prog w own') own' y _ from h')
    exact ne_dictsW l l' d d' (by omega) p hq
theorem ne_queue {A : Around} {E Q : Value → Shared → Prop} {news : List (Addr × Obj)} {q D : Addr} {qs ds : List Value} {n n' : Nat} (N : News h₀ L s.heap news) (hm : (q, listOf qs.toArray n) ∈ news) (hm' : (D, listOf ds.toArray n') ∈ news)
    (N1 : News h₀ L s.heap own) (N' : News h₀ L s.heap own') (hu : A.units + 10 < cLine) {ts : List DD} (h : All2 (RepT prog w own) qs ts) (h' : All2 (RepT prog w own') ds ts) (hq : Q (.bool false) s) :
    wpAny (model prog w) A (compareOp .NotEq (.ref q) (.ref D)) Q E s :=
  ne_listsW (k := 3) (N _ hm).1 (N _ hm').1 (by omega) (All2.meet (R := RepT prog w own) (S := RepT prog w own') (T := EqW prog w 3 s) (fun _ _ _ r r' => repT_eq N1 N' r r') h h') hq
end

end
section -- T2
open PySem.Spec PySem.Calls
theorem ne_lt {d : Addr} {l : List (Addr × Obj)} (h : ∀ p ∈ l, p.1 < d) : ∀ p ∈ l, p.1 ≠ d := fun p hp => Nat.ne_of_lt (h p hp)
theorem gt_head {d : Addr} {q : Addr × Obj} {l : List (Addr × Obj)} (h : ∀ p ∈ q :: l, p.1 < d) : d ≠ q.1 := Nat.ne_of_gt (h q (.head _))
theorem gt_head2 {d : Addr} {q q' : Addr × Obj} {l : List (Addr × Obj)} (h : ∀ p ∈ q :: q' :: l, p.1 < d) : d ≠ q'.1 := Nat.ne_of_gt (h q' (.tail _ (.head _)))
theorem until_len {A : SA} {σ : SS} {r : List Nat} {y : Str} (I : Inv A σ r) (tk : TxtOk A) (e : toL y = r.takeWhile (· != 62)) : y.length ≤ 3001 := by
  have h1 := (I.rlen tk).1
  have h2 := tw_len r
  rw [← toL_length, e]; omega
theorem CharPost.tail {A : SA} {σ σ' : SS} {r : List Nat} {v : Value} (h : CharPost A σ r v σ') : Inv A σ' r.tail := by
  cases r with
  | nil => exact h.2.1
  | cons c r => exact h.2.1
section
variable {prog : Program} {w : World} {p : Program} {loose : List Str} {mean : ExcName → Option Value} {mg mb : Str → Option Value}
   {dp un : Nat} {gd : Option (List Code)} {cn : Str} {cs : Scope} {a : Addr} {ccd : Value} {cl : List (Str × Addr)} {outer : List Env} {A₀ : Around} {base h₀ : Heap} {L : Addr} {m : Str → Option Value} {rest : List (Addr × Obj)} {s : Shared}
    {Q E : Value → Shared → Prop}
theorem bogus_t {G : TA} {σ : SS} {st cur : Value} {qn : Nat} {r : List Nat} (hG : SepG G) (ht0 : TxtOk G.A) (I : Inv G.A σ r)
    (B : Below A₀ base outer h₀) (F : Fr h₀ L s.heap m) (X : (Mine.hd.heap_1 w.params).In h₀)
    (N : News h₀ L s.heap (tkL w G ⟨σ, st, cur, [], qn⟩ rest)) (off : OffR G rest)
    (T : Top p loose mean mg mb h₀) (hk : cs.kind = .function) (hd : dp + 50 < recursionLimit) (hu : un + 500 < cLine)
    (ret : ∀ σ' sa own v y h' tk', toL y = r.takeWhile (· != 62) → Inv G.A σ' (r.dropWhile (· != 62)).tail → OffR G own →
      RepT prog w own v [(Str.ofString "type", .leaf (.int 6)), (Str.ofString "data", .leaf (.str (Txt.replace y (Str.ofString "\x00") (Str.ofString "�"))))] → Fr h₀ L h' m →
      News h₀ L h' (own ++ tkL w G ⟨σ', .ref sa, cur, [v], qn + 1⟩ rest) → Q (.bool true) { s with heap := h', toks := tk' }) :
    wpAny (model prog w) (ktrTop dp un gd cn cs L a ccd cl outer) (call (.ref 598) [.ref G.t]) Q E s := by
  k_with_none
  (k_with "nd" => first | k_asm | exact nd1 (by k_asm) | exact nd2 (by k_asm) | exact nd3 (by k_asm) | exact nd4 (by k_asm))
  (k_with "my_enter" => k_dflt (refine' code_def ?k1₉ ?k2₉ ?k3₉ ?k4₉ ?k5₉ ?kA₉ ?kF₉ ?kK₉ ?k6₉ ?k7₉ ?k8₉ ?k9₉ ?kB₉ ?_ ?c2₉ ?c3₉ ?c4₉ ?c5₉; (case kA₉ => exact rfl); (case kF₉ => exact rfl); (case kK₉ => first | exact rfl | assumption); (case k1₉ => k_asm); (case k2₉ => k_asm); (case k3₉ => k_asm); (case k4₉ => k_asm); (case k5₉ => k_asm); (case k6₉ => k_is); (case k7₉ => k_is); (case k8₉ => ktr_room); (case k9₉ => first | exact BindsTo.of_eq rfl | exact binds_K (by k_in) rfl (by k_is) rfl rfl rfl); (case c5₉ => decide); (case kB₉ => exact locs rfl); (case c2₉ => exact rfl); (case c3₉ => exact rfl); (case c4₉ => exact rfl); k_whole; intro g'₉ L'₉ h'₉ FG'₉ F'₉ N'₉ B'₉ X'₉ T'₉; (try dsimp only); (try k_fold)))
  (k_with "my_args" => ((case B₉ => k_asm); (case F₉ => k_asm); (case X₉ => k_asm); (case T₉ => k_asm); (case hk₉ => first | exact rfl | assumption); (case hd₉ => ktr_room); (case hu₉ => ktr_units)))
  (k_with "tp" => ((try dsimp only); with_reducible (first | assumption | exact TP.succ | exact TP.add2 | exact TP.add3 | exact TP.add4 | exact ⟨by omega⟩)))
  (k_with "forall" => ((with_reducible show (TP _ → _)); intro hT₉; dsimp only at hT₉))
  (k_with "execs nil" => (k_here; (with_reducible refine execsNG (by walk_at "tp") ?_); intro tk₉ htk₉; (try dsimp only)))
  (k_with "execs cons" => (k_here; (with_reducible refine execsQ (by walk_at "tp") ?_); intro Q9₉ hQ9₉ tk9₉ htk9₉; (try dsimp only)))
  (k_with "fslot" => first | exact FSlot.here (by with_reducible assumption) | (refine' FSlot.skip ?za₉ ?zc₉; (case za₉ => with_reducible assumption); (case zc₉ => walk_at "fslot")))
  (k_with "slot" => exact FSlot.slot (by with_reducible assumption) (by walk_at "fslot"))
  (k_with "getAttr ref" => (k_here; with_reducible (first | (refine' fget_stream ?F₉ ?X₉ ?N₉ ?S₉ ?_) | (refine' fget_tokenQueue ?F₉ ?X₉ ?N₉ ?S₉ ?_)); (case F₉ => k_asm); (case X₉ => k_asm); (case N₉ => k_asm); (case S₉ => walk_at "fslot"); k_whole; (try dsimp only)))
  (k_with "getAttr ref" => (k_here; with_reducible (first | (refine' fbound_dataState ?F₉ ?X₉ ?N₉ ?S₉ ?_) | (refine' fbound_bogusCommentState ?F₉ ?X₉ ?N₉ ?S₉ ?_) | (refine' fbound_tagNameState ?F₉ ?X₉ ?N₉ ?S₉ ?_) | (refine' fbound_markupDeclarationOpenState ?F₉ ?X₉ ?N₉ ?S₉ ?_) | (refine' fbound_closeTagOpenState ?F₉ ?X₉ ?N₉ ?S₉ ?_) | (refine' fbound_commentStartState ?F₉ ?X₉ ?N₉ ?S₉ ?_) | (refine' fbound_doctypeState ?F₉ ?X₉ ?N₉ ?S₉ ?_)); (case F₉ => k_asm); (case X₉ => k_asm); (case N₉ => k_asm); (case S₉ => walk_at "fslot"); k_whole; intro q'₉ h'₉ F'₉ N'₉; (try dsimp only); (try k_sweep)))
  (k_with "setAttr ref" => (k_here; with_reducible (first | (refine' fset_state ?F₉ ?X₉ ?N₉ ?S₉ (by assumption) ?_) | (refine' fset_currentToken ?F₉ ?X₉ ?N₉ ?S₉ (by assumption) ?_)); (case F₉ => k_asm); (case X₉ => k_asm); (case N₉ => k_asm); (case S₉ => walk_at "fslot"); k_whole; intro h'₉ F'₉ N'₉; (try dsimp only at N'₉); (try k_sweep)))
  (k_with "getMethod ref" => (k_here; with_reducible (first | (refine' smeth_char ?F₉ ?X₉ ?N₉ ?S₉ ?_) | (refine' smeth_unget ?F₉ ?X₉ ?N₉ ?S₉ ?_) | (refine' smeth_charsUntil ?F₉ ?X₉ ?N₉ ?S₉ ?_)); (case F₉ => k_asm); (case X₉ => k_asm); (case N₉ => k_asm); (case S₉ => walk_at "slot"); k_whole))
  (k_with "getMethod ref" => (k_here; with_reducible (refine' fmeth_append ?X₉ ?N₉ ?S₉ ?_); (case X₉ => k_asm); (case N₉ => k_asm); (case S₉ => walk_at "fslot"); k_whole; (try dsimp only)))
  (k_with "call builtin:list.append" => (k_here; with_reducible (refine' fapp ?F₉ ?X₉ ?N₉ ?S₉ (by assumption) ?l₉ ?_); (case F₉ => k_asm); (case X₉ => k_asm); (case N₉ => k_asm); (case S₉ => walk_at "fslot"); (case l₉ => simp only [List.length_nil, List.length_cons, List.nil_append]; omega); k_whole; intro h'₉ F'₉ N'₉; (try dsimp only [List.nil_append] at N'₉); (try k_sweep)))
  (k_with "call ref" => (k_here; (try dsimp only [List.append_nil, List.cons_append, List.nil_append]); (with_reducible show wpAny _ _ (call (Value.ref 133) [_]) _ _ _); k_dflt (refine' charF_t (by assumption) (by assumption) ?B₉ ?F₉ ?X₉ ?N₉ ?S₉ ?I₉ ?T₉ ?hk₉ ?hd₉ ?hu₉ ?_; walk_at "my_args"; (case N₉ => k_asm); (case S₉ => walk_at "fslot"); (case I₉ => assumption)); intro σ'₉ v'₉ h'₉ tk'₉ hT'₉ P'₉ F'₉ N'₉; (try dsimp only at N'₉); (try dsimp only); (try k_sweep)))
  (k_with "call ref" => (k_here; (try dsimp only [List.append_nil, List.cons_append, List.nil_append]); (with_reducible show wpAny _ _ (call (Value.ref 156) [_, _]) _ _ _); k_dflt (refine' untilF_t (by assumption) (by assumption) ?B₉ ?F₉ ?X₉ ?N₉ ?S₉ ?I₉ ?T₉ ?hk₉ ?hd₉ ?hu₉ ?_; walk_at "my_args"; (case N₉ => k_asm); (case S₉ => walk_at "fslot"); (case I₉ => assumption)); intro σ'₉ y'₉ t'₉ h'₉ tk'₉ e'₉ I'₉ F'₉ N'₉; (have hl'₉ := until_len (by assumption) (by assumption) e'₉); (try dsimp only at N'₉); (try dsimp only); (try k_sweep)))
  (k_with "call builtin:str.replace" => ((refine replaceT (by walk_at "tp") (by walk_at "tp") (by first | exact Nat.ne_of_lt (Nat.lt_succ_self _) | omega) (by decide +kernel) (by omega) (by decide) (by walk_at "tp") ?_); intro t'₉ k'₉ hk'₉; (try dsimp only)))
  (k_with "callWith" => (k_here; (with_reducible show wpAny _ _ (callWith _ (Value.builtin _) _ (backTo _ (starEach (_ :: _) _)) []) _ _ _); (with_reducible refine' callWith_method1 ?_ ?he₉ ?hp₉); k_dflt ((case he₉ => exact rfl); (case hp₉ => exact rfl))))
  (k_with "eval Dict" => (k_here; k_dflt (refine' kdn_str ?q₉ ?F₉ ?N₉ ?b₉ ?a₉ ?l₉ ?e₉ ?n₉ ?_; (case q₉ => exact rfl); (case F₉ => k_asm); (case N₉ => k_asm); (case b₉ => exact Top.nolimit (by k_asm)); (case a₉ => exact rfl); (case l₉ => exact rfl); (case e₉ => exact List.cons_ne_nil _ _); (case n₉ => exact Nat.le_of_ble_eq_true rfl)); intro d'₉ h'₉ o'₉ F'₉ N'₉ l1₉ lo'₉ hd'₉; (have of'₉ := FSlot.off (by walk_at "fslot") l1₉); (try k_sweep)))
  (k_with "newList" => (k_here; k_dflt (refine' newList_K ?k1₉ ?k2₉ ?_; (case k1₉ => k_asm); (case k2₉ => k_asm); k_whole); intro l'₉ h'₉ F'₉ N'₉ l1₉; (have of'₉ := FSlot.off (by walk_at "fslot") l1₉); (try k_sweep)))
  (k_with "my_updF" => first | exact UpdF.head (ne_lt (by assumption)) | exact UpdF.tail (gt_head (by assumption)) (UpdF.head (ne_lt (by assumption))))
  (k_with "KdnMade" => (k_here; k_dflt (refine' kdn_made_str ?F₉ ?N₉ ?U₉ ?d₉ ?k₉ ?n₉ ?_; (case F₉ => k_asm); (case N₉ => k_asm); (case U₉ => walk_at "my_updF"); (case d₉ => k_asm); (case k₉ => exact rfl); (case n₉ => exact of_decide_eq_true (by first | rfl | kernel_rfl!)); intro h'₉ o'₉ F'₉ N'₉ hd'₉); (try dsimp only at N'₉); (try dsimp only); (try k_sweep)))
  (k_with "my_steps" => (repeat' (first | (with_reducible refine GoOn.go (by with_reducible assumption) ?_; (try dsimp only)) | (k_unfold; (try dsimp only)) | (k_end; wrow_close) | walk1 | (dsimp only; walk1) | (leave1; (try dsimp only)) | fail "no step")))
  refine wpAny_call ?_
  walk_at "my_enter"
  walk_at "my_steps"
  refine ret _ _ [_] _ _ _ _ (by assumption) ?i₉ (OffR.nil.cons (by assumption)) ⟨_, _, _, rfl, .head _, by assumption, by assumption, .cons ⟨rfl, _, rfl⟩ (.cons ⟨rfl, _, rfl⟩ .nil)⟩ (by k_asm) (by k_asm)
  case i₉ => exact CharPost.tail (by assumption)
end

end
section -- L1
open PySem.Spec PySem.Calls PySem.SeqAt
def isLet (c : Nat) : Bool := (65 ≤ c && c ≤ 90) || (97 ≤ c && c ≤ 122)
def strOf : Value → Option Str
  | .str x _ => some x
  | _ => none
def hitS : Option Str → Option Str → Bool
  | some z, some z' => z' == z
  | _, _ => false
def letters : List Nat := [97, 98, 99, 100, 101, 102, 103, 104, 105, 106, 107, 108, 109, 110, 111, 112, 113, 114, 115, 116, 117, 118, 119, 120, 121, 122, 65, 66, 67, 68, 69, 70, 71, 72, 73, 74, 75, 76, 77, 78, 79, 80, 81, 82, 83, 84, 85, 86, 87, 88, 89, 90]
theorem letters_low : ∀ c : Fin 128, (letters.any fun d => d == c.val) = isLet c.val := by decide +kernel
theorem letters_hi : ∀ d ∈ letters, d < 128 := by decide +kernel
theorem letters_is (c : Nat) : (letters.any fun d => d == c) = isLet c := by
  by_cases h : c < 128
  · exact letters_low ⟨c, h⟩
  · have h1 : (letters.any fun d => d == c) = false := by
      rw [List.any_eq_false]
      intro d hd e
      have := letters_hi d hd
      rw [beq_iff_eq] at e
      omega
    have h2 : isLet c = false := by
      unfold isLet
      have a : decide (c ≤ 90) = false := decide_eq_false (by omega)
      have b : decide (c ≤ 122) = false := decide_eq_false (by omega)
      rw [a, b, Bool.and_false, Bool.and_false, Bool.or_false]
    rw [h1, h2]
/-- «x in (a tuple of texts)» -/
theorem in_strs {prog : Program} {w : World} {A : Around} {E Q : Value → Shared → Prop} {s : Shared} {a : Addr} {o : Obj} {items : Array Value} {n : Nat} {ls : List Nat} {x : Value} (ho : s.heap.get? a = some o) (hc : o.cls = .type "tuple") (hd : o.data = .seq items n)
    (hi : items.toList.map strOf = ls.map fun d => some ⟨#[d]⟩) (b : Bool) (hx : (∃ c t, x = .str ⟨#[c]⟩ t ∧ b = ls.any fun d => d == c) ∨ (x = .none ∧ b = false))
    (h : Q (.bool b) s) : wpAny (model prog w) A (compareOp .In x (.ref a)) Q E s := by
  have key : ∀ y ∈ items, ∃ z u, y = .str z u := by
    intro y hy
    have h1 : strOf y ∈ items.toList.map strOf := List.mem_map_of_mem (by simpa using hy)
    rw [hi] at h1
    obtain ⟨d, _, hd⟩ := List.mem_map.mp h1
    cases y <;> first | exact ⟨_, _, rfl⟩ | (simp [strOf] at hd)
  refine in_tupleAt (fun y => hitS (strOf x) (strOf y)) ⟨o, ho, hc, n, hd⟩ (fun y hy => ?_) ?_
  · obtain ⟨z, u, rfl⟩ := key y hy
    rcases hx with ⟨c, t, rfl, _⟩ | ⟨rfl, _⟩
    · exact EqAt.str_str _ _ _ _
    · exact EqAt.str_none _ _
  · have e : items.any (fun y => hitS (strOf x) (strOf y)) = b := by
      rw [← Array.any_toList]
      have e1 : items.toList.any (fun y => hitS (strOf x) (strOf y)) = (items.toList.map strOf).any (hitS (strOf x)) := by
        rw [List.any_map]; rfl
      rw [e1, hi, List.any_map]
      rcases hx with ⟨c, t, rfl, hb⟩ | ⟨rfl, hb⟩
      · rw [hb]
        congr 1
        funext d
        show ((⟨#[d]⟩ : Str) == ⟨#[c]⟩) = (d == c)
        rw [Bool.eq_iff_iff, beq_iff_eq, beq_iff_eq]
        exact ⟨fun h => by simpa using h, fun h => by rw [h]⟩
      · rw [hb]
        simp [hitS, strOf]
    rw [e]; exact h
section
variable {prog : Program} {w : World} {A' : Around} {h₀ : Heap} {L : Addr} {m : Str → Option Value} {s : Shared} {E Q : Value → Shared → Prop}
theorem k27 (P : Params) : ∃ o items, (Mine.hd.heap_1 P).lookup 27 = some o ∧ o.cls = .type "tuple" ∧ o.data = .seq items 0 ∧ items.toList.map strOf = [Str.ofString "a", Str.ofString "b", Str.ofString "c", Str.ofString "d", Str.ofString "e", Str.ofString "f", Str.ofString "g", Str.ofString "h", Str.ofString "i", Str.ofString "j", Str.ofString "k", Str.ofString "l", Str.ofString "m", Str.ofString "n", Str.ofString "o", Str.ofString "p", Str.ofString "q", Str.ofString "r", Str.ofString "s", Str.ofString "t", Str.ofString "u", Str.ofString "v", Str.ofString "w", Str.ofString "x", Str.ofString "y", Str.ofString "z", Str.ofString "A", Str.ofString "B", Str.ofString "C", Str.ofString "D", Str.ofString "E", Str.ofString "F", Str.ofString "G", Str.ofString "H", Str.ofString "I", Str.ofString "J", Str.ofString "K", Str.ofString "L", Str.ofString "M", Str.ofString "N", Str.ofString "O", Str.ofString "P", Str.ofString "Q", Str.ofString "R", Str.ofString "S", Str.ofString "T", Str.ofString "U", Str.ofString "V", Str.ofString "W", Str.ofString "X", Str.ofString "Y", Str.ofString "Z"].map some := ⟨_, _, by k_is, rfl, rfl, rfl⟩
theorem ofS (l : List (String × Nat)) (h : (l.all fun p => Str.ofString p.1 == ⟨#[p.2]⟩) = true) : (l.map fun p => some (Str.ofString p.1)) = l.map fun p => some ⟨#[p.2]⟩ := by
  induction l with
  | nil => rfl
  | cons p l ih =>
    rw [List.all_cons, Bool.and_eq_true] at h
    rw [List.map_cons, List.map_cons, ih h.2, eq_of_beq h.1]
theorem in_letters {x : Value} {b : Bool} (F : Fr h₀ L s.heap m) (X : (Mine.hd.heap_1 w.params).In h₀) (hx : (∃ c t, x = .str ⟨#[c]⟩ t ∧ b = isLet c) ∨ (x = .none ∧ b = false)) (h : Q (.bool b) s) :
    wpAny (model prog w) A' (compareOp .In x (.ref 27)) Q E s := by
  obtain ⟨o, items, h1, h2, h3, h4⟩ := k27 w.params
  have e : items.toList.map strOf = letters.map fun d => some ⟨#[d]⟩ := by
    rw [h4]
    exact ofS ((("abcdefghijklmnopqrstuvwxyzABCDEFGHIJKLMNOPQRSTUVWXYZ".toList.map fun c => String.singleton c)).zip letters) (by decide +kernel)
  refine in_strs ((X.keeps F.keep) _ _ h1) h2 h3 e b ?_ h
  rcases hx with ⟨c, t, hx, hb⟩ | hx
  · exact .inl ⟨c, t, hx, by rw [hb, letters_is]⟩
  · exact .inr hx
end

end
section -- T3
open PySem.Spec PySem.Calls
theorem CharPost.cons {A : SA} {σ σ' : SS} {c : Nat} {r : List Nat} {v : Value} (h : CharPost A σ (c :: r) v σ') : (∃ t, v = .str ⟨#[c]⟩ t) ∧ Inv A σ' r ∧ ∀ st, Back σ st → Back σ' (c :: st) := h
theorem UngetPost.out {A : SA} {c : Nat} {r st : List Nat} {σ : SS} (h : UngetPost A c r st σ) : Inv A σ (c :: r) ∧ Back σ st := h
theorem CharPost.nil {A : SA} {σ σ' : SS} {v : Value} (h : CharPost A σ [] v σ') : v = .none ∧ Inv A σ' [] ∧ σ'.off = 0 := h
abbrev Out := List DD × Option DD × List Nat
def fD (x : String) : DD := [(Str.ofString "type", .leaf (.int 7)), (Str.ofString "data", .leaf (.str (Str.ofString x)))]
def gD (k : Int) (x : String) : DD := [(Str.ofString "type", .leaf (.int k)), (Str.ofString "data", .leaf (.str (Str.ofString x)))]
def fcD (c : Nat) : DD := [(Str.ofString "type", .leaf (.int 7)), (Str.ofString "data", .leaf (.str (Str.ofString "expected-closing-tag-but-got-char"))), (Str.ofString "datavars", .dic [(Str.ofString "data", .str ⟨#[c]⟩)])]
def endD (c : Nat) : DD := [(Str.ofString "type", .leaf (.int 4)), (Str.ofString "name", .leaf (.str ⟨#[c]⟩)), (Str.ofString "data", .leaf .nil), (Str.ofString "selfClosing", .leaf (.bool false))]
def startD (c : Nat) : DD := [(Str.ofString "type", .leaf (.int 3)), (Str.ofString "name", .leaf (.str ⟨#[c]⟩)), (Str.ofString "data", .leaf .nil), (Str.ofString "selfClosing", .leaf (.bool false)), (Str.ofString "selfClosingAcknowledged", .leaf (.bool false))]
def closeF : List Nat → Out
  | [] => ([fD "expected-closing-tag-but-got-eof", gD 1 "</"], none, [])
  | c :: r => if isLet c then ([], some (endD c), r) else if c = 62 then ([fD "expected-closing-tag-but-got-right-bracket"], none, r) else ([fcD c], none, c :: r)
def openF : List Nat → Out
  | [] => ([fD "expected-tag-name", gD 1 "<"], none, [])
  | c :: r => if c = 33 ∨ c = 47 then ([], none, r) else if isLet c then ([], some (startD c), r)
    else if c = 62 then ([fD "expected-tag-name-but-got-right-bracket", gD 1 "<>"], none, r)
    else if c = 63 then ([fD "expected-tag-name-but-got-question-mark"], none, c :: r) else ([fD "expected-tag-name", gD 1 "<"], none, c :: r)
section
variable {c k : Nat} {r : List Nat} {x : String}
theorem one_eq (hx : Str.ofString x = ⟨#[k]⟩) (h : ((⟨#[c]⟩ : Str) == Str.ofString x) = true) : c = k := by
  rw [hx] at h
  simpa using h
theorem one_ne (hx : Str.ofString x = ⟨#[k]⟩) (h : ((⟨#[c]⟩ : Str) == Str.ofString x) = false) : c ≠ k := by
  rw [hx] at h
  simpa using h
theorem close_let (h : isLet c = true) : closeF (c :: r) = ([], some (endD c), r) := by simp [closeF, h]
theorem close_gt (h : isLet c = false) (h' : ((⟨#[c]⟩ : Str) == Str.ofString ">") = true) : closeF (c :: r) = ([fD "expected-closing-tag-but-got-right-bracket"], none, r) := by
  have := one_eq (k := 62) (by decide +kernel) h'
  subst this
  simp [closeF, h]
theorem close_no (h : isLet c = false) (h' : ((⟨#[c]⟩ : Str) == Str.ofString ">") = false) : closeF (c :: r) = ([fcD c], none, c :: r) := by
  have := one_ne (k := 62) (by decide +kernel) h'
  simp [closeF, h, this]
end
section
variable {prog : Program} {w : World} {p : Program} {loose : List Str} {mean : ExcName → Option Value} {mg mb : Str → Option Value}
   {dp un : Nat} {gd : Option (List Code)} {cn : Str} {cs : Scope} {a : Addr} {ccd : Value} {cl : List (Str × Addr)} {outer : List Env} {A₀ : Around} {base h₀ : Heap} {L : Addr} {m : Str → Option Value} {rest : List (Addr × Obj)} {s : Shared}
    {Q E : Value → Shared → Prop}
theorem close_t {G : TA} {σ : SS} {st : Value} {qn : Nat} {r : List Nat} (hG : SepG G) (ht0 : TxtOk G.A) (I : Inv G.A σ r) (hr : r.length ≤ 1500)
    (B : Below A₀ base outer h₀) (F : Fr h₀ L s.heap m) (X : (Mine.hd.heap_1 w.params).In h₀)
    (N : News h₀ L s.heap (tkL w G ⟨σ, st, .none, [], qn⟩ rest)) (off : OffR G rest)
    (T : Top p loose mean mg mb h₀) (hk : cs.kind = .function) (hd : dp + 50 < recursionLimit) (hu : un + 500 < cLine)
    (ret : ∀ σ' sa own qs cur' qn' h' tk', Inv G.A σ' (closeF r).2.2 → OffR G own → All2 (RepT prog w own) qs (closeF r).1 → RepC prog w own cur' (closeF r).2.1 → Fr h₀ L h' m →
      News h₀ L h' (own ++ tkL w G ⟨σ', .ref sa, cur', qs, qn'⟩ rest) → Q (.bool true) { s with heap := h', toks := tk' }) :
    wpAny (model prog w) (ktrTop dp un gd cn cs L a ccd cl outer) (call (.ref 360) [.ref G.t]) Q E s := by
  k_with_none
  (k_with "nd" => first | k_asm | exact nd1 (by k_asm) | exact nd2 (by k_asm) | exact nd3 (by k_asm) | exact nd4 (by k_asm))
  (k_with "my_enter" => k_dflt (refine' code_def ?k1₉ ?k2₉ ?k3₉ ?k4₉ ?k5₉ ?kA₉ ?kF₉ ?kK₉ ?k6₉ ?k7₉ ?k8₉ ?k9₉ ?kB₉ ?_ ?c2₉ ?c3₉ ?c4₉ ?c5₉; (case kA₉ => exact rfl); (case kF₉ => exact rfl); (case kK₉ => first | exact rfl | assumption); (case k1₉ => k_asm); (case k2₉ => k_asm); (case k3₉ => k_asm); (case k4₉ => k_asm); (case k5₉ => k_asm); (case k6₉ => k_is); (case k7₉ => k_is); (case k8₉ => ktr_room); (case k9₉ => first | exact BindsTo.of_eq rfl | exact binds_K (by k_in) rfl (by k_is) rfl rfl rfl); (case c5₉ => decide); (case kB₉ => exact locs rfl); (case c2₉ => exact rfl); (case c3₉ => exact rfl); (case c4₉ => exact rfl); k_whole; intro g'₉ L'₉ h'₉ FG'₉ F'₉ N'₉ B'₉ X'₉ T'₉; (try dsimp only); (try k_fold)))
  (k_with "my_args" => ((case B₉ => k_asm); (case F₉ => k_asm); (case X₉ => k_asm); (case T₉ => k_asm); (case hk₉ => first | exact rfl | assumption); (case hd₉ => ktr_room); (case hu₉ => ktr_units)))
  (k_with "tp" => ((try dsimp only); with_reducible (first | assumption | exact TP.succ | exact TP.add2 | exact TP.add3 | exact TP.add4 | exact ⟨by omega⟩)))
  (k_with "forall" => ((with_reducible show (TP _ → _)); intro hT₉; dsimp only at hT₉))
  (k_with "execs nil" => (k_here; (with_reducible refine execsNG (by walk_at "tp") ?_); intro tk₉ htk₉; (try dsimp only)))
  (k_with "execs cons" => (k_here; (with_reducible refine execsQ (by walk_at "tp") ?_); intro Q9₉ hQ9₉ tk9₉ htk9₉; (try dsimp only)))
  (k_with "fslot" => first | exact FSlot.here (by with_reducible assumption) | (refine' FSlot.skip ?za₉ ?zc₉; (case za₉ => with_reducible assumption); (case zc₉ => walk_at "fslot")))
  (k_with "slot" => exact FSlot.slot (by with_reducible assumption) (by walk_at "fslot"))
  (k_with "getAttr ref" => (k_here; with_reducible (first | (refine' fget_stream ?F₉ ?X₉ ?N₉ ?S₉ ?_) | (refine' fget_tokenQueue ?F₉ ?X₉ ?N₉ ?S₉ ?_)); (case F₉ => k_asm); (case X₉ => k_asm); (case N₉ => k_asm); (case S₉ => walk_at "fslot"); k_whole; (try dsimp only)))
  (k_with "getAttr ref" => (k_here; with_reducible (first | (refine' fbound_dataState ?F₉ ?X₉ ?N₉ ?S₉ ?_) | (refine' fbound_bogusCommentState ?F₉ ?X₉ ?N₉ ?S₉ ?_) | (refine' fbound_tagNameState ?F₉ ?X₉ ?N₉ ?S₉ ?_) | (refine' fbound_markupDeclarationOpenState ?F₉ ?X₉ ?N₉ ?S₉ ?_) | (refine' fbound_closeTagOpenState ?F₉ ?X₉ ?N₉ ?S₉ ?_) | (refine' fbound_commentStartState ?F₉ ?X₉ ?N₉ ?S₉ ?_) | (refine' fbound_doctypeState ?F₉ ?X₉ ?N₉ ?S₉ ?_)); (case F₉ => k_asm); (case X₉ => k_asm); (case N₉ => k_asm); (case S₉ => walk_at "fslot"); k_whole; intro q'₉ h'₉ F'₉ N'₉; (try dsimp only); (try k_sweep)))
  (k_with "setAttr ref" => (k_here; with_reducible (first | (refine' fset_state ?F₉ ?X₉ ?N₉ ?S₉ (by assumption) ?_) | (refine' fset_currentToken ?F₉ ?X₉ ?N₉ ?S₉ (by assumption) ?_)); (case F₉ => k_asm); (case X₉ => k_asm); (case N₉ => k_asm); (case S₉ => walk_at "fslot"); k_whole; intro h'₉ F'₉ N'₉; (try dsimp only at N'₉); (try k_sweep)))
  (k_with "getMethod ref" => (k_here; with_reducible (first | (refine' smeth_char ?F₉ ?X₉ ?N₉ ?S₉ ?_) | (refine' smeth_unget ?F₉ ?X₉ ?N₉ ?S₉ ?_) | (refine' smeth_charsUntil ?F₉ ?X₉ ?N₉ ?S₉ ?_)); (case F₉ => k_asm); (case X₉ => k_asm); (case N₉ => k_asm); (case S₉ => walk_at "slot"); k_whole))
  (k_with "getMethod ref" => (k_here; with_reducible (refine' fmeth_append ?X₉ ?N₉ ?S₉ ?_); (case X₉ => k_asm); (case N₉ => k_asm); (case S₉ => walk_at "fslot"); k_whole; (try dsimp only)))
  (k_with "call builtin:list.append" => (k_here; with_reducible (refine' fapp ?F₉ ?X₉ ?N₉ ?S₉ (by assumption) ?l₉ ?_); (case F₉ => k_asm); (case X₉ => k_asm); (case N₉ => k_asm); (case S₉ => walk_at "fslot"); (case l₉ => simp only [List.length_nil, List.length_cons, List.nil_append]; omega); k_whole; intro h'₉ F'₉ N'₉; (try dsimp only [List.nil_append] at N'₉); (try k_sweep)))
  (k_with "call ref" => (k_here; (try dsimp only [List.append_nil, List.cons_append, List.nil_append]); (with_reducible show wpAny _ _ (call (Value.ref 133) [_]) _ _ _); k_dflt (refine' charF_t (by assumption) (by assumption) ?B₉ ?F₉ ?X₉ ?N₉ ?S₉ ?I₉ ?T₉ ?hk₉ ?hd₉ ?hu₉ ?_; walk_at "my_args"; (case N₉ => k_asm); (case S₉ => walk_at "fslot"); (case I₉ => assumption)); intro σ'₉ v'₉ h'₉ tk'₉ hT'₉ P'₉ F'₉ N'₉; (first | (obtain ⟨⟨tc'₉, ev'₉⟩, I'₉, bk'₉⟩ := CharPost.cons P'₉; subst ev'₉; (have bk2'₉ := bk'₉ _ (by first | with_reducible assumption | exact Back.nil _)); clear bk'₉ P'₉) | (obtain ⟨ev'₉, I'₉, o0'₉⟩ := CharPost.nil P'₉; subst ev'₉; clear P'₉) | skip); (try dsimp only at N'₉); (try dsimp only); (try k_sweep)))
  (k_with "call ref" => (k_here; (try dsimp only [List.append_nil, List.cons_append, List.nil_append]); (with_reducible show wpAny _ _ (call (Value.ref 156) [_, _]) _ _ _); k_dflt (refine' untilF_t (by assumption) (by assumption) ?B₉ ?F₉ ?X₉ ?N₉ ?S₉ ?I₉ ?T₉ ?hk₉ ?hd₉ ?hu₉ ?_; walk_at "my_args"; (case N₉ => k_asm); (case S₉ => walk_at "fslot"); (case I₉ => assumption)); intro σ'₉ y'₉ t'₉ h'₉ tk'₉ e'₉ I'₉ F'₉ N'₉; (have hl'₉ := until_len (by assumption) (by assumption) e'₉); (try dsimp only at N'₉); (try dsimp only); (try k_sweep)))
  (k_with "call builtin:str.replace" => ((refine replaceT (by walk_at "tp") (by walk_at "tp") (by first | exact Nat.ne_of_lt (Nat.lt_succ_self _) | omega) (by decide +kernel) (by omega) (by decide) (by walk_at "tp") ?_); intro t'₉ k'₉ hk'₉; (try dsimp only)))
  (k_with "callWith" => (k_here; (with_reducible show wpAny _ _ (callWith _ (Value.builtin _) _ (backTo _ (starEach (_ :: _) _)) []) _ _ _); (with_reducible refine' callWith_method1 ?_ ?he₉ ?hp₉); k_dflt ((case he₉ => exact rfl); (case hp₉ => exact rfl))))
  (k_with "eval Dict" => (k_here; k_dflt (refine' kdn_str ?q₉ ?F₉ ?N₉ ?b₉ ?a₉ ?l₉ ?e₉ ?n₉ ?_; (case q₉ => exact rfl); (case F₉ => k_asm); (case N₉ => k_asm); (case b₉ => exact Top.nolimit (by k_asm)); (case a₉ => exact rfl); (case l₉ => exact rfl); (case e₉ => exact List.cons_ne_nil _ _); (case n₉ => exact Nat.le_of_ble_eq_true rfl)); intro d'₉ h'₉ o'₉ F'₉ N'₉ l1₉ lo'₉ hd'₉; (have of'₉ := FSlot.off (by walk_at "fslot") l1₉); (try k_sweep)))
  (k_with "newList" => (k_here; k_dflt (refine' newList_K ?k1₉ ?k2₉ ?_; (case k1₉ => k_asm); (case k2₉ => k_asm); k_whole); intro l'₉ h'₉ F'₉ N'₉ l1₉; (have of'₉ := FSlot.off (by walk_at "fslot") l1₉); (try k_sweep)))
  (k_with "my_updF" => first | exact UpdF.head (ne_lt (by assumption)) | exact UpdF.tail (gt_head (by assumption)) (UpdF.head (ne_lt (by assumption))))
  (k_with "KdnMade" => (k_here; k_dflt (refine' kdn_made_str ?F₉ ?N₉ ?U₉ ?d₉ ?k₉ ?n₉ ?_; (case F₉ => k_asm); (case N₉ => k_asm); (case U₉ => walk_at "my_updF"); (case d₉ => k_asm); (case k₉ => exact rfl); (case n₉ => exact of_decide_eq_true (by first | rfl | kernel_rfl!)); intro h'₉ o'₉ F'₉ N'₉ hd'₉); (try dsimp only at N'₉); (try dsimp only); (try k_sweep)))
  (k_with "call ref" => (k_here; (try dsimp only [List.append_nil, List.cons_append, List.nil_append]); (with_reducible show wpAny _ _ (call (Value.ref 163) [_, Value.str _ _]) _ _ _); k_dflt (refine' ungetF_t (by assumption) ?B₉ ?F₉ ?X₉ ?N₉ ?S₉ ?I₉ ?b₉ ?l₉ ?T₉ ?hk₉ ?hd₉ ?hu₉ ?_; walk_at "my_args"; (case N₉ => k_asm); (case S₉ => walk_at "fslot"); (case I₉ => assumption); (case b₉ => with_reducible assumption); (case l₉ => (simp only [List.length_cons] at *; omega))); intro σ'₉ h'₉ tk'₉ hT'₉ P'₉ F'₉ N'₉; (obtain ⟨I'₉, bk'₉⟩ := UngetPost.out P'₉; clear P'₉); (try dsimp only at N'₉); (try dsimp only); (try k_sweep)))
  (k_with "compareOp In" => (k_here; (with_reducible show wpAny _ _ (compareOp CmpOp.In _ (Value.ref 27)) _ _ _); k_dflt (refine' in_letters ?F₉ ?X₉ ?x₉ ?_; (case F₉ => k_asm); (case X₉ => k_asm); (case x₉ => first | exact .inl ⟨_, _, rfl, rfl⟩ | exact .inr ⟨rfl, rfl⟩)); (try dsimp only)))
  (k_with "rep_all" => first | exact All2.nil | (refine' All2.cons ⟨rfl, ?_⟩ ?_; (focus walk_at "rep_leaf"); (focus walk_at "rep_all")))
  (k_with "rep_leaf" => first | exact rfl | exact ⟨_, rfl⟩ | exact ⟨_, _, rfl, by k_mem⟩ | exact ⟨_, _, _, rfl, by k_mem, by assumption, by assumption, by walk_at "rep_all"⟩)
  (k_with "rep" => exact ⟨_, _, _, rfl, by k_mem, by assumption, by assumption, by walk_at "rep_all"⟩)
  (k_with "reps" => first | exact All2.nil | (refine' All2.cons ?_ ?_; (focus walk_at "rep"); (focus walk_at "reps")))
  (k_with "repc" => first | exact rfl | walk_at "rep")
  (k_with "offr" => first | exact OffR.nil | (refine' OffR.cons ?zoa₉ ?zob₉; (case zoa₉ => with_reducible assumption); (case zob₉ => walk_at "offr")))
  (k_with "ends" => ((case I₉ => first | with_reducible assumption | assumption); (case O₉ => walk_at "offr"); (case A₉ => walk_at "reps"); (case C₉ => walk_at "repc")))
  (k_with "my_steps" => (repeat' (first | (with_reducible refine GoOn.go (by with_reducible assumption) ?_; (try dsimp only)) | (k_unfold; (try dsimp only)) | (k_end; wrow_close) | walk1 | (dsimp only; walk1) | (leave1; (try dsimp only)) | fail "no step")))
  refine wpAny_call ?_
  rcases r with _ | ⟨c, r⟩
  · walk_at "my_enter"
    walk_at "my_steps"
    (refine' ret _ _ [_, _] [_, _] _ _ _ _ ?I₉ ?O₉ ?A₉ ?C₉ (by k_asm) (by k_asm); walk_at "ends")
  · rw [List.length_cons] at hr
    walk_at "my_enter"
    walk_at "my_steps"
    · rw [close_let (by assumption)] at ret
      (refine' ret _ _ [_, _] [] _ _ _ _ ?I₉ ?O₉ ?A₉ ?C₉ (by k_asm) (by k_asm); walk_at "ends")
    · rw [close_gt (by assumption) (by assumption)] at ret
      (refine' ret _ _ [_] [_] _ _ _ _ ?I₉ ?O₉ ?A₉ ?C₉ (by k_asm) (by k_asm); walk_at "ends")
    · rw [close_no (by assumption) (by assumption)] at ret
      (refine' ret _ _ [_, _] [_] _ _ _ _ ?I₉ ?O₉ ?A₉ ?C₉ (by k_asm) (by k_asm); walk_at "ends")
end

end
section -- T4
open PySem.Spec PySem.Calls
section
variable {c : Nat} {r : List Nat}
theorem open_ex (h : ((⟨#[c]⟩ : Str) == Str.ofString "!") = true) : openF (c :: r) = ([], none, r) := by
  have := one_eq (k := 33) (by decide +kernel) h
  simp [openF, this]
theorem open_sl (h : ((⟨#[c]⟩ : Str) == Str.ofString "/") = true) : openF (c :: r) = ([], none, r) := by
  have := one_eq (k := 47) (by decide +kernel) h
  simp [openF, this]
variable (h1 : ((⟨#[c]⟩ : Str) == Str.ofString "!") = false) (h2 : ((⟨#[c]⟩ : Str) == Str.ofString "/") = false)
include h1 h2
theorem open_two : ¬ (c = 33 ∨ c = 47) := by
  have := one_ne (k := 33) (by decide +kernel) h1
  have := one_ne (k := 47) (by decide +kernel) h2
  omega
theorem open_let (h : isLet c = true) : openF (c :: r) = ([], some (startD c), r) := by simp [openF, h, open_two h1 h2]
theorem open_gt (h : isLet c = false) (h' : ((⟨#[c]⟩ : Str) == Str.ofString ">") = true) : openF (c :: r) = ([fD "expected-tag-name-but-got-right-bracket", gD 1 "<>"], none, r) := by
  have e := one_eq (k := 62) (by decide +kernel) h'
  have := open_two h1 h2
  subst e
  simp [openF, h]
theorem open_qu (h : isLet c = false) (h' : ((⟨#[c]⟩ : Str) == Str.ofString ">") = false) (h'' : ((⟨#[c]⟩ : Str) == Str.ofString "?") = true) : openF (c :: r) = ([fD "expected-tag-name-but-got-question-mark"], none, c :: r) := by
  have e := one_eq (k := 63) (by decide +kernel) h''
  have := open_two h1 h2
  subst e
  simp [openF, h]
theorem open_no (h : isLet c = false) (h' : ((⟨#[c]⟩ : Str) == Str.ofString ">") = false) (h'' : ((⟨#[c]⟩ : Str) == Str.ofString "?") = false) : openF (c :: r) = ([fD "expected-tag-name", gD 1 "<"], none, c :: r) := by
  have e := one_ne (k := 63) (by decide +kernel) h''
  have e2 := one_ne (k := 62) (by decide +kernel) h'
  simp [openF, h, open_two h1 h2, e, e2]
end
section
variable {prog : Program} {w : World} {p : Program} {loose : List Str} {mean : ExcName → Option Value} {mg mb : Str → Option Value}
   {dp un : Nat} {gd : Option (List Code)} {cn : Str} {cs : Scope} {a : Addr} {ccd : Value} {cl : List (Str × Addr)} {outer : List Env} {A₀ : Around} {base h₀ : Heap} {L : Addr} {m : Str → Option Value} {rest : List (Addr × Obj)} {s : Shared}
    {Q E : Value → Shared → Prop}
theorem open_t {G : TA} {σ : SS} {st : Value} {qn : Nat} {r : List Nat} (hG : SepG G) (ht0 : TxtOk G.A) (I : Inv G.A σ r) (hr : r.length ≤ 1500)
    (B : Below A₀ base outer h₀) (F : Fr h₀ L s.heap m) (X : (Mine.hd.heap_1 w.params).In h₀)
    (N : News h₀ L s.heap (tkL w G ⟨σ, st, .none, [], qn⟩ rest)) (off : OffR G rest)
    (T : Top p loose mean mg mb h₀) (hk : cs.kind = .function) (hd : dp + 50 < recursionLimit) (hu : un + 500 < cLine)
    (ret : ∀ σ' sa own qs cur' qn' h' tk', Inv G.A σ' (openF r).2.2 → OffR G own → All2 (RepT prog w own) qs (openF r).1 → RepC prog w own cur' (openF r).2.1 → Fr h₀ L h' m →
      News h₀ L h' (own ++ tkL w G ⟨σ', .ref sa, cur', qs, qn'⟩ rest) → Q (.bool true) { s with heap := h', toks := tk' }) :
    wpAny (model prog w) (ktrTop dp un gd cn cs L a ccd cl outer) (call (.ref 353) [.ref G.t]) Q E s := by
  k_with_none
  (k_with "nd" => first | k_asm | exact nd1 (by k_asm) | exact nd2 (by k_asm) | exact nd3 (by k_asm) | exact nd4 (by k_asm))
  (k_with "my_enter" => k_dflt (refine' code_def ?k1₉ ?k2₉ ?k3₉ ?k4₉ ?k5₉ ?kA₉ ?kF₉ ?kK₉ ?k6₉ ?k7₉ ?k8₉ ?k9₉ ?kB₉ ?_ ?c2₉ ?c3₉ ?c4₉ ?c5₉; (case kA₉ => exact rfl); (case kF₉ => exact rfl); (case kK₉ => first | exact rfl | assumption); (case k1₉ => k_asm); (case k2₉ => k_asm); (case k3₉ => k_asm); (case k4₉ => k_asm); (case k5₉ => k_asm); (case k6₉ => k_is); (case k7₉ => k_is); (case k8₉ => ktr_room); (case k9₉ => first | exact BindsTo.of_eq rfl | exact binds_K (by k_in) rfl (by k_is) rfl rfl rfl); (case c5₉ => decide); (case kB₉ => exact locs rfl); (case c2₉ => exact rfl); (case c3₉ => exact rfl); (case c4₉ => exact rfl); k_whole; intro g'₉ L'₉ h'₉ FG'₉ F'₉ N'₉ B'₉ X'₉ T'₉; (try dsimp only); (try k_fold)))
  (k_with "my_args" => ((case B₉ => k_asm); (case F₉ => k_asm); (case X₉ => k_asm); (case T₉ => k_asm); (case hk₉ => first | exact rfl | assumption); (case hd₉ => ktr_room); (case hu₉ => ktr_units)))
  (k_with "tp" => ((try dsimp only); with_reducible (first | assumption | exact TP.succ | exact TP.add2 | exact TP.add3 | exact TP.add4 | exact ⟨by omega⟩)))
  (k_with "forall" => ((with_reducible show (TP _ → _)); intro hT₉; dsimp only at hT₉))
  (k_with "execs nil" => (k_here; (with_reducible refine execsNG (by walk_at "tp") ?_); intro tk₉ htk₉; (try dsimp only)))
  (k_with "execs cons" => (k_here; (with_reducible refine execsQ (by walk_at "tp") ?_); intro Q9₉ hQ9₉ tk9₉ htk9₉; (try dsimp only)))
  (k_with "fslot" => first | exact FSlot.here (by with_reducible assumption) | (refine' FSlot.skip ?za₉ ?zc₉; (case za₉ => with_reducible assumption); (case zc₉ => walk_at "fslot")))
  (k_with "slot" => exact FSlot.slot (by with_reducible assumption) (by walk_at "fslot"))
  (k_with "getAttr ref" => (k_here; with_reducible (first | (refine' fget_stream ?F₉ ?X₉ ?N₉ ?S₉ ?_) | (refine' fget_tokenQueue ?F₉ ?X₉ ?N₉ ?S₉ ?_)); (case F₉ => k_asm); (case X₉ => k_asm); (case N₉ => k_asm); (case S₉ => walk_at "fslot"); k_whole; (try dsimp only)))
  (k_with "getAttr ref" => (k_here; with_reducible (first | (refine' fbound_dataState ?F₉ ?X₉ ?N₉ ?S₉ ?_) | (refine' fbound_bogusCommentState ?F₉ ?X₉ ?N₉ ?S₉ ?_) | (refine' fbound_tagNameState ?F₉ ?X₉ ?N₉ ?S₉ ?_) | (refine' fbound_markupDeclarationOpenState ?F₉ ?X₉ ?N₉ ?S₉ ?_) | (refine' fbound_closeTagOpenState ?F₉ ?X₉ ?N₉ ?S₉ ?_) | (refine' fbound_commentStartState ?F₉ ?X₉ ?N₉ ?S₉ ?_) | (refine' fbound_doctypeState ?F₉ ?X₉ ?N₉ ?S₉ ?_)); (case F₉ => k_asm); (case X₉ => k_asm); (case N₉ => k_asm); (case S₉ => walk_at "fslot"); k_whole; intro q'₉ h'₉ F'₉ N'₉; (try dsimp only); (try k_sweep)))
  (k_with "setAttr ref" => (k_here; with_reducible (first | (refine' fset_state ?F₉ ?X₉ ?N₉ ?S₉ (by assumption) ?_) | (refine' fset_currentToken ?F₉ ?X₉ ?N₉ ?S₉ (by assumption) ?_)); (case F₉ => k_asm); (case X₉ => k_asm); (case N₉ => k_asm); (case S₉ => walk_at "fslot"); k_whole; intro h'₉ F'₉ N'₉; (try dsimp only at N'₉); (try k_sweep)))
  (k_with "getMethod ref" => (k_here; with_reducible (first | (refine' smeth_char ?F₉ ?X₉ ?N₉ ?S₉ ?_) | (refine' smeth_unget ?F₉ ?X₉ ?N₉ ?S₉ ?_) | (refine' smeth_charsUntil ?F₉ ?X₉ ?N₉ ?S₉ ?_)); (case F₉ => k_asm); (case X₉ => k_asm); (case N₉ => k_asm); (case S₉ => walk_at "slot"); k_whole))
  (k_with "getMethod ref" => (k_here; with_reducible (refine' fmeth_append ?X₉ ?N₉ ?S₉ ?_); (case X₉ => k_asm); (case N₉ => k_asm); (case S₉ => walk_at "fslot"); k_whole; (try dsimp only)))
  (k_with "call builtin:list.append" => (k_here; with_reducible (refine' fapp ?F₉ ?X₉ ?N₉ ?S₉ (by assumption) ?l₉ ?_); (case F₉ => k_asm); (case X₉ => k_asm); (case N₉ => k_asm); (case S₉ => walk_at "fslot"); (case l₉ => simp only [List.length_nil, List.length_cons, List.nil_append]; omega); k_whole; intro h'₉ F'₉ N'₉; (try dsimp only [List.nil_append] at N'₉); (try k_sweep)))
  (k_with "call ref" => (k_here; (try dsimp only [List.append_nil, List.cons_append, List.nil_append]); (with_reducible show wpAny _ _ (call (Value.ref 133) [_]) _ _ _); k_dflt (refine' charF_t (by assumption) (by assumption) ?B₉ ?F₉ ?X₉ ?N₉ ?S₉ ?I₉ ?T₉ ?hk₉ ?hd₉ ?hu₉ ?_; walk_at "my_args"; (case N₉ => k_asm); (case S₉ => walk_at "fslot"); (case I₉ => assumption)); intro σ'₉ v'₉ h'₉ tk'₉ hT'₉ P'₉ F'₉ N'₉; (first | (obtain ⟨⟨tc'₉, ev'₉⟩, I'₉, bk'₉⟩ := CharPost.cons P'₉; subst ev'₉; (have bk2'₉ := bk'₉ _ (by first | with_reducible assumption | exact Back.nil _)); clear bk'₉ P'₉) | (obtain ⟨ev'₉, I'₉, o0'₉⟩ := CharPost.nil P'₉; subst ev'₉; clear P'₉) | skip); (try dsimp only at N'₉); (try dsimp only); (try k_sweep)))
  (k_with "call ref" => (k_here; (try dsimp only [List.append_nil, List.cons_append, List.nil_append]); (with_reducible show wpAny _ _ (call (Value.ref 156) [_, _]) _ _ _); k_dflt (refine' untilF_t (by assumption) (by assumption) ?B₉ ?F₉ ?X₉ ?N₉ ?S₉ ?I₉ ?T₉ ?hk₉ ?hd₉ ?hu₉ ?_; walk_at "my_args"; (case N₉ => k_asm); (case S₉ => walk_at "fslot"); (case I₉ => assumption)); intro σ'₉ y'₉ t'₉ h'₉ tk'₉ e'₉ I'₉ F'₉ N'₉; (have hl'₉ := until_len (by assumption) (by assumption) e'₉); (try dsimp only at N'₉); (try dsimp only); (try k_sweep)))
  (k_with "call builtin:str.replace" => ((refine replaceT (by walk_at "tp") (by walk_at "tp") (by first | exact Nat.ne_of_lt (Nat.lt_succ_self _) | omega) (by decide +kernel) (by omega) (by decide) (by walk_at "tp") ?_); intro t'₉ k'₉ hk'₉; (try dsimp only)))
  (k_with "callWith" => (k_here; (with_reducible show wpAny _ _ (callWith _ (Value.builtin _) _ (backTo _ (starEach (_ :: _) _)) []) _ _ _); (with_reducible refine' callWith_method1 ?_ ?he₉ ?hp₉); k_dflt ((case he₉ => exact rfl); (case hp₉ => exact rfl))))
  (k_with "eval Dict" => (k_here; k_dflt (refine' kdn_str ?q₉ ?F₉ ?N₉ ?b₉ ?a₉ ?l₉ ?e₉ ?n₉ ?_; (case q₉ => exact rfl); (case F₉ => k_asm); (case N₉ => k_asm); (case b₉ => exact Top.nolimit (by k_asm)); (case a₉ => exact rfl); (case l₉ => exact rfl); (case e₉ => exact List.cons_ne_nil _ _); (case n₉ => exact Nat.le_of_ble_eq_true rfl)); intro d'₉ h'₉ o'₉ F'₉ N'₉ l1₉ lo'₉ hd'₉; (have of'₉ := FSlot.off (by walk_at "fslot") l1₉); (try k_sweep)))
  (k_with "newList" => (k_here; k_dflt (refine' newList_K ?k1₉ ?k2₉ ?_; (case k1₉ => k_asm); (case k2₉ => k_asm); k_whole); intro l'₉ h'₉ F'₉ N'₉ l1₉; (have of'₉ := FSlot.off (by walk_at "fslot") l1₉); (try k_sweep)))
  (k_with "my_updF" => first | exact UpdF.head (ne_lt (by assumption)) | exact UpdF.tail (gt_head (by assumption)) (UpdF.head (ne_lt (by assumption))))
  (k_with "KdnMade" => (k_here; k_dflt (refine' kdn_made_str ?F₉ ?N₉ ?U₉ ?d₉ ?k₉ ?n₉ ?_; (case F₉ => k_asm); (case N₉ => k_asm); (case U₉ => walk_at "my_updF"); (case d₉ => k_asm); (case k₉ => exact rfl); (case n₉ => exact of_decide_eq_true (by first | rfl | kernel_rfl!)); intro h'₉ o'₉ F'₉ N'₉ hd'₉); (try dsimp only at N'₉); (try dsimp only); (try k_sweep)))
  (k_with "call ref" => (k_here; (try dsimp only [List.append_nil, List.cons_append, List.nil_append]); (with_reducible show wpAny _ _ (call (Value.ref 163) [_, Value.str _ _]) _ _ _); k_dflt (refine' ungetF_t (by assumption) ?B₉ ?F₉ ?X₉ ?N₉ ?S₉ ?I₉ ?b₉ ?l₉ ?T₉ ?hk₉ ?hd₉ ?hu₉ ?_; walk_at "my_args"; (case N₉ => k_asm); (case S₉ => walk_at "fslot"); (case I₉ => assumption); (case b₉ => with_reducible assumption); (case l₉ => (simp only [List.length_cons] at *; omega))); intro σ'₉ h'₉ tk'₉ hT'₉ P'₉ F'₉ N'₉; (obtain ⟨I'₉, bk'₉⟩ := UngetPost.out P'₉; clear P'₉); (try dsimp only at N'₉); (try dsimp only); (try k_sweep)))
  (k_with "compareOp In" => (k_here; (with_reducible show wpAny _ _ (compareOp CmpOp.In _ (Value.ref 27)) _ _ _); k_dflt (refine' in_letters ?F₉ ?X₉ ?x₉ ?_; (case F₉ => k_asm); (case X₉ => k_asm); (case x₉ => first | exact .inl ⟨_, _, rfl, rfl⟩ | exact .inr ⟨rfl, rfl⟩)); (try dsimp only)))
  (k_with "rep_all" => first | exact All2.nil | (refine' All2.cons ⟨rfl, ?_⟩ ?_; (focus walk_at "rep_leaf"); (focus walk_at "rep_all")))
  (k_with "rep_leaf" => first | exact rfl | exact ⟨_, rfl⟩ | exact ⟨_, _, rfl, by k_mem⟩ | exact ⟨_, _, _, rfl, by k_mem, by assumption, by assumption, by walk_at "rep_all"⟩)
  (k_with "rep" => exact ⟨_, _, _, rfl, by k_mem, by assumption, by assumption, by walk_at "rep_all"⟩)
  (k_with "reps" => first | exact All2.nil | (refine' All2.cons ?_ ?_; (focus walk_at "rep"); (focus walk_at "reps")))
  (k_with "repc" => first | exact rfl | walk_at "rep")
  (k_with "offr" => first | exact OffR.nil | (refine' OffR.cons ?zoa₉ ?zob₉; (case zoa₉ => with_reducible assumption); (case zob₉ => walk_at "offr")))
  (k_with "ends" => ((case I₉ => first | with_reducible assumption | assumption); (case O₉ => walk_at "offr"); (case A₉ => walk_at "reps"); (case C₉ => walk_at "repc")))
  (k_with "call ref" => (k_here; (try dsimp only [List.append_nil, List.cons_append, List.nil_append]); (with_reducible show wpAny _ _ (call (Value.ref 163) [_, Value.none]) _ _ _); k_dflt (refine' ungetN_t ?B₉ ?F₉ ?X₉ ?N₉ ?T₉ ?hk₉ ?hd₉ ?hu₉ ?_; walk_at "my_args"; (case N₉ => k_asm)); intro h'₉ tk'₉ F'₉ N'₉; (try dsimp only); (try k_sweep)))
  (k_with "my_steps" => (repeat' (first | (with_reducible refine GoOn.go (by with_reducible assumption) ?_; (try dsimp only)) | (k_unfold; (try dsimp only)) | (k_end; wrow_close) | walk1 | (dsimp only; walk1) | (leave1; (try dsimp only)) | fail "no step")))
  refine wpAny_call ?_
  rcases r with _ | ⟨c, r⟩
  · walk_at "my_enter"
    walk_at "my_steps"
    (refine' ret _ _ [_, _] [_, _] _ _ _ _ ?I₉ ?O₉ ?A₉ ?C₉ (by k_asm) (by k_asm); walk_at "ends")
  · rw [List.length_cons] at hr
    walk_at "my_enter"
    walk_at "my_steps"
    · rw [open_ex (by assumption)] at ret
      (refine' ret _ _ [] [] _ _ _ _ ?I₉ ?O₉ ?A₉ ?C₉ (by k_asm) (by k_asm); walk_at "ends")
    · rw [open_sl (by assumption)] at ret
      (refine' ret _ _ [] [] _ _ _ _ ?I₉ ?O₉ ?A₉ ?C₉ (by k_asm) (by k_asm); walk_at "ends")
    · rw [open_let (by assumption) (by assumption) (by assumption)] at ret
      (refine' ret _ _ [_, _] [] _ _ _ _ ?I₉ ?O₉ ?A₉ ?C₉ (by k_asm) (by k_asm); walk_at "ends")
    · rw [open_gt (by assumption) (by assumption) (by assumption) (by assumption)] at ret
      (refine' ret _ _ [_, _] [_, _] _ _ _ _ ?I₉ ?O₉ ?A₉ ?C₉ (by k_asm) (by k_asm); walk_at "ends")
    · rw [open_qu (by assumption) (by assumption) (by assumption) (by assumption) (by assumption)] at ret
      (refine' ret _ _ [_] [_] _ _ _ _ ?I₉ ?O₉ ?A₉ ?C₉ (by k_asm) (by k_asm); walk_at "ends")
    · rw [open_no (by assumption) (by assumption) (by assumption) (by assumption) (by assumption)] at ret
      (refine' ret _ _ [_, _] [_, _] _ _ _ _ ?I₉ ?O₉ ?A₉ ?C₉ (by k_asm) (by k_asm); walk_at "ends")
end

end
section -- I1
open PySem.Spec PySem.Calls PyProof.V
section
variable {prog : Program} {w : World} {A : Around} {E : Value → Shared → Prop} {s : Shared} {env : Env} {h₀ : Heap} {L : Addr} {target : PySem.Expr} {body : List Stmt} {Q : Flow → Shared → Prop}
/-- a loop over the items of a list, a tuple, an enumerate: what holds ahead of each turn -/
theorem rest_inv {ws : List (Addr × String)} {keep : List (Addr × Obj)} {xs : List Itm} (J : Nat → (Str → Option Value) → List (Addr × Obj) → Prop)
    (turn : ∀ i a m news, xs[i]? = some a → J i m news → ∀ v h tk, a.Is v h → Fr h₀ env.locals h m → AllObj ws (fun its => News h₀ env.locals h (its ++ news) →
      wpAny (model prog w) A (assign target env v) (fun _ s₂ => wpAny (model prog w) A (execs body env) (UnrPostW h₀ env.locals { s with heap := h, toks := tk } its (fun m' n' => SubL keep n' ∧ J (i + 1) m' n') Q) E s₂) E { s with heap := h, toks := tk }))
    (done : ∀ m news h tk, J xs.length m news → Fr h₀ env.locals h m → News h₀ env.locals h news → Q .next { s with heap := h, toks := tk }) :
    ∀ (k i : Nat) m news, xs.length - i = k → i ≤ xs.length → J i m news → ItemsRest prog w A E h₀ env target body Q s ws keep (xs.drop i) m news := by
  intro k
  induction k with
  | zero =>
    intro i m news hk hi hJ
    have e : i = xs.length := by omega
    subst e
    rw [List.drop_length]
    exact fun h tk F N => done m news h tk hJ F N
  | succ k ih =>
    intro i m news hk hi hJ
    have hlt : i < xs.length := by omega
    rw [List.drop_eq_getElem_cons hlt]
    intro v h tk ha F
    have key := turn i xs[i] m news (List.getElem?_eq_getElem hlt) hJ v h tk ha F
    have mono : ∀ (ws : List (Addr × String)) (P P' : List (Addr × Obj) → Prop), (∀ its, P its → P' its) → AllObj ws P → AllObj ws P' := by
      intro ws
      induction ws with
      | nil => exact fun P P' f x => f _ x
      | cons q r ihr => exact fun P P' f x o ho => ihr _ _ (fun its => f _) (x o ho)
    refine mono _ _ _ (fun its x N => ?_) key
    refine wpAny_mono (x N) (fun _ s₂ y => wpAny_mono y (fun f s₃ z => ?_) fun _ _ e => e) fun _ _ e => e
    have go : UnrEndW h₀ env.locals { s with heap := h, toks := tk } its (fun m' n' => SubL keep n' ∧ J (i + 1) m' n') s₃ → UnrEndW h₀ env.locals { s with heap := h, toks := tk } its (fun m' n' => SubL keep n' ∧ ItemsRest prog w A E h₀ env target body Q s ws keep (xs.drop (i + 1)) m' n') s₃ := by
      rintro ⟨h', tk', m', news', e, F', N', o, hk', hj⟩
      exact ⟨h', tk', m', news', e, F', N', o, hk', ih (i + 1) m' news' (by omega) (by omega) hj⟩
    cases f with
    | ret v => exact z
    | brk => exact z
    | cont => exact go z
    | next => exact go z
/-- a statement, cut where its ways meet -/
theorem exec_cut {M : Model} {st : Stmt} {env : Env} {Meet : Shared → Prop} (walk : wpAny M A (exec st env) (fun f s' => match f with | .next => Meet s' | f => Q f s') E s) (go : ∀ s', Meet s' → Q .next s') : wpAny M A (exec st env) Q E s :=
  wpAny_mono walk (fun f s' x => by cases f with | next => exact go s' x | _ => exact x) fun _ _ x => x
theorem fr_stored {h : Heap} {m₀ m₁ : Str → Option Value} (stored : List Str) (F : Fr h₀ L h m₁) (e : ∀ z, stored.contains z = false → m₁ z = m₀ z) : Fr h₀ L h (fun z => if stored.contains z then m₁ z else m₀ z) := by
  have em : (fun z => if stored.contains z then m₁ z else m₀ z) = m₁ := by
    funext z
    cases h : stored.contains z with
    | true => simp
    | false => simp [e z h]
  rw [em]; exact F
theorem fr_flag {h : Heap} {m₀ m₁ : Str → Option Value} {a b : Str} {v : Value} (F : Fr h₀ L h m₁) (e : ∀ z, [a, b].contains z = false → m₁ z = m₀ z) (ha : m₁ a = some v) : Fr h₀ L h (fun z => if z = a then some v else if [b].contains z then m₁ z else m₀ z) := by
  have em : (fun z => if z = a then some v else if [b].contains z then m₁ z else m₀ z) = m₁ := by
    funext z
    by_cases h1 : z = a
    · subst h1; simp [ha]
    · rw [if_neg h1]
      cases h : [b].contains z with
      | true => simp
      | false =>
        have : [a, b].contains z = false := by
          simp only [List.contains_cons, List.contains_nil, Bool.or_false, Bool.or_eq_false_iff, beq_eq_false_iff_ne] at h ⊢
          exact ⟨h1, h⟩
        simp [e z this]
  rw [em]; exact F
end
-- lists whose last item is known
section
variable {prog : Program} {w : World} {A : Around} {E : Value → Shared → Prop} {s : Shared} {h₀ : Heap} {L : Addr} {m : Str → Option Value} {l : Addr} {xs : List Value} {v : Value} {n : Nat} {tl : List (Addr × Obj)} {Q : Value → Shared → Prop}
theorem la_append (F : Fr h₀ L s.heap m) (N : News h₀ L s.heap ((l, listOf xs.toArray n) :: tl)) (hl : ∀ p ∈ tl, p.1 ≠ l) (hz : xs.length ≤ 1000)
    (h : ∀ h', Fr h₀ L h' m → News h₀ L h' ((l, listOf (xs ++ [v]).toArray (n + 1)) :: tl) → Q .none { s with heap := h' }) : wpAny (model prog w) A (call (.builtin "list.append") [.ref l, v]) Q E s := by
  have e : (xs ++ [v]).toArray = xs.toArray.push v := by simp
  rw [e] at h
  refine append_K (D := l) (its := xs.toArray) (n := n) F N (.head hl) h ?z
  rw [sizeLine_eq, List.size_toArray]; omega
theorem kl_last_app : ∀ (xs : List Value) (v : Value), kl_last (xs ++ [v]) = some (xs, v)
  | [], _ => rfl
  | x :: xs, v => by
    show (match kl_last (xs ++ [v]) with | some (p, y) => some (x :: p, y) | none => some ([], x)) = _
    rw [kl_last_app xs v]
theorem la_pop (F : Fr h₀ L s.heap m) (N : News h₀ L s.heap ((l, listOf (xs ++ [v]).toArray n) :: tl)) (hl : ∀ p ∈ tl, p.1 ≠ l) (hz : xs.length ≤ 1000)
    (h : ∀ h', Fr h₀ L h' m → News h₀ L h' ((l, listOf xs.toArray (n + 1)) :: tl) → Q v { s with heap := h' }) : wpAny (model prog w) A (call (.builtin "list.pop") [.ref l]) Q E s :=
  kl_pop (D := l) (its := (xs ++ [v]).toArray) (n := n) F N (by simpa using kl_last_app xs v) (.head hl) (by rw [sizeLine_eq]; simp; omega) h
theorem la_truthy {Q : Bool → Shared → Prop} (N : News h₀ L s.heap ((l, listOf xs.toArray n) :: tl)) (hz : xs.length ≤ 1000) (h : ∀ k, Q (!xs.isEmpty) { s with toks := k }) : wpAny (model prog w) A (truthy (.ref l)) Q E s := by
  have hl : s.heap.IsList l xs.toArray := ⟨_, (N _ (.head _)).1, rfl, n, rfl⟩
  refine wpAny_truthy_list hl (by rw [List.size_toArray]; omega) ?_
  have e : (!xs.toArray.isEmpty) = !xs.isEmpty := by cases xs <;> rfl
  rw [e]; exact h _
theorem la_truthy1 {Q : Bool → Shared → Prop} (N : News h₀ L s.heap ((l, listOf (xs ++ [v]).toArray n) :: tl)) (hz : (xs ++ [v]).length ≤ 1000) (h : ∀ k, Q true { s with toks := k }) : wpAny (model prog w) A (truthy (.ref l)) Q E s :=
  la_truthy N hz fun k => by
    have e : (!(xs ++ [v]).isEmpty) = true := by cases xs <;> rfl
    rw [e]; exact h k
theorem la_truthy0 {Q : Bool → Shared → Prop} (N : News h₀ L s.heap ((l, listOf ([] : List Value).toArray n) :: tl)) (h : ∀ k, Q false { s with toks := k }) : wpAny (model prog w) A (truthy (.ref l)) Q E s :=
  la_truthy N (Nat.zero_le _) fun k => h k
theorem news_swap {h : Heap} {a b : Addr × Obj} {r : List (Addr × Obj)} (N : News h₀ L h (a :: b :: r)) : News h₀ L h (b :: a :: r) := fun p hp => N p (by
  simp only [List.mem_cons] at hp ⊢
  rcases hp with h | h | h <;> simp [h])
theorem la_last {value slice : PySem.Expr} {u : Tok} (N : News h₀ L s.heap ((l, listOf (xs ++ [v]).toArray n) :: tl)) (hz : xs.length ≤ 1000) (h : Q v s)
    (hs : subscripted slice false (.ref l) (.int (-1) u) = operate [.ref l, .int (-1) u] (getItem (.ref l) (.int (-1) u)) := by with_unfolding_all rfl) :
    wpAny (model prog w) A (subscriptTail value slice (.ref l) (.int (-1) u)) Q E s := by
  have hl : s.heap.IsList l (xs ++ [v]).toArray := ⟨_, (N _ (.head _)).1, rfl, n, rfl⟩
  refine tail_any hl.typeIs slot_list_getitem.lookup (wpAny_getItem_list_neg hl (by decide) (by simp; omega) (by decide) ?_ h) hs
  have e : (-1 + (((xs ++ [v]).toArray.size : Nat) : Int)).toNat = xs.length := by simp; omega
  rw [e]; simp
end

end
section -- M1
open PySem.Spec PySem.Calls PyProof.V
def low (c : Nat) : Nat := if 65 ≤ c ∧ c ≤ 90 then c + 32 else c
def doctypeL : List Nat := [100, 111, 99, 116, 121, 112, 101]
def cmtD : DD := [(Str.ofString "type", .leaf (.int 6)), (Str.ofString "data", .leaf (.str (Str.ofString "")))]
def docD : DD := [(Str.ofString "type", .leaf (.int 0)), (Str.ofString "name", .leaf (.str (Str.ofString ""))), (Str.ofString "publicId", .leaf .none), (Str.ofString "systemId", .leaf .none), (Str.ofString "correct", .leaf (.bool true))]
def markF (l : List Nat) : Out := if l.take 2 = [45, 45] then ([], some cmtD, l.drop 2) else if (l.take 7).map low = doctypeL then ([], some docD, l.drop 7) else ([fD "expected-dashes-or-doctype"], none, l)
def NoMark (l : List Nat) : Prop := l.take 2 ≠ [45, 45] ∧ (l.take 7).map low ≠ doctypeL
theorem NoMark.is {l : List Nat} (h : NoMark l) : markF l = ([fD "expected-dashes-or-doctype"], none, l) := by
  unfold markF; rw [if_neg h.1, if_neg h.2]
def docPairs : List (Nat × Nat) := [(111, 79), (99, 67), (116, 84), (121, 89), (112, 80), (101, 69)]
theorem pair_gen {x y c : Nat} (h1 : 97 ≤ x) (h2 : x ≤ 122) (h3 : y + 32 = x) : (c = x ∨ c = y) ↔ some x = some (low c) := by
  unfold low
  rw [Option.some.injEq]
  split <;> omega
theorem pair_low : ∀ {i x y : Nat}, docPairs[i]? = some (x, y) → ∀ c, (c = x ∨ c = y) ↔ doctypeL[i + 1]? = some (low c) := by
  intro i x y h c
  have hi : i < 6 := (List.getElem?_eq_some_iff.mp h).1
  match i, hi with
  | 0, _ | 1, _ | 2, _ | 3, _ | 4, _ | 5, _ =>
    simp only [docPairs, List.getElem?_cons_succ, List.getElem?_cons_zero, Option.some.injEq, Prod.mk.injEq] at h
    obtain ⟨rfl, rfl⟩ := h
    exact pair_gen (by decide) (by decide) rfl
/-- what was read, the newest first -/
abbrev Rd := List (Nat × Tok)
def rdL (rd : Rd) : List Nat := rd.map (·.1)
def stk (rd : Rd) (e : Bool) : List Value := (rd.reverse.map fun p => Value.str ⟨#[p.1]⟩ p.2) ++ (if e then [.none] else [])
theorem stk_cons (rd : Rd) (c : Nat) (t : Tok) : stk ((c, t) :: rd) false = stk rd false ++ [.str ⟨#[c]⟩ t] := by simp [stk]
theorem stk_none (rd : Rd) : stk rd true = stk rd false ++ [.none] := by simp [stk]
theorem stk_len (rd : Rd) (e : Bool) : (stk rd e).length ≤ rd.length + 1 := by cases e <;> simp [stk]
theorem stk_nil : stk [] false = [] := rfl
structure StkOk (A : SA) (σ : SS) (rd : Rd) (full : List Nat) : Prop where
  ex : ∃ rc, Inv A σ rc ∧ Back σ (rdL rd) ∧ (rdL rd).reverse ++ rc = full
theorem no_mark {rd : Rd} {rc : List Nat} {i : Nat} (hl : rd.length = i + 1) (hi : i < 6) (hd : (rdL rd).reverse.map low = doctypeL.take (i + 1)) (hx : rc = [] ∨ ∃ c rc', rc = c :: rc' ∧ doctypeL[i + 1]? ≠ some (low c)) :
    NoMark ((rdL rd).reverse ++ rc) := by
  have ll : (rdL rd).reverse.length = i + 1 := by simp [rdL, hl]
  constructor
  · intro h
    have h0 : ((rdL rd).reverse ++ rc)[0]? = some 45 := by
      have := congrArg (fun l => l[0]?) h
      simpa [List.getElem?_take] using this
    rw [List.getElem?_append_left (by omega)] at h0
    have h1 : ((rdL rd).reverse.map low)[0]? = some (low 45) := by rw [List.getElem?_map, h0]; rfl
    rw [hd] at h1
    simp [doctypeL, low] at h1
  · intro h
    have h1 := congrArg (fun l => l[i + 1]?) h
    simp only [List.getElem?_map] at h1
    rw [List.getElem?_take_of_lt (by omega), List.getElem?_append_right (by omega), ll, Nat.sub_self] at h1
    rcases hx with rfl | ⟨c, rc', rfl, hc⟩
    · have : i + 1 < doctypeL.length := by simp [doctypeL]; omega
      rw [List.getElem?_eq_getElem this] at h1
      simp at h1
    · exact hc (by rw [← h1]; rfl)
theorem yes_mark {rd : Rd} {rc : List Nat} (hl : rd.length = 7) (hd : (rdL rd).reverse.map low = doctypeL) : markF ((rdL rd).reverse ++ rc) = ([], some docD, rc) := by
  have ll : (rdL rd).reverse.length = 7 := by simp [rdL, hl]
  have h7 : ((rdL rd).reverse ++ rc).take 7 = (rdL rd).reverse := by rw [← ll]; simp
  have d7 : ((rdL rd).reverse ++ rc).drop 7 = rc := by rw [← ll]; simp
  unfold markF
  rw [if_neg, if_pos (by rw [h7]; exact hd), d7]
  intro h
  have h0 : ((rdL rd).reverse ++ rc)[0]? = some 45 := by
    have := congrArg (fun l => l[0]?) h
    simpa [List.getElem?_take] using this
  rw [List.getElem?_append_left (by omega)] at h0
  have h1 : ((rdL rd).reverse.map low)[0]? = some (low 45) := by rw [List.getElem?_map, h0]; rfl
  rw [hd] at h1
  simp [doctypeL, low] at h1
abbrev tup2s (x y : Nat) (tx ty : Tok) : Obj := { cls := .type "tuple", data := .seq #[.str ⟨#[x]⟩ tx, .str ⟨#[y]⟩ ty] }
theorem FSlot.front {w : World} {G : TA} {g : TS} {l : List (Addr × Obj)} {f : TS → List (Addr × Obj)} (S : FSlot w G g l f) : ∀ fr : List (Addr × Obj), OffR G fr → FSlot w G g (fr ++ l) (fun g' => fr ++ f g')
  | [], _ => S
  | q :: fr, h => .skip (h q (.head _)) (FSlot.front S fr fun p hp => h p (.tail _ hp))
theorem tkL_all {w : World} {G : TA} {g : TS} {rest r2 : List (Addr × Obj)} {P : Addr × Obj → Prop} (h : ∀ p ∈ tkL w G g rest, P p) (h2 : ∀ p ∈ r2, P p) : ∀ p ∈ tkL w G g (r2 ++ rest), P p := by
  intro p hp
  unfold tkL stL at hp h
  simp only [List.mem_cons, List.mem_append, forall_eq_or_imp] at hp h
  obtain ⟨h1, h2', h3, h4, h5, h6, h7, h8, h9, h10⟩ := h
  rcases hp with rfl | rfl | rfl | rfl | rfl | rfl | rfl | rfl | rfl | hp | hp
  · exact h1
  · exact h2'
  · exact h3
  · exact h4
  · exact h5
  · exact h6
  · exact h7
  · exact h8
  · exact h9
  · exact h2 p hp
  · exact h10 p hp
theorem mem_doc {α : Type} {i x p : α} {TT T rest : List α} (h : p ∈ x :: (T ++ (i :: (TT ++ rest)))) : p ∈ [i] ++ (TT ++ x :: (T ++ rest)) := by
  simp only [List.mem_cons, List.mem_append, List.not_mem_nil, or_false] at h ⊢
  rcases h with h | h | h | h | h <;> simp only [h, true_or, or_true]
theorem mem_docR {α : Type} {i x p : α} {TT T rest : List α} (h : p ∈ [i] ++ (TT ++ x :: (T ++ rest))) : p ∈ x :: (T ++ (i :: (TT ++ rest))) := by
  simp only [List.mem_cons, List.mem_append, List.not_mem_nil, or_false] at h ⊢
  rcases h with h | h | h | h | h <;> simp only [h, true_or, or_true]
section
variable {prog : Program} {w : World} {A : Around} {E : Value → Shared → Prop} {s : Shared} {env : Env} {h₀ : Heap} {L : Addr} {target : PySem.Expr} {body : List Stmt} {Q : Flow → Shared → Prop} {m₀ : Str → Option Value}
def TPost (w : World) (h₀ : Heap) (L : Addr) (m₀ : Str → Option Value) (G : TA) (rest : List (Addr × Obj)) (l : Addr) (st : Value) (qn : Nat) (x y : Nat) (rc : List Nat) (rd : Rd) (s : Shared) (f : Flow) (s' : Shared) : Prop := match f with
  | .brk => ∃ σ' e rd' n h' tk' m', s' = { s with heap := h', toks := tk' } ∧ Fr h₀ L h' m' ∧ (∀ z, [Str.ofString "matched", Str.ofString "expected"].contains z = false → m' z = m₀ z) ∧ m' (Str.ofString "matched") = some (.bool false) ∧
      News h₀ L h' ((l, listOf (stk rd' e).toArray n) :: tkL w G ⟨σ', st, .none, [], qn⟩ rest) ∧ StkOk G.A σ' rd' ((rdL rd).reverse ++ rc) ∧ rd'.length ≤ rd.length + 1 ∧ (rc = [] ∨ ∃ c rc', rc = c :: rc' ∧ ¬ (c = x ∨ c = y))
  | .next => ∃ σ' c t rc' n h' tk' m', s' = { s with heap := h', toks := tk' } ∧ Fr h₀ L h' m' ∧ (∀ z, [Str.ofString "expected"].contains z = false → m' z = m₀ z) ∧
      News h₀ L h' ((l, listOf (stk ((c, t) :: rd) false).toArray n) :: tkL w G ⟨σ', st, .none, [], qn⟩ rest) ∧ rc = c :: rc' ∧ (c = x ∨ c = y) ∧ Inv G.A σ' rc' ∧ Back σ' (c :: rdL rd)
  | _ => False
/-- behind the loop over the six pairs -/
def ForP (w : World) (h₀ : Heap) (L : Addr) (m₀ : Str → Option Value) (G : TA) (rest : List (Addr × Obj)) (l : Addr) (st : Value) (qn : Nat) (full : List Nat) (s s' : Shared) : Prop :=
  ∃ σ' rd e n h' tk' m' b, s' = { s with heap := h', toks := tk' } ∧ Fr h₀ L h' m' ∧ (∀ z, [Str.ofString "matched", Str.ofString "expected"].contains z = false → m' z = m₀ z) ∧ m' (Str.ofString "matched") = some (.bool b) ∧
    News h₀ L h' ((l, listOf (stk rd e).toArray n) :: tkL w G ⟨σ', st, .none, [], qn⟩ rest) ∧ StkOk G.A σ' rd full ∧ rd.length ≤ 7 ∧ (b = true → rd.length = 7 ∧ (rdL rd).reverse.map low = doctypeL) ∧ (b = false → NoMark full)
theorem tkL_lt {w : World} {G : TA} {g : TS} {rest : List (Addr × Obj)} {d : Addr} (h : ∀ p ∈ tkL w G g rest, p.1 < d) (g' : TS) : ∀ p ∈ tkL w G g' rest, p.1 < d := by
  intro p hp
  unfold tkL stL at hp h
  simp only [List.mem_cons, forall_eq_or_imp] at hp h
  obtain ⟨h1, h2, h3, h4, h5, h6, h7, h8, h9, h10⟩ := h
  rcases hp with rfl | rfl | rfl | rfl | rfl | rfl | rfl | rfl | rfl | hp
  · exact h1
  · exact h2
  · exact h3
  · exact h4
  · exact h5
  · exact h6
  · exact h7
  · exact h8
  · exact h9
  · exact h10 p hp
theorem tkL_ne {w : World} {G : TA} {g : TS} {rest : List (Addr × Obj)} {d : Addr} (h : ∀ p ∈ tkL w G g rest, p.1 ≠ d) (g' : TS) : ∀ p ∈ tkL w G g' rest, p.1 ≠ d := by
  intro p hp
  unfold tkL stL at hp h
  simp only [List.mem_cons, forall_eq_or_imp] at hp h
  obtain ⟨h1, h2, h3, h4, h5, h6, h7, h8, h9, h10⟩ := h
  rcases hp with rfl | rfl | rfl | rfl | rfl | rfl | rfl | rfl | rfl | hp
  · exact h1
  · exact h2
  · exact h3
  · exact h4
  · exact h5
  · exact h6
  · exact h7
  · exact h8
  · exact h9
  · exact h10 p hp
theorem mem_mono {α : Type} {T r1 r2 : List α} {p : α} (h : ∀ p ∈ r1, p ∈ r2) (hp : p ∈ T ++ r1) : p ∈ T ++ r2 :=
  (List.mem_append.mp hp).elim (fun h => List.mem_append_left _ h) fun q => List.mem_append_right _ (h p q)
theorem tkL_rest {w : World} {G : TA} {g : TS} {r1 r2 : List (Addr × Obj)} (h : ∀ p ∈ r1, p ∈ r2) : ∀ p ∈ tkL w G g r1, p ∈ tkL w G g r2 :=
  fun _ hp => mem_mono (T := tkL w G g []) h hp
theorem tkL_mem {w : World} {G : TA} {g : TS} {r : List (Addr × Obj)} : ∀ p ∈ r, p ∈ tkL w G g r :=
  fun _ hp => List.mem_append_right (tkL w G g []) hp
theorem for_doc {Ds : List Value} {TT rest : List (Addr × Obj)} {D l : Addr} {n₀ nD : Nat} {G : TA} {σ : SS} {st : Value} {qn : Nat} {c : Nat} {t : Tok} {r : List Nat} (hh : A.handled = none)
    (F : Fr h₀ env.locals s.heap m₀) (N : News h₀ env.locals s.heap (TT ++ (l, listOf (stk [(c, t)] false).toArray n₀) :: tkL w G ⟨σ, st, .none, [], qn⟩ rest))
    (hm : m₀ (Str.ofString "matched") = some (.bool true)) (hc : low c = 100) (I : Inv G.A σ r) (Bk : Back σ [c])
    (hD : (D, { cls := .type "tuple", data := .seq Ds.toArray nD }) ∈ TT) (hlen : Ds.length = 6)
    (offTT : OffR G TT) (ol : Off G l) (offR : OffR G rest) (hTT : ∀ p ∈ TT, p.1 ≠ l) (hll : ∀ p ∈ tkL w G ⟨σ, st, .none, [], qn⟩ rest, p.1 ≠ l)
    (hP : ∀ (i : Nat) (v : Value), Ds[i]? = some v → ∃ (De : Addr) (x y : Nat) (tx ty : Tok), v = Value.ref De ∧ docPairs[i]? = some (x, y) ∧ (De, tup2s x y tx ty) ∈ TT)
    (turn : ∀ (De : Addr) (x y : Nat) (tx ty : Tok) (I : Addr) (o : Obj) (σ' : SS) (rd : Rd) (n : Nat) (rc : List Nat) (u : Str → Option Value) h tk, (De, tup2s x y tx ty) ∈ TT → OffR G ((I, o) :: (TT ++ rest)) → (∀ p ∈ tkL w G ⟨σ', st, .none, [], qn⟩ ((I, o) :: (TT ++ rest)), p.1 ≠ l) →
      Inv G.A σ' rc → Back σ' (rdL rd) → rd.length ≤ 6 → (rdL rd).reverse ++ rc = c :: r → Fr h₀ env.locals h (fun z => if [Str.ofString "expected"].contains z then u z else m₀ z) →
      News h₀ env.locals h ((l, listOf (stk rd false).toArray n) :: tkL w G ⟨σ', st, .none, [], qn⟩ ((I, o) :: (TT ++ rest))) →
      wpAny (model prog w) A (assign target env (.ref De)) (fun _ s₂ => wpAny (model prog w) A (execs body env) (TPost w h₀ env.locals m₀ G ((I, o) :: (TT ++ rest)) l st qn x y rc rd { s with heap := h, toks := tk }) E s₂) E { s with heap := h, toks := tk })
    (done : ∀ s', ForP w h₀ env.locals m₀ G rest l st qn (c :: r) s s' → Q .next s') :
    wpAny (model prog w) A (pyIter (.ref D)) (fun it s₂ => TurnsAt prog w A h₀ env target body Q E it s₂) E s := by
  refine iter_tupTurns (ax := D) (lo := { cls := .type "tuple", data := .seq Ds.toArray nD }) (vs := Ds) (n := nD) hh F N (List.mem_append_left _ hD) rfl rfl fun It lI => ?_
  have e0 : Ds.map Itm.val = (Ds.map Itm.val).drop 0 := rfl
  rw [e0]
  refine rest_inv (fun i m news => (∀ z, [Str.ofString "expected"].contains z = false → m z = m₀ z) ∧ ∃ σ' rd n, news = TT ++ (l, listOf (stk rd false).toArray n) :: tkL w G ⟨σ', st, .none, [], qn⟩ rest ∧
      (∃ rc, Inv G.A σ' rc ∧ Back σ' (rdL rd) ∧ (rdL rd).reverse ++ rc = c :: r) ∧ rd.length = i + 1 ∧ (rdL rd).reverse.map low = doctypeL.take (i + 1)) ?_ ?_ _ 0 _ _ rfl (Nat.zero_le _) ?_
  · rintro i a m news ha ⟨hmz, σ', rd, n, rfl, ⟨rc, I1, B1, e1⟩, hl, hd⟩ v h tk hv F1 o ho N1
    rw [List.getElem?_map] at ha
    obtain ⟨v', hv', rfl⟩ := Option.map_eq_some_iff.mp ha
    have hv : v = v' := hv
    subst hv
    obtain ⟨De, x, y, tx, ty, rfl, hxy, hmem⟩ := hP i v hv'
    have hi : i < 6 := (List.getElem?_eq_some_iff.mp hxy).1
    have hlow := pair_low hxy
    have N2 : News h₀ env.locals h ((l, listOf (stk rd false).toArray n) :: tkL w G ⟨σ', st, .none, [], qn⟩ ((It, o) :: (TT ++ rest))) :=
      fun _ hp => N1 _ (mem_doc (T := tkL w G ⟨σ', st, .none, [], qn⟩ []) hp)
    refine wpAny_mono (turn De x y tx ty It o σ' rd n rc m h tk hmem (OffR.cons (FSlot.off (FSlot.front (FSlot.skip (q := (l, listOf (stk [(c, t)] false).toArray n₀)) ol (FSlot.here offR)) TT offTT) lI) (offTT.app offR))
      (tkL_ne (tkL_all (r2 := (It, o) :: TT) hll fun p hp => (List.mem_cons.mp hp).elim (fun e => e ▸ Ne.symm (Nat.ne_of_lt (lI (l, listOf (stk [(c, t)] false).toArray n₀) (List.mem_append_right _ (.head _))))) (hTT p)) _) I1 B1 (by omega) e1 (fr_stored [Str.ofString "expected"] F1 hmz) N2) (fun _ s₂ z => wpAny_mono z (fun f s₃ p => ?_) fun _ _ e => e) fun _ _ e => e
    have back : ∀ {h' : Heap} {σ'' : SS} {xs : List Value} {n' : Nat}, News h₀ env.locals h' ((l, listOf xs.toArray n') :: tkL w G ⟨σ'', st, .none, [], qn⟩ ((It, o) :: (TT ++ rest))) → News h₀ env.locals h' ([(It, o)] ++ (TT ++ (l, listOf xs.toArray n') :: tkL w G ⟨σ'', st, .none, [], qn⟩ rest)) := by
      intro h' σ'' xs n' N' p hp
      exact N' p (mem_docR (T := tkL w G ⟨σ'', st, .none, [], qn⟩ []) hp)
    cases f with
    | ret v => exact p.elim
    | cont => exact p.elim
    | brk =>
      obtain ⟨σ'', e, rd', n', h', tk', m', rfl, F', hz', hb', N', K', hl', hx⟩ := p
      refine done _ ⟨σ'', rd', e, n', h', tk', m', false, rfl, F', hz', hb', ?_, e1 ▸ K', by omega, (fun q => nomatch q), fun _ => ?_⟩
      · intro p hp
        refine back N' p (List.mem_append_right _ (List.mem_append_right _ hp))
      · rw [← e1]
        refine no_mark hl hi hd ?_
        rcases hx with rfl | ⟨c', rc', rfl, hc'⟩
        · exact .inl rfl
        · exact .inr ⟨c', rc', rfl, fun q => hc' ((hlow c').mpr q)⟩
    | next =>
      obtain ⟨σ'', c', t', rc', n', h', tk', m', rfl, F', hz', N', rfl, hcx, I', B'⟩ := p
      refine ⟨h', tk', m', TT ++ (l, listOf (stk ((c', t') :: rd) false).toArray n') :: tkL w G ⟨σ'', st, .none, [], qn⟩ rest, rfl, F', back N', ?_, ?_, hz', σ'', (c', t') :: rd, n', rfl, ⟨rc', I', B', ?_⟩, by simp [hl], ?_⟩
      · intro p hp q hq
        rw [List.mem_singleton.mp hq]
        have : p.1 < It := by
          rcases List.mem_append.mp hp with hp | hp
          · exact lI p (List.mem_append_left _ hp)
          · rcases List.mem_cons.mp hp with rfl | hp
            · exact lI (l, listOf (stk [(c, t)] false).toArray n₀) (List.mem_append_right _ (.head _))
            · exact tkL_lt (fun q hq => lI q (List.mem_append_right _ (.tail _ hq))) _ p hp
        exact Nat.ne_of_lt this
      · exact And.intro (List.mem_append_left _ hD) trivial
      · rw [← e1]; simp [rdL]
      · have h1 := (hlow c').mp hcx
        have h2 : i + 1 < doctypeL.length := by simp [doctypeL]; omega
        rw [List.getElem?_eq_getElem h2] at h1
        have h3 : (rdL ((c', t') :: rd)).reverse = (rdL rd).reverse ++ [c'] := by simp [rdL]
        rw [h3, List.map_append, hd, List.take_succ_eq_append_getElem h2, List.map_cons, List.map_nil, Option.some.inj h1]
  · rintro m news h tk ⟨hmz, σ', rd, n, rfl, ⟨rc, I1, B1, e1⟩, hl, hd⟩ F1 N1
    rw [List.length_map, hlen] at hl hd
    refine done _ ⟨σ', rd, false, n, h, tk, m, true, rfl, F1, fun z hz => hmz z ?_, ?_, fun p hp => N1 p (List.mem_append_right _ hp), ⟨rc, I1, B1, e1⟩, by omega, fun _ => ⟨hl, hd⟩, (fun q => nomatch q)⟩
    · simp only [List.contains_cons, List.contains_nil, Bool.or_false, Bool.or_eq_false_iff] at hz ⊢
      exact hz.2
    · rw [hmz _ (by decide +kernel)]; exact hm
  · exact ⟨fun _ _ => rfl, σ, [(c, t)], n₀, rfl, ⟨r, I, Bk, rfl⟩, rfl, by simp [rdL, hc, doctypeL]⟩
end
theorem ne_lt' {d : Addr} {l : List (Addr × Obj)} (h : ∀ p ∈ l, p.1 < d) : ∀ p ∈ l, p.1 ≠ d := fun p hp => Nat.ne_of_lt (h p hp)
section
variable {prog : Program} {w : World} {A : Around} {E : Value → Shared → Prop} {s : Shared} {h₀ : Heap} {L D : Addr} {x y : Str} {tx ty : Tok} {n : Nat} {news : List (Addr × Obj)} {v : Value} {Q : Value → Shared → Prop}
/-- «v in (x, y)», two texts of one sign -/
def hit2 (a b : Nat) : Value → Bool
  | .str z _ => ((⟨#[a]⟩ : Str) == z) || ((⟨#[b]⟩ : Str) == z)
  | _ => false
theorem in_two {a b : Nat} (N : News h₀ L s.heap news) (hm : (D, { cls := .type "tuple", data := .seq #[.str x tx, .str y ty] n }) ∈ news) (ex : x = ⟨#[a]⟩) (ey : y = ⟨#[b]⟩) (hv : v = .none ∨ ∃ z t, v = .str z t) (h : Q (.bool (hit2 a b v)) s) :
    wpAny (model prog w) A (compareOp .In v (.ref D)) Q E s := by
  subst ex ey
  refine SeqAt.in_tupleAt (fun q => hitS (strOf v) (strOf q)) ⟨_, (N _ hm).1, rfl, n, rfl⟩ (fun q hq => ?_) ?_
  · have : q = .str ⟨#[a]⟩ tx ∨ q = .str ⟨#[b]⟩ ty := by simpa using hq
    rcases hv with rfl | ⟨z, t, rfl⟩ <;> rcases this with rfl | rfl
    · exact SeqAt.EqAt.str_none _ _
    · exact SeqAt.EqAt.str_none _ _
    · exact SeqAt.EqAt.str_str _ _ _ _
    · exact SeqAt.EqAt.str_str _ _ _ _
  · have e : (#[Value.str ⟨#[a]⟩ tx, Value.str ⟨#[b]⟩ ty] : Array Value).any (fun q => hitS (strOf v) (strOf q)) = hit2 a b v := by
      rcases hv with rfl | ⟨z, t, rfl⟩ <;> simp [hitS, strOf, hit2]
    rw [e]; exact h
theorem notIn_two {a b : Nat} (N : News h₀ L s.heap news) (hm : (D, { cls := .type "tuple", data := .seq #[.str x tx, .str y ty] n }) ∈ news) (ex : x = ⟨#[a]⟩) (ey : y = ⟨#[b]⟩) (hv : v = .none ∨ ∃ z t, v = .str z t) (h : Q (.bool (!hit2 a b v)) s) :
    wpAny (model prog w) A (compareOp .NotIn v (.ref D)) Q E s := by
  subst ex ey
  refine SeqAt.notIn_tupleAt (fun q => hitS (strOf v) (strOf q)) ⟨_, (N _ hm).1, rfl, n, rfl⟩ (fun q hq => ?_) ?_
  · have : q = .str ⟨#[a]⟩ tx ∨ q = .str ⟨#[b]⟩ ty := by simpa using hq
    rcases hv with rfl | ⟨z, t, rfl⟩ <;> rcases this with rfl | rfl
    · exact SeqAt.EqAt.str_none _ _
    · exact SeqAt.EqAt.str_none _ _
    · exact SeqAt.EqAt.str_str _ _ _ _
    · exact SeqAt.EqAt.str_str _ _ _ _
  · have e : (#[Value.str ⟨#[a]⟩ tx, Value.str ⟨#[b]⟩ ty] : Array Value).any (fun q => hitS (strOf v) (strOf q)) = hit2 a b v := by
      rcases hv with rfl | ⟨z, t, rfl⟩ <;> simp [hitS, strOf, hit2]
    rw [e]; exact h
theorem hit2_yes {a b c : Nat} {t : Tok} (h : hit2 a b (.str ⟨#[c]⟩ t) = true) : c = a ∨ c = b := by
  simp [hit2] at h
  omega
theorem hit2_no {a b c : Nat} {t : Tok} (h : hit2 a b (.str ⟨#[c]⟩ t) = false) : ¬ (c = a ∨ c = b) := by
  simp [hit2] at h
  omega
end

end
section -- T5
open PySem.Spec PySem.Calls
theorem CharPost.split {A : SA} {σ σ' : SS} {r : List Nat} {v : Value} (h : CharPost A σ r v σ') : (r = [] ∧ v = .none ∧ Inv A σ' [] ∧ σ'.off = 0) ∨ ∃ c r', r = c :: r' ∧ (∃ t, v = .str ⟨#[c]⟩ t) ∧ Inv A σ' r' ∧ ∀ st, Back σ st → Back σ' (c :: st) := by
  cases r with
  | nil => exact .inl ⟨rfl, h⟩
  | cons c r => exact .inr ⟨c, r, rfl, h⟩
/-- where the ways of markupDeclarationOpenState meet -/
def MeetP (w : World) (h₀ : Heap) (L : Addr) (m₀ : Str → Option Value) (G : TA) (rest : List (Addr × Obj)) (l : Addr) (st : Value) (qn : Nat) (full : List Nat) (s s' : Shared) : Prop :=
  ∃ σ' rd e n h' tk' m', s' = { s with heap := h', toks := tk' } ∧ Fr h₀ L h' m' ∧ (∀ z, [Str.ofString "matched", Str.ofString "expected"].contains z = false → m' z = m₀ z) ∧
    News h₀ L h' ((l, listOf (stk rd e).toArray n) :: tkL w G ⟨σ', st, .none, [], qn⟩ rest) ∧ StkOk G.A σ' rd full ∧ rd.length ≤ 7 ∧ NoMark full
theorem stk_app (rd : Rd) (v : Value) : (stk rd false ++ [v]).length ≤ rd.length + 1 := by simp [stk]
structure Flag : Prop where
  out : True
section
variable {M : Model} {A : Around} {E : Value → Shared → Prop} {s : Shared} {env : Env} {h₀ : Heap} {L : Addr} {m₀ : Str → Option Value} {Q : Flow → Shared → Prop} {l : Addr} {o : Obj} {tl : List (Addr × Obj)}
theorem mark_cut {S : Stmt} (w : World) (G : TA) (rest : List (Addr × Obj)) (st : Value) (qn : Nat) (full : List Nat) (_ : Fr h₀ L s.heap m₀) (_ : News h₀ L s.heap ((l, o) :: tl))
    (walk : wpAny M A (exec S env) (fun f s' => match f with | .next => MeetP w h₀ L m₀ G rest l st qn full s s' | f => Q f s') E s) (go : ∀ s', MeetP w h₀ L m₀ G rest l st qn full s s' → Q .next s') : wpAny M A (exec S env) Q E s := exec_cut walk go
theorem for_cut {S : Stmt} (w : World) (G : TA) (rest : List (Addr × Obj)) (st : Value) (qn : Nat) (full : List Nat) (_ : Fr h₀ L s.heap m₀) (_ : News h₀ L s.heap ((l, o) :: tl))
    (walk : wpAny M A (exec S env) (fun f s' => match f with | .next => ForP w h₀ L m₀ G rest l st qn full s s' | f => Q f s') E s) (go : ∀ s', ForP w h₀ L m₀ G rest l st qn full s s' → Q .next s') : wpAny M A (exec S env) Q E s := exec_cut walk go
end
section
variable {prog : Program} {w : World} {p : Program} {loose : List Str} {mean : ExcName → Option Value} {mg mb : Str → Option Value}
   {dp un : Nat} {gd : Option (List Code)} {cn : Str} {cs : Scope} {a : Addr} {ccd : Value} {cl : List (Str × Addr)} {outer : List Env} {A₀ : Around} {base h₀ : Heap} {L : Addr} {m : Str → Option Value} {rest : List (Addr × Obj)} {s : Shared}
    {Q E : Value → Shared → Prop}
theorem not_two {z a b : Str} (h : [a, b].contains z = false) : z ≠ a ∧ z ≠ b ∧ [b].contains z = false := by
  simp only [List.contains_cons, List.contains_nil, Bool.or_false, Bool.or_eq_false_iff, beq_eq_false_iff_ne] at h ⊢
  exact ⟨h.1, h.2, h.2⟩
theorem tup_o : Str.ofString "o" = ⟨#[111]⟩ := by decide +kernel
theorem tup_O : Str.ofString "O" = ⟨#[79]⟩ := by decide +kernel
theorem tup_c : Str.ofString "c" = ⟨#[99]⟩ := by decide +kernel
theorem tup_C : Str.ofString "C" = ⟨#[67]⟩ := by decide +kernel
theorem tup_t : Str.ofString "t" = ⟨#[116]⟩ := by decide +kernel
theorem tup_T : Str.ofString "T" = ⟨#[84]⟩ := by decide +kernel
theorem tup_y : Str.ofString "y" = ⟨#[121]⟩ := by decide +kernel
theorem tup_Y : Str.ofString "Y" = ⟨#[89]⟩ := by decide +kernel
theorem tup_p : Str.ofString "p" = ⟨#[112]⟩ := by decide +kernel
theorem tup_P : Str.ofString "P" = ⟨#[80]⟩ := by decide +kernel
theorem tup_e : Str.ofString "e" = ⟨#[101]⟩ := by decide +kernel
theorem tup_E : Str.ofString "E" = ⟨#[69]⟩ := by decide +kernel
theorem low_d {c : Nat} (h : c = 100 ∨ c = 68) : low c = 100 := by rcases h with rfl | rfl <;> rfl
theorem no_mark1 {c : Nat} {r : List Nat} (h1 : c ≠ 45) (h2 : ¬ (c = 100 ∨ c = 68)) : NoMark (c :: r) := by
  constructor
  · intro h; cases r <;> simp at h; exact h1 h.1
  · intro h
    simp only [List.take_succ_cons, List.map_cons, doctypeL, List.cons.injEq] at h
    have := h.1
    unfold low at this
    split at this <;> omega
theorem no_mark0 : NoMark [] := ⟨by decide, by decide⟩
theorem no_mark2 {c : Nat} {r : List Nat} (h1 : c = 45) (h2 : r = [] ∨ ∃ d r', r = d :: r' ∧ d ≠ 45) : NoMark (c :: r) := by
  subst h1
  constructor
  · rcases h2 with rfl | ⟨d, r', rfl, hd⟩
    · simp
    · simp [hd]
  · intro h
    simp [doctypeL, low] at h
theorem mark_two {c d : Nat} {r : List Nat} (h1 : c = 45) (h2 : d = 45) : markF (c :: d :: r) = ([], some cmtD, r) := by
  subst h1 h2; rfl
theorem mark_t {G : TA} {σ : SS} {st : Value} {qn : Nat} {r : List Nat} (hG : SepG G) (ht0 : TxtOk G.A) (I : Inv G.A σ r) (hr : r.length ≤ 1500)
    (B : Below A₀ base outer h₀) (F : Fr h₀ L s.heap m) (X : (Mine.hd.heap_1 w.params).In h₀)
    (N : News h₀ L s.heap (tkL w G ⟨σ, st, .none, [], qn⟩ rest)) (off : OffR G rest)
    (T : Top p loose mean mg mb h₀) (hk : cs.kind = .function) (hd : dp + 50 < recursionLimit) (hu : un + 500 < cLine)
    (ret : ∀ σ' sa own qs cur' qn' h' tk', Inv G.A σ' (markF r).2.2 → OffR G own → All2 (RepT prog w own) qs (markF r).1 → RepC prog w own cur' (markF r).2.1 → Fr h₀ L h' m →
      News h₀ L h' (own ++ tkL w G ⟨σ', .ref sa, cur', qs, qn'⟩ rest) → Q (.bool true) { s with heap := h', toks := tk' }) :
    wpAny (model prog w) (ktrTop dp un gd cn cs L a ccd cl outer) (call (.ref 605) [.ref G.t]) Q E s := by
  k_with_none
  (k_with "nd" => first | k_asm | exact nd1 (by k_asm) | exact nd2 (by k_asm) | exact nd3 (by k_asm) | exact nd4 (by k_asm))
  (k_with "my_enter" => k_dflt (refine' code_def ?k1₉ ?k2₉ ?k3₉ ?k4₉ ?k5₉ ?kA₉ ?kF₉ ?kK₉ ?k6₉ ?k7₉ ?k8₉ ?k9₉ ?kB₉ ?_ ?c2₉ ?c3₉ ?c4₉ ?c5₉; (case kA₉ => exact rfl); (case kF₉ => exact rfl); (case kK₉ => first | exact rfl | assumption); (case k1₉ => k_asm); (case k2₉ => k_asm); (case k3₉ => k_asm); (case k4₉ => k_asm); (case k5₉ => k_asm); (case k6₉ => k_is); (case k7₉ => k_is); (case k8₉ => ktr_room); (case k9₉ => first | exact BindsTo.of_eq rfl | exact binds_K (by k_in) rfl (by k_is) rfl rfl rfl); (case c5₉ => decide); (case kB₉ => exact locs rfl); (case c2₉ => exact rfl); (case c3₉ => exact rfl); (case c4₉ => exact rfl); k_whole; intro g'₉ L'₉ h'₉ FG'₉ F'₉ N'₉ B'₉ X'₉ T'₉; (try dsimp only); (try k_fold)))
  (k_with "my_args" => ((case B₉ => k_asm); (case F₉ => k_asm); (case X₉ => k_asm); (case T₉ => k_asm); (case hk₉ => first | exact rfl | assumption); (case hd₉ => ktr_room); (case hu₉ => ktr_units)))
  (k_with "tp" => ((try dsimp only); with_reducible (first | assumption | exact TP.succ | exact TP.add2 | exact TP.add3 | exact TP.add4 | exact ⟨by omega⟩)))
  (k_with "forall" => ((with_reducible show (TP _ → _)); intro hT₉; dsimp only at hT₉))
  (k_with "execs nil" => (k_here; (with_reducible refine execsNG (by walk_at "tp") ?_); intro tk₉ htk₉; (try dsimp only)))
  (k_with "execs cons" => (k_here; (with_reducible refine execsQ (by walk_at "tp") ?_); intro Q9₉ hQ9₉ tk9₉ htk9₉; (try dsimp only)))
  (k_with "fslot" => first | exact FSlot.here (by with_reducible assumption) | (refine' FSlot.skip ?za₉ ?zc₉; (case za₉ => with_reducible assumption); (case zc₉ => walk_at "fslot")))
  (k_with "slot" => exact FSlot.slot (by with_reducible assumption) (by walk_at "fslot"))
  (k_with "getAttr ref" => (k_here; with_reducible (first | (refine' fget_stream ?F₉ ?X₉ ?N₉ ?S₉ ?_) | (refine' fget_tokenQueue ?F₉ ?X₉ ?N₉ ?S₉ ?_)); (case F₉ => k_asm); (case X₉ => k_asm); (case N₉ => k_asm); (case S₉ => walk_at "fslot"); k_whole; (try dsimp only)))
  (k_with "getAttr ref" => (k_here; with_reducible (first | (refine' fbound_dataState ?F₉ ?X₉ ?N₉ ?S₉ ?_) | (refine' fbound_bogusCommentState ?F₉ ?X₉ ?N₉ ?S₉ ?_) | (refine' fbound_tagNameState ?F₉ ?X₉ ?N₉ ?S₉ ?_) | (refine' fbound_markupDeclarationOpenState ?F₉ ?X₉ ?N₉ ?S₉ ?_) | (refine' fbound_closeTagOpenState ?F₉ ?X₉ ?N₉ ?S₉ ?_) | (refine' fbound_commentStartState ?F₉ ?X₉ ?N₉ ?S₉ ?_) | (refine' fbound_doctypeState ?F₉ ?X₉ ?N₉ ?S₉ ?_)); (case F₉ => k_asm); (case X₉ => k_asm); (case N₉ => k_asm); (case S₉ => walk_at "fslot"); k_whole; intro q'₉ h'₉ F'₉ N'₉; (try dsimp only); (try k_sweep)))
  (k_with "setAttr ref" => (k_here; with_reducible (first | (refine' fset_state ?F₉ ?X₉ ?N₉ ?S₉ (by assumption) ?_) | (refine' fset_currentToken ?F₉ ?X₉ ?N₉ ?S₉ (by assumption) ?_)); (case F₉ => k_asm); (case X₉ => k_asm); (case N₉ => k_asm); (case S₉ => walk_at "fslot"); k_whole; intro h'₉ F'₉ N'₉; (try dsimp only at N'₉); (try k_sweep)))
  (k_with "getMethod ref" => (k_here; with_reducible (first | (refine' smeth_char ?F₉ ?X₉ ?N₉ ?S₉ ?_) | (refine' smeth_unget ?F₉ ?X₉ ?N₉ ?S₉ ?_) | (refine' smeth_charsUntil ?F₉ ?X₉ ?N₉ ?S₉ ?_)); (case F₉ => k_asm); (case X₉ => k_asm); (case N₉ => k_asm); (case S₉ => walk_at "slot"); k_whole))
  (k_with "getMethod ref" => (k_here; with_reducible (refine' fmeth_append ?X₉ ?N₉ ?S₉ ?_); (case X₉ => k_asm); (case N₉ => k_asm); (case S₉ => walk_at "fslot"); k_whole; (try dsimp only)))
  (k_with "call builtin:list.append" => (k_here; with_reducible (refine' fapp ?F₉ ?X₉ ?N₉ ?S₉ (by assumption) ?l₉ ?_); (case F₉ => k_asm); (case X₉ => k_asm); (case N₉ => k_asm); (case S₉ => walk_at "fslot"); (case l₉ => simp only [List.length_nil, List.length_cons, List.nil_append]; omega); k_whole; intro h'₉ F'₉ N'₉; (try dsimp only [List.nil_append] at N'₉); (try k_sweep)))
  (k_with "call ref" => (k_here; (try dsimp only [List.append_nil, List.cons_append, List.nil_append]); (with_reducible show wpAny _ _ (call (Value.ref 133) [_]) _ _ _); k_dflt (refine' charF_t (by assumption) (by assumption) ?B₉ ?F₉ ?X₉ ?N₉ ?S₉ ?I₉ ?T₉ ?hk₉ ?hd₉ ?hu₉ ?_; walk_at "my_args"; (case N₉ => k_asm); (case S₉ => walk_at "fslot"); (case I₉ => assumption)); intro σ'₉ v'₉ h'₉ tk'₉ hT'₉ P'₉ F'₉ N'₉; (first | (obtain ⟨⟨tc'₉, ev'₉⟩, I'₉, bk'₉⟩ := CharPost.cons P'₉; subst ev'₉; (have bk2'₉ := bk'₉ _ (by first | with_reducible assumption | exact Back.nil _)); clear bk'₉ P'₉) | (obtain ⟨ev'₉, I'₉, o0'₉⟩ := CharPost.nil P'₉; subst ev'₉; clear P'₉) | ((have fl'₉ : Flag := by assumption); k_dflt (rcases CharPost.split P'₉ with ⟨er'₉, ev'₉, I'₉, o0'₉⟩ | ⟨c'₉, r'₉, er'₉, ⟨tc'₉, ev'₉⟩, I'₉, bk'₉⟩); all_goals (subst ev'₉; subst er'₉; clear P'₉); all_goals (try ((have bk2'₉ := bk'₉ _ (by first | with_reducible assumption | exact Back.nil _)); clear bk'₉))) | skip); all_goals ((try dsimp only at N'₉); (try dsimp only); (try k_sweep))))
  (k_with "call ref" => (k_here; (try dsimp only [List.append_nil, List.cons_append, List.nil_append]); (with_reducible show wpAny _ _ (call (Value.ref 156) [_, _]) _ _ _); k_dflt (refine' untilF_t (by assumption) (by assumption) ?B₉ ?F₉ ?X₉ ?N₉ ?S₉ ?I₉ ?T₉ ?hk₉ ?hd₉ ?hu₉ ?_; walk_at "my_args"; (case N₉ => k_asm); (case S₉ => walk_at "fslot"); (case I₉ => assumption)); intro σ'₉ y'₉ t'₉ h'₉ tk'₉ e'₉ I'₉ F'₉ N'₉; (have hl'₉ := until_len (by assumption) (by assumption) e'₉); (try dsimp only at N'₉); (try dsimp only); (try k_sweep)))
  (k_with "call builtin:str.replace" => ((refine replaceT (by walk_at "tp") (by walk_at "tp") (by first | exact Nat.ne_of_lt (Nat.lt_succ_self _) | omega) (by decide +kernel) (by omega) (by decide) (by walk_at "tp") ?_); intro t'₉ k'₉ hk'₉; (try dsimp only)))
  (k_with "callWith" => (k_here; (with_reducible show wpAny _ _ (callWith _ (Value.builtin _) _ (backTo _ (starEach (_ :: _) _)) []) _ _ _); (with_reducible refine' callWith_method1 ?_ ?he₉ ?hp₉); k_dflt ((case he₉ => exact rfl); (case hp₉ => exact rfl))))
  (k_with "eval Dict" => (k_here; k_dflt (refine' kdn_str ?q₉ ?F₉ ?N₉ ?b₉ ?a₉ ?l₉ ?e₉ ?n₉ ?_; (case q₉ => exact rfl); (case F₉ => k_asm); (case N₉ => k_asm); (case b₉ => exact Top.nolimit (by k_asm)); (case a₉ => exact rfl); (case l₉ => exact rfl); (case e₉ => exact List.cons_ne_nil _ _); (case n₉ => exact Nat.le_of_ble_eq_true rfl)); intro d'₉ h'₉ o'₉ F'₉ N'₉ l1₉ lo'₉ hd'₉; (have of'₉ := FSlot.off (by walk_at "fslot") l1₉); (try k_sweep)))
  (k_with "newList" => (k_here; k_dflt (refine' newList_K ?k1₉ ?k2₉ ?_; (case k1₉ => k_asm); (case k2₉ => k_asm); k_whole); intro l'₉ h'₉ F'₉ N'₉ l1₉; (have of'₉ := FSlot.off (by walk_at "fslot") l1₉); (try k_sweep)))
  (k_with "my_updF" => first | exact UpdF.head (ne_lt (by assumption)) | exact UpdF.tail (gt_head (by assumption)) (UpdF.head (ne_lt (by assumption))))
  (k_with "KdnMade" => (k_here; k_dflt (refine' kdn_made_str ?F₉ ?N₉ ?U₉ ?d₉ ?k₉ ?n₉ ?_; (case F₉ => k_asm); (case N₉ => k_asm); (case U₉ => walk_at "my_updF"); (case d₉ => k_asm); (case k₉ => exact rfl); (case n₉ => exact of_decide_eq_true (by first | rfl | kernel_rfl!)); intro h'₉ o'₉ F'₉ N'₉ hd'₉); (try dsimp only at N'₉); (try dsimp only); (try k_sweep)))
  (k_with "call ref" => (k_here; (try dsimp only [List.append_nil, List.cons_append, List.nil_append]); (with_reducible show wpAny _ _ (call (Value.ref 163) [_, Value.str _ _]) _ _ _); k_dflt (refine' ungetF_t (by assumption) ?B₉ ?F₉ ?X₉ ?N₉ ?S₉ ?I₉ ?b₉ ?l₉ ?T₉ ?hk₉ ?hd₉ ?hu₉ ?_; walk_at "my_args"; (case N₉ => k_asm); (case S₉ => walk_at "fslot"); (case I₉ => assumption); (case b₉ => with_reducible assumption); (case l₉ => (simp only [List.length_cons] at *; omega))); intro σ'₉ h'₉ tk'₉ hT'₉ P'₉ F'₉ N'₉; (obtain ⟨I'₉, bk'₉⟩ := UngetPost.out P'₉; clear P'₉); (try dsimp only at N'₉); (try dsimp only); (try k_sweep)))
  (k_with "compareOp In" => (k_here; (with_reducible show wpAny _ _ (compareOp CmpOp.In _ (Value.ref 27)) _ _ _); k_dflt (refine' in_letters ?F₉ ?X₉ ?x₉ ?_; (case F₉ => k_asm); (case X₉ => k_asm); (case x₉ => first | exact .inl ⟨_, _, rfl, rfl⟩ | exact .inr ⟨rfl, rfl⟩)); (try dsimp only)))
  (k_with "rep_all" => first | exact All2.nil | (refine' All2.cons ⟨rfl, ?_⟩ ?_; (focus walk_at "rep_leaf"); (focus walk_at "rep_all")))
  (k_with "rep_leaf" => first | exact rfl | exact ⟨_, rfl⟩ | exact ⟨_, _, rfl, by k_mem⟩ | exact ⟨_, _, _, rfl, by k_mem, by assumption, by assumption, by walk_at "rep_all"⟩)
  (k_with "rep" => exact ⟨_, _, _, rfl, by k_mem, by assumption, by assumption, by walk_at "rep_all"⟩)
  (k_with "reps" => first | exact All2.nil | (refine' All2.cons ?_ ?_; (focus walk_at "rep"); (focus walk_at "reps")))
  (k_with "repc" => first | exact rfl | walk_at "rep")
  (k_with "offr" => first | exact OffR.nil | (refine' OffR.cons ?zoa₉ ?zob₉; (case zoa₉ => with_reducible assumption); (case zob₉ => walk_at "offr")))
  (k_with "ends" => ((case I₉ => first | with_reducible assumption | assumption); (case O₉ => walk_at "offr"); (case A₉ => walk_at "reps"); (case C₉ => walk_at "repc")))
  (k_with "call ref" => (k_here; (try dsimp only [List.append_nil, List.cons_append, List.nil_append]); (with_reducible show wpAny _ _ (call (Value.ref 163) [_, Value.none]) _ _ _); k_dflt (refine' ungetN_t ?B₉ ?F₉ ?X₉ ?N₉ ?T₉ ?hk₉ ?hd₉ ?hu₉ ?_; walk_at "my_args"; (case N₉ => k_asm)); intro h'₉ tk'₉ F'₉ N'₉; (try dsimp only); (try k_sweep)))
  (k_with "newTuple" => (k_here; k_dflt (refine' kup_newTuple ?F₉ ?N₉ ?_ ?z₉; (case F₉ => k_asm); (case N₉ => k_asm); (case z₉ => exact Nat.le_of_ble_eq_true rfl)); intro D'₉ h'₉ F'₉ N'₉ l1₉; (have of'₉ := FSlot.off (by walk_at "fslot") l1₉); (try k_lt l1₉); (try k_sweep)))
  (k_with "exec If" => ((with_reducible show wpAny _ _ (exec (Stmt.If _ _ (_ :: _) _) _) _ _ _); (fail_if_success (have fl'₉ : Flag := by assumption)); (with_reducible refine Hold.mk ?_)))
  (k_with "exec For" => (with_reducible refine Hold.mk ?_))
  (k_with "exec For Name Tuple cons nil" => (with_reducible refine Hold.mk ?_))
  (k_with "pyIter ref" => (with_reducible refine Hold.mk ?_))
  (k_with "exec While" => (with_reducible refine Hold.mk ?_))
  (k_with "exec While Name cons nil" => (with_reducible refine Hold.mk ?_))
  (k_with "MeetP" => (with_reducible refine Hold.mk ?_))
  (k_with "TPost" => (with_reducible refine Hold.mk ?_))
  (k_with "compareOp In" => (k_here; (with_reducible show wpAny _ _ (compareOp CmpOp.In _ (Value.ref _)) _ _ _); k_dflt (refine' in_two (a := 100) (b := 68) ?N₉ ?m₉ ?x₉ ?y₉ ?v₉ ?_; (case N₉ => k_asm); (case m₉ => k_mem); (case x₉ => decide +kernel); (case y₉ => decide +kernel); (case v₉ => first | exact .inl rfl | exact .inr ⟨_, _, rfl⟩)); (try dsimp only)))
  (k_with "compareOp In str ref" => (k_here; (with_reducible show wpAny _ _ (compareOp CmpOp.In _ (Value.ref _)) _ _ _); k_dflt (refine' in_two (a := 100) (b := 68) ?N₉ ?m₉ ?x₉ ?y₉ ?v₉ ?_; (case N₉ => k_asm); (case m₉ => k_mem); (case x₉ => decide +kernel); (case y₉ => decide +kernel); (case v₉ => first | exact .inl rfl | exact .inr ⟨_, _, rfl⟩)); (try dsimp only)))
  (k_with "my_tup" => exact List.Mem.tail _ (tkL_mem _ (List.Mem.tail _ (List.mem_append_left _ (by assumption)))))
  (k_with "compareOp NotIn" => (k_here; (with_reducible show wpAny _ _ (compareOp CmpOp.NotIn _ (Value.ref _)) _ _ _); k_dflt (refine' notIn_two ?N₉ ?m₉ rfl rfl ?v₉ ?_; (case N₉ => k_asm); (case m₉ => walk_at "my_tup"); (case v₉ => first | exact .inl rfl | exact .inr ⟨_, _, rfl⟩)); (try dsimp only)))
  (k_with "my_ne" => first | assumption | exact tkL_ne (by assumption) _ | exact ne_lt (tkL_lt (by assumption) _) | exact List.forall_mem_cons.mpr ⟨gt_head (by assumption), tkL_ne (by assumption) _⟩)
  (k_with "my_sz" => first | (have sz'₉ := stk_len; omega) | (simp only [List.length_cons, List.length_nil]; omega) | (refine Nat.le_trans (stk_len _ _) ?_; omega))
  (k_with "call builtin:list.append" => (k_here; (with_reducible show wpAny _ _ (call (Value.builtin _) [Value.ref _, _]) _ _ _); k_dflt (refine' la_append ?F₉ ?N₉ ?l₉ ?z₉ ?_; (case F₉ => k_asm); (case N₉ => k_asm); (case l₉ => walk_at "my_ne"); (case z₉ => walk_at "my_sz")); intro h'₉ F'₉ N'₉; (try dsimp only [List.cons_append, List.nil_append] at N'₉); (try k_sweep)))
  (k_with "subscriptTail Name UnaryOp ref int" => (k_here; k_dflt (refine' la_last ?N₉ ?z₉ ?_; (case N₉ => k_asm); (case z₉ => walk_at "my_sz"))))
  (k_with "my_hz" => (intro z₉ hz₉; obtain ⟨z1₉, z2₉, z3₉⟩ := not_two hz₉; simp only [if_neg z1₉, if_neg z2₉, z3₉, Bool.false_eq_true, if_false]))
  (k_with "my_hz1" => (intro z₉ hz₉; (have z2₉ : z₉ ≠ Str.ofString "expected" := by simpa using hz₉); simp only [if_neg z2₉, hz₉, Bool.false_eq_true, if_false]))
  (k_with "truthy ref" => (k_here; k_dflt (first | (refine' la_truthy1 ?N₉ ?z₉ ?_; (case N₉ => k_asm); (case z₉ => exact Nat.le_trans (stk_app _ _) (by omega))) | (refine' la_truthy0 ?N₉ ?_; (case N₉ => k_asm))); intro k'₉; (try dsimp only)))
  (k_with "call builtin:list.pop" => (k_here; (with_reducible show wpAny _ _ (call (Value.builtin _) [Value.ref _]) _ _ _); k_dflt (refine' la_pop ?F₉ ?N₉ ?l₉ ?z₉ ?_; (case F₉ => k_asm); (case N₉ => k_asm); (case l₉ => walk_at "my_ne"); (case z₉ => walk_at "my_sz")); intro h'₉ F'₉ N'₉; (try k_sweep)))
  (k_with "KswEnd" => (with_reducible refine Hold.mk ?_))
  (k_with "my_steps" => (repeat' (first | (with_reducible refine GoOn.go (by with_reducible assumption) ?_; (try dsimp only)) | (k_unfold; (try dsimp only)) | (k_end; wrow_close) | walk1 | (dsimp only; walk1) | (leave1; (try dsimp only)) | fail "no step")))
  refine wpAny_call ?_
  walk_at "my_enter"
  walk_at "my_steps"
  rename Fr _ _ _ _ => F1
  rename News _ _ _ _ => N1
  rename CharPost _ _ _ _ _ => P1
  rename ∀ p, p ∈ tkL _ _ _ _ → _ => l1
  rename Off G _ => o1
  refine Hold.of ?_
  refine mark_cut w G rest st qn r F1 N1 ?_ ?_
  · have fl : Flag := ⟨trivial⟩
    rcases CharPost.split P1 with ⟨er', ev', I', o0'⟩ | ⟨c', r', er', ⟨tc', ev'⟩, I', bk'⟩
    · subst ev'; subst er'
      clear P1
      walk_at "my_steps"
      refine Hold.of ⟨_, [], true, _, _, _, _, rfl, by k_asm, fun _ _ => rfl, by walk_at "nd", ⟨_, I', Back.nil _, rfl⟩, Nat.le_of_ble_eq_true rfl, no_mark0⟩
    · subst ev'; subst er'
      have bk2 := bk' _ (Back.nil _)
      rw [List.length_cons] at hr
      clear bk' P1
      walk_at "my_steps"
      · refine Hold.of ⟨_, [(c', tc')], true, _, _, _, _, rfl, by k_asm, fun _ _ => rfl, by walk_at "nd", ⟨_, by assumption, Back.zero (by assumption) _, rfl⟩, Nat.le_of_ble_eq_true rfl, no_mark2 (one_eq (x := "-") (k := 45) (by decide +kernel) (by assumption)) (.inl rfl)⟩
      · rename ((_ == _) = true) => e2
        rw [mark_two (one_eq (x := "-") (k := 45) (by decide +kernel) (by assumption)) (one_eq (x := "-") (k := 45) (by decide +kernel) e2)] at ret
        (refine' ret _ _ [_, _] [] _ _ _ _ ?I₉ ?O₉ ?A₉ ?C₉ (by k_asm) (by k_asm); walk_at "ends")
      · rename ((_ == _) = false) => e2
        refine Hold.of ⟨_, [(_, _), (c', tc')], false, _, _, _, _, rfl, by k_asm, fun _ _ => rfl, by walk_at "nd", ⟨_, by assumption, by assumption, rfl⟩, Nat.le_of_ble_eq_true rfl, no_mark2 (one_eq (x := "-") (k := 45) (by decide +kernel) (by assumption)) (.inr ⟨_, _, rfl, one_ne (x := "-") (k := 45) (by decide +kernel) e2⟩)⟩
      · rename Fr _ _ _ _ => F2
        rename News _ _ _ _ => N2
        have N3 := nd1 N2
        refine Hold.of ?_
        with_reducible refine' for_cut w G rest st qn (c' :: r') ?F₉ ?N₉ ?_ ?_
        case F₉ => exact F2
        case N₉ => exact N3
        · with_reducible refine' For_turns ?F₉ ?_ ?hs₉ ?hE₉
          case F₉ => exact F2
          case hs₉ => intro _; exact rfl
          case hE₉ => passes_own
          walk_at "my_steps"
          rename Fr _ _ _ _ => F3
          rename News _ _ _ _ => N4
          refine Hold.of ?_
          simp only [tup_o, tup_O, tup_c, tup_C, tup_t, tup_T, tup_y, tup_Y, tup_p, tup_P, tup_e, tup_E] at N4
          refine for_doc (TT := [_, _, _, _, _, _, _]) rfl F3 N4 (if_pos rfl) (low_d (hit2_yes (by assumption))) I' bk2 (.head _) rfl ?offTT₉ o1 off ?hTT₉ (ne_lt l1) ?hP₉ ?turn₉ ?done₉
          case offTT₉ => walk_at "offr"
          case hTT₉ => (repeat (refine List.forall_mem_cons.mpr ⟨by k_ne, ?_⟩)); exact List.forall_mem_nil _
          case hP₉ =>
            intro i v hv
            rcases i with _ | _ | _ | _ | _ | _ | i
            all_goals first
              | (simp only [List.getElem?_cons_zero, List.getElem?_cons_succ, Option.some.injEq] at hv; subst hv; exact ⟨_, _, _, _, _, rfl, rfl, by k_mem⟩)
              | (simp at hv)
          case done₉ => exact fun s' x => x
          case turn₉ =>
            intro De x y tx ty It o σ1 rd n rc u h tk hDe hOff hNe I1 B1 hl1 e1 F4 N5
            (try clear N4); (try clear F3); (try clear F2)
            walk_at "my_steps"
            · rename (hit2 _ _ Value.none = true) => hx
              exact absurd (show false = true from hx) Bool.false_ne_true
            · rename Fr _ _ _ _ => F6
              rename News _ _ _ _ => N6
              refine Hold.of ⟨_, true, rd, _, _, _, _, rfl, F6, by walk_at "my_hz", if_pos rfl, by rw [stk_none]; exact N6, ⟨[], by assumption, Back.zero (by assumption) _, rfl⟩, Nat.le_succ _, .inl rfl⟩
            · rename Fr _ _ _ _ => F6
              rename News _ _ _ _ => N6
              refine Hold.of ⟨_, _, _, _, _, _, _, _, rfl, F6, by walk_at "my_hz1", by rw [stk_cons]; exact N6, rfl, hit2_yes (by assumption), by assumption, by assumption⟩
            · rename Fr _ _ _ _ => F6
              rename News _ _ _ _ => N6
              refine Hold.of ⟨_, false, (_, _) :: rd, _, _, _, _, rfl, F6, by walk_at "my_hz", if_pos rfl, by rw [stk_cons]; exact N6, ⟨_, by assumption, by assumption, by simp [rdL]⟩, Nat.le_refl _, .inr ⟨_, _, rfl, hit2_no (by assumption)⟩⟩
        · rintro s' ⟨σ', rd, e, n, h', tk', m', b, rfl, F', hz, hb, N', K, hl, hy, hn⟩
          have F6 := fr_flag F' hz hb
          clear F2 N3
          cases b with
          | true =>
            obtain ⟨hy1, hy2⟩ := hy rfl
            obtain ⟨rc, I6, B6, e6⟩ := K
            rw [← e6, yes_mark hy1 hy2] at ret
            walk_at "my_steps"
            (refine' ret _ _ [_, _] [] _ _ _ _ ?I₉ ?O₉ ?A₉ ?C₉ (by k_asm) (by k_asm); walk_at "ends")
          | false =>
            walk_at "my_steps"
            exact Hold.of ⟨_, rd, e, _, _, _, _, rfl, by k_asm, by walk_at "my_hz", by walk_at "nd", K, hl, hn rfl⟩
      · refine Hold.of ⟨_, [(c', tc')], false, _, _, _, _, rfl, by k_asm, fun _ _ => rfl, by walk_at "nd", ⟨_, by assumption, by assumption, rfl⟩, Nat.le_of_ble_eq_true rfl, no_mark1 (one_ne (x := "-") (k := 45) (by decide +kernel) (by assumption)) (hit2_no (by assumption))⟩
  · rintro s' ⟨σ', rd, e, n, h', tk', m', rfl, F', hz, N', K, hl, hm⟩
    rw [hm.is] at ret
    have F6 := fr_stored _ F' hz
    clear F1 N1 P1
    walk_at "my_steps"
    rename Fr _ _ _ _ => F7
    rename News _ _ _ _ => N7
    rename Off G _ => o2
    refine Hold.of ?_
    have hne2 := ne_lt l1
    refine ksw_while (σ := SS × Rd × Bool × Nat) (fun c => (_, listOf (stk c.2.1 c.2.2.1).toArray c.2.2.2) :: (_, _) :: tkL w G ⟨c.1, st, .none, _, _⟩ rest) (fun _ => [])
      (fun c => StkOk G.A c.1 c.2.1 r ∧ c.2.1.length ≤ 7) [] (fun _ => True) (fun c => (stk c.2.1 c.2.2.1).length) (σ', rd, e, n) F7 (news_swap N7) ⟨K, hl⟩ (fun _ h => nomatch h) trivial ?_
    intro c u h2 tk2 hf _ F8 N9
    obtain ⟨σ2, rd2, e2, n2⟩ := c
    obtain ⟨⟨rc, I8, B8, e8⟩, hl2⟩ := hf
    clear F7 N7
    dsimp only at I8 B8 e8 hl2 N9 F8
    have hrc : rc.length ≤ 1500 := by rw [← e8, List.length_append] at hr; omega
    (try k_fold)
    cases e2 with
    | true =>
      rw [stk_none] at N9
      walk_at "my_steps"
      rename Fr _ _ _ _ => F11
      rename News _ _ _ _ => N11
      refine Hold.of ?_
      refine ksw_end (σ2, rd2, false, _) F11 N11 (fun p hp => hp) ?f₉ ?k₉ ?m2₉ trivial ?m3₉
      case f₉ => exact ⟨⟨rc, I8, B8, e8⟩, hl2⟩
      case k₉ => exact fun _ h => nomatch h
      case m2₉ => intro z _ _; simp [kstB]
      case m3₉ => simp [stk]
    | false =>
      rcases rd2 with _ | ⟨⟨c9, t9⟩, rd3⟩
      · rw [stk_nil] at N9
        have e9 : rc = r := e8
        subst e9
        walk_at "my_steps"
        (refine' ret _ _ [_, _] [_] _ _ _ _ ?I₉ ?O₉ ?A₉ ?C₉ (by k_asm) (by k_asm); walk_at "ends")
      · rw [stk_cons] at N9
        have B9 : Back σ2 (c9 :: rdL rd3) := B8
        have hl3 : rd3.length ≤ 6 := by simpa using hl2
        walk_at "my_steps"
        rename Fr _ _ _ _ => F11
        rename News _ _ _ _ => N11
        refine Hold.of ?_
        refine ksw_end (_, rd3, false, _) F11 N11 (fun p hp => hp) ?f₉ ?k₉ ?m2₉ trivial ?m3₉
        case f₉ => exact ⟨⟨c9 :: rc, by assumption, by assumption, by rw [← e8]; simp [rdL]⟩, by dsimp only; omega⟩
        case k₉ => exact fun _ h => nomatch h
        case m2₉ => intro z _ _; simp [kstB]
        case m3₉ => simp [stk]
end

end
section -- S1
open PySem.Spec PySem.Calls PyProof.V
section
variable {prog : Program} {w : World} {A : Around} {E : Value → Shared → Prop} {s : Shared} {h₀ : Heap} {L : Addr} {m : Str → Option Value} {env : Env}
theorem iter_st {T : String} {x : Str} {t : Tok} {I : Addr} : ∀ (i : Nat) (h h' : Heap) (o : Obj) (nw : List (Addr × Obj)), h.IsStrIter I T x t i → h.get? I = some o → h'.get? I = some o → (∀ b o, h₀.get? b = some o → h'.get? b = some o) → News h₀ L h' nw → True → h'.IsStrIter I T x t i :=
  fun i h h' o nw st e e' _ _ _ => by
    obtain ⟨o', q, r⟩ := st
    rw [e] at q; cases q
    exact ⟨o, e', r⟩
/-- a list comprehension over a text -/
theorem ListComp_S {elt iter : PySem.Expr} {y : Str} {px : Pos} {scope : Scope} {cl : List (Str × Addr)} {pos : Pos} {Q : Value → Shared → Prop} (_ : Fr h₀ L s.heap m)
    (hclos : closureFor scope env = pure cl) (hcell : ∀ y ∈ scope.names, y.2 ≠ .cell) (hkind : scope.kind = .function)
    (hnames : ∀ y ∈ scope.names, y.2 = .local → scope.names.lookup y.1 = some .local) (hx : scope.names.lookup y = some .local)
    (h : wpAny (model prog w) A (eval iter env) (fun xv s₁ => ∃ x t news, xv = .str x t ∧ A.handled = none ∧ Fr h₀ L s₁.heap m ∧ News h₀ L s₁.heap news ∧ x.cps.size ≤ sizeLine ∧
      ∀ g, LCg.CompRest prog w A h₀ L m env elt y scope cl { s₁ with heap := g } (fun _ => True) (SignAt x) (LCg.FinE h₀ L m { s₁ with heap := g } Q) x.cps.size 0 [] news) E s)
    (hs : ∀ x, foldedSetIterable iter env x = pure x := by intro _; rfl) :
    wpAny (model prog w) A (eval (.ListComp elt [⟨.Name y px, iter, [], 0⟩] scope pos) env) Q E s := by
  rw [eval_ListComp]
  refine wpAny_comprehension_free (use := none) rfl hs hclos hkind hnames (wpAny_mono h (fun xv s₁ h₁ => ?_) fun _ _ e => e)
  obtain ⟨x, t, news, rfl, hh, F, N, hsz, R⟩ := h₁
  have key : ∀ (T : String) (o : Obj), Walks prog w A s₁.heap.objs.size [s₁.heap.objs.size] [s₁.heap.objs.size] x.cps.size (SignAt x) (fun i h => h.IsStrIter s₁.heap.objs.size T x t i) →
      (s₁.heap.push o).IsStrIter s₁.heap.objs.size T x t 0 → wpAny (model prog w) A (newList []) (fun acc s₃ => wpAny (model prog w) A (newFunctionEnv scope env.globals cl [] env.qual none .none (some env)) (fun cenv s₄ =>
      codeAny (model prog w) A (.compStart (.ListComp elt [⟨.Name y px, iter, [], 0⟩] scope pos) 0 (.ref s₁.heap.objs.size) acc { cenv with scope := relabel scope env })
        (compPost (model prog w) A E none Q acc cenv.locals) s₄) E s₃) E { s₁ with heap := s₁.heap.push o } := by
    intro T o W st
    refine LCg.block_U (S := fun _ => True) (Fin := LCg.FinE h₀ L m { s₁ with heap := s₁.heap.push o } Q) W hsz (fun i h st => by obtain ⟨o', e, _⟩ := st; exact ⟨o', e⟩) iter_st hcell hkind hx st (fun b hb => ?_)
      (F.keeps fun _ _ e => Heap.get?_push_of_some _ e) (N.grown fun _ _ e => Heap.get?_push_of_some _ e) (Nat.ne_of_lt F.ns.lt) (next_is_new F) (fun p hp => Nat.ne_of_lt (Heap.lt_size (N p hp).1)) trivial (R _) ?_
    · rw [List.mem_singleton.mp hb]
      show s₁.heap.objs.size < (s₁.heap.push _).objs.size
      rw [Heap.size_push]; exact Nat.lt_succ_self _
    · intro D C h tk m' ys news' F' N' o1 hn hC₀ hD₀ hCL hDL hCD offC fin
      refine ⟨m', hn, fun h'' hs'' => fin D h'' tk (F'.change hs'' hCL hC₀) (fun p hp => ?_) o1⟩
      refine ⟨hs''.extBut _ _ ?_ (N' p hp).1, (N' p hp).2⟩
      rcases List.mem_cons.mp hp with rfl | hp
      · exact Ne.symm hCD
      · exact offC p hp
  cases ha : x.cps.all (· < 128)
  · exact wpAny_pyIter_wide ha (key _ _ (Walks.strWide hh _ x t) ⟨_, Heap.get?_push_size _ rfl, rfl, rfl⟩)
  · exact wpAny_pyIter_ascii ha (key _ _ (Walks.strAscii hh _ x t) ⟨_, Heap.get?_push_size _ rfl, rfl, rfl⟩)
/-- its turns, where each sign gives a text -/
theorem sign_rest {elt : PySem.Expr} {y : Str} {scope : Scope} {cl : List (Str × Addr)} {Fin : List Value → List (Addr × Obj) → Prop} {news : List (Addr × Obj)} {x : Str} (g : Nat → Str)
    (turn : ∀ c t I oI C oC D m₂ ys h tk (E' : Value → Shared → Prop), LCg.NsObj oC m₂ → m₂ y = some (.str ⟨#[c]⟩ t) → Fr h₀ L h m → News h₀ L h ((I, oI) :: (C, oC) :: (D, LCg.lst ys) :: news) → LCg.Off3 I C D news → ((@Ne Nat I C) ∧ (@Ne Nat I D) ∧ (@Ne Nat C D)) →
      wpAny (model prog w) A (eval elt (compEnvC scope cl C env)) (fun v s' => ∃ h' tk' t', v = .str (g c) t' ∧ s' = { s with heap := h', toks := tk' } ∧ Fr h₀ L h' m ∧ News h₀ L h' ((I, oI) :: (C, oC) :: (D, LCg.lst ys) :: news)) E' { s with heap := h, toks := tk })
    (fin : ∀ l : List (Str × Tok), l.map (·.1) = (toL x).map g → Fin (strValues l) news) :
    LCg.CompRest prog w A h₀ L m env elt y scope cl s (fun _ => True) (SignAt x) Fin x.cps.size 0 [] news := by
  have key : ∀ (j i : Nat) (l : List (Str × Tok)), i + j = x.cps.size → l.map (·.1) = ((toL x).take i).map g → LCg.CompRest prog w A h₀ L m env elt y scope cl s (fun _ => True) (SignAt x) Fin j i (strValues l) news := by
    intro j
    induction j with
    | zero =>
      intro i l hi hl
      refine LCg.CompRest.zero (fin l ?_)
      rw [hl, List.take_of_length_le]
      have : (toL x).length = x.cps.size := toL_length x
      omega
    | succ j ih =>
      intro i l hi hl
      refine LCg.CompRest.succ ?_
      intro v I oI C oC D m₂ h tk E' hv hC hx F N off ne
      obtain ⟨c, u, hc, rfl⟩ := hv
      refine wpAny_mono (turn c u I oI C oC D m₂ _ h tk E' hC hx F N off ne) (fun v s₂ hq => ?_) fun _ _ e => e
      obtain ⟨h', tk', t', rfl, rfl, F', N'⟩ := hq
      refine ⟨h', tk', news, rfl, F', N', off, trivial, ?_⟩
      have e : strValues l ++ [.str (g c) t'] = strValues (l ++ [(g c, t')]) := by simp [strValues]
      dsimp only
      rw [e]
      refine ih (i + 1) _ (by omega) ?_
      have hc' : (toL x)[i]? = some c := by
        show x.cps.toList[i]? = some c
        rw [Array.getElem?_toList]; exact hc
      rw [List.map_append, hl, List.take_add_one, hc']
      simp
  exact key x.cps.size 0 [] (by omega) rfl
end
theorem lt_one {c k : Nat} {x : Str} (e : x = ⟨#[k]⟩) : (⟨#[c]⟩ : Str).cps.toList < x.cps.toList ↔ c < k := by
  subst e
  show [c] < [k] ↔ _
  simp [List.cons_lt_cons_iff]
theorem one_lt {c k : Nat} {x : Str} (e : x = ⟨#[k]⟩) : x.cps.toList < (⟨#[c]⟩ : Str).cps.toList ↔ k < c := by
  subst e
  show [k] < [c] ↔ _
  simp [List.cons_lt_cons_iff]
theorem str_A : Str.ofString "A" = ⟨#[65]⟩ := by decide +kernel
theorem str_Z : Str.ofString "Z" = ⟨#[90]⟩ := by decide +kernel
theorem flat_low {l : List (Str × Tok)} {r : List Nat} (h : l.map (·.1) = r.map fun c => (⟨#[low c]⟩ : Str)) : (l.map fun p => toL p.1).flatten = r.map low := by
  have e : l.map (fun p => toL p.1) = (l.map (·.1)).map toL := by rw [List.map_map]; rfl
  rw [e, h, List.map_map]
  clear e h l
  induction r with
  | nil => rfl
  | cons c r ih => rw [List.map_cons, List.flatten_cons, ih]; rfl
section
end

end
section -- W1
open PySem.Spec PySem.Calls
section
variable {prog : Program} {w : World} {p : Program} {loose : List Str} {mean : ExcName → Option Value} {mg mb : Str → Option Value}
   {dp un : Nat} {gd : Option (List Code)} {cn : Str} {cs : Scope} {a : Addr} {ccd : Value} {cl : List (Str × Addr)} {outer : List Env} {A₀ : Around} {base h₀ : Heap} {L : Addr} {m : Str → Option Value} {rest : List (Addr × Obj)} {s : Shared}
    {Q E : Value → Shared → Prop}
theorem small_t {x : Str} {t : Tok} (hx : x.length ≤ 1000)
    (B : Below A₀ base outer h₀) (F : Fr h₀ L s.heap m) (X : (Mine.hd.heap_1 w.params).In h₀)
    (N : News h₀ L s.heap rest)
    (T : Top p loose mean mg mb h₀) (hk : cs.kind = .function) (hd : dp + 50 < recursionLimit) (hu : un + 500 < cLine)
    (ret : ∀ y t' h' tk', toL y = (toL x).map low → Fr h₀ L h' m → News h₀ L h' rest → Q (.str y t') { s with heap := h', toks := tk' }) :
    wpAny (model prog w) (ktrTop dp un gd cn cs L a ccd cl outer) (call (.ref 772) [.str x t]) Q E s := by
  k_with_none
  (k_with "my_enter" => k_dflt (refine' code_def ?k1₉ ?k2₉ ?k3₉ ?k4₉ ?k5₉ ?kA₉ ?kF₉ ?kK₉ ?k6₉ ?k7₉ ?k8₉ ?k9₉ ?kB₉ ?_ ?c2₉ ?c3₉ ?c4₉ ?c5₉; (case kA₉ => exact rfl); (case kF₉ => exact rfl); (case kK₉ => first | exact rfl | assumption); (case k1₉ => k_asm); (case k2₉ => k_asm); (case k3₉ => k_asm); (case k4₉ => k_asm); (case k5₉ => k_asm); (case k6₉ => k_is); (case k7₉ => k_is); (case k8₉ => ktr_room); (case k9₉ => first | exact BindsTo.of_eq rfl | exact binds_K (by k_in) rfl (by k_is) rfl rfl rfl); (case c5₉ => decide); (case kB₉ => exact locs rfl); (case c2₉ => exact rfl); (case c3₉ => exact rfl); (case c4₉ => exact rfl); k_whole; intro g'₉ L'₉ h'₉ FG'₉ F'₉ N'₉ B'₉ X'₉ T'₉; (try dsimp only); (try k_fold)))
  (k_with "eval ListComp" => (k_here; k_dflt (refine' ListComp_S (by k_asm) (by with_unfolding_all rfl) (by decide) (by rfl) (by decide) (by rfl) ?_)))
  (k_with "Exists" => (with_reducible refine Hold.mk ?_))
  (k_with "call builtin:chr" => ((have b1'₉ := mt (lt_one str_A).mpr (by assumption)); (have b2'₉ := mt (one_lt str_Z).mpr (by assumption)); (refine chr_of_range (by omega) (by omega) ?_)))
  (k_with "call builtin:str.join" => (k_here; k_dflt (refine' join_abs ?k1₉ (List.Mem.head _) ?k3₉ ?_; (case k1₉ => k_asm); (case k3₉ => assumption)); intro y'₉ t'₉ k'₉ e'₉; (try dsimp only)))
  (k_with "my_steps" => (repeat' (first | (with_reducible refine GoOn.go (by with_reducible assumption) ?_; (try dsimp only)) | (k_unfold; (try dsimp only)) | (k_end; wrow_close) | walk1 | (dsimp only; walk1) | (leave1; (try dsimp only)) | fail "no step")))
  refine wpAny_call ?_
  walk_at "my_enter"
  walk_at "my_steps"
  rename Fr _ _ _ _ => F1
  rename News _ _ _ _ => N1
  refine Hold.of ?_
  refine ⟨_, _, _, rfl, rfl, F1, N1, ?z₉, fun g => sign_rest (fun c => ⟨#[low c]⟩) ?turn₉ ?fin₉⟩
  case z₉ => rw [sizeLine_eq]; show x.length ≤ _; omega
  case turn₉ =>
    intro c t I oI C oC D m₂ ys h tk E' hC hx F2 N2 off ne
    walk_at "my_steps"
    · refine Hold.of ⟨_, _, t, ?_, rfl, by k_asm, by k_asm⟩
      have := (lt_one str_A).mp (by assumption)
      have e : low c = c := by unfold low; rw [if_neg]; omega
      rw [e]
    · refine Hold.of ⟨_, _, t, ?_, rfl, by k_asm, by k_asm⟩
      have := (one_lt str_Z).mp (by assumption)
      have e : low c = c := by unfold low; rw [if_neg]; omega
      rw [e]
    · have b1' := mt (lt_one str_A).mpr (by assumption)
      have b2' := mt (one_lt str_Z).mpr (by assumption)
      have e : ((c : Int) + 32).toNat = low c := by unfold low; rw [if_pos (by omega)]; omega
      exact Hold.of ⟨_, _, _, by rw [e], rfl, by k_asm, by k_asm⟩
  case fin₉ =>
    intro l hl D h tk F2 N2 o1
    have e2 := flat_low hl
    have l2 : (l.map fun p => toL p.1).flatten.length ≤ 1000000 := by rw [e2, List.length_map, toL_length]; omega
    walk_at "my_steps"
    exact ret _ _ _ _ (by rw [← e2]; assumption) (by k_asm) (nd1 (by k_asm))
end

end
section -- W2
open PySem.Spec PySem.Calls
def RestV (v : Value) : Option (List Nat) → Prop
  | none => v = .none
  | some l => ∃ x t, v = .str x t ∧ toL x = l
abbrev tup3 (a b c : Value) : Obj := { cls := .type "tuple", data := .seq #[a, b, c] }
section
variable {prog : Program} {w : World} {p : Program} {loose : List Str} {mean : ExcName → Option Value} {mg mb : Str → Option Value}
   {dp un : Nat} {gd : Option (List Code)} {cn : Str} {cs : Scope} {a : Addr} {ccd : Value} {cl : List (Str × Addr)} {outer : List Env} {A₀ : Around} {base h₀ : Heap} {L : Addr} {m : Str → Option Value} {rest : List (Addr × Obj)} {s : Shared}
    {Q E : Value → Shared → Prop}
theorem fault_t {x : Str} {t : Tok}
    (B : Below A₀ base outer h₀) (F : Fr h₀ L s.heap m) (X : (Mine.hd.heap_1 w.params).In h₀)
    (N : News h₀ L s.heap rest)
    (T : Top p loose mean mg mb h₀) (hk : cs.kind = .function) (hd : dp + 50 < recursionLimit) (hu : un + 500 < cLine)
    (ret : ∀ d o h' tk', (∀ p ∈ rest, p.1 < d) → RepT prog w [(d, o)] (.ref d) [(Str.ofString "type", .leaf (.int 7)), (Str.ofString "data", .leaf (.str x))] → Fr h₀ L h' m → News h₀ L h' ((d, o) :: rest) → Q (.ref d) { s with heap := h', toks := tk' }) :
    wpAny (model prog w) (ktrTop dp un gd cn cs L a ccd cl outer) (call (.ref 779) [.str x t]) Q E s := by
  k_with_none
  (k_with "my_enter" => k_dflt (refine' code_def ?k1₉ ?k2₉ ?k3₉ ?k4₉ ?k5₉ ?kA₉ ?kF₉ ?kK₉ ?k6₉ ?k7₉ ?k8₉ ?k9₉ ?kB₉ ?_ ?c2₉ ?c3₉ ?c4₉ ?c5₉; (case kA₉ => exact rfl); (case kF₉ => exact rfl); (case kK₉ => first | exact rfl | assumption); (case k1₉ => k_asm); (case k2₉ => k_asm); (case k3₉ => k_asm); (case k4₉ => k_asm); (case k5₉ => k_asm); (case k6₉ => k_is); (case k7₉ => k_is); (case k8₉ => ktr_room); (case k9₉ => first | exact BindsTo.of_eq rfl | exact binds_K (by k_in) rfl (by k_is) rfl rfl rfl); (case c5₉ => decide); (case kB₉ => exact locs rfl); (case c2₉ => exact rfl); (case c3₉ => exact rfl); (case c4₉ => exact rfl); k_whole; intro g'₉ L'₉ h'₉ FG'₉ F'₉ N'₉ B'₉ X'₉ T'₉; (try dsimp only); (try k_fold)))
  (k_with "my_args" => ((case B => k_asm); (case F₉ => k_asm); (case X => k_asm); (case T => k_asm); (case hk => first | exact rfl | assumption); (case hd => ktr_room); (case hu => ktr_units)))
  (k_with "rep_all" => first | exact All2.nil | (refine' All2.cons ⟨rfl, ?_⟩ ?_; (focus walk_at "rep_leaf"); (focus walk_at "rep_all")))
  (k_with "rep_leaf" => first | exact rfl | exact ⟨_, rfl⟩ | exact ⟨_, _, rfl, by k_mem⟩ | exact ⟨_, _, _, rfl, by k_mem, by assumption, by assumption, by walk_at "rep_all"⟩)
  (k_with "rep" => exact ⟨_, _, _, rfl, by k_mem, by assumption, by assumption, by walk_at "rep_all"⟩)
  (k_with "reps" => first | exact All2.nil | (refine' All2.cons ?_ ?_; (focus walk_at "rep"); (focus walk_at "reps")))
  (k_with "repc" => first | exact rfl | walk_at "rep")
  (k_with "callWith" => (k_here; (with_reducible show wpAny _ _ (callWith _ (Value.builtin _) _ (backTo _ (starEach (_ :: _) _)) []) _ _ _); (with_reducible refine' callWith_method1 ?_ ?he₉ ?hp₉); k_dflt ((case he₉ => exact rfl); (case hp₉ => exact rfl))))
  (k_with "eval Dict" => (k_here; k_dflt (refine' kdn_str ?q₉ ?F₉ ?N₉ ?b₉ ?a₉ ?l₉ ?e₉ ?n₉ ?_; (case q₉ => exact rfl); (case F₉ => k_asm); (case N₉ => k_asm); (case b₉ => exact Top.nolimit (by k_asm)); (case a₉ => exact rfl); (case l₉ => exact rfl); (case e₉ => exact List.cons_ne_nil _ _); (case n₉ => exact Nat.le_of_ble_eq_true rfl)); intro d'₉ h'₉ o'₉ F'₉ N'₉ l1₉ lo'₉ hd'₉; (try k_sweep)))
  (k_with "newList" => (k_here; k_dflt (refine' newList_K ?k1₉ ?k2₉ ?_; (case k1₉ => k_asm); (case k2₉ => k_asm); k_whole); intro l'₉ h'₉ F'₉ N'₉ l1₉; (try k_sweep)))
  (k_with "newTuple" => (k_here; k_dflt (refine' kup_newTuple ?F₉ ?N₉ ?_ ?z₉; (case F₉ => k_asm); (case N₉ => k_asm); (case z₉ => exact Nat.le_of_ble_eq_true rfl)); intro D'₉ h'₉ F'₉ N'₉ l1₉; (try k_sweep)))
  (k_with "my_updF" => first | exact UpdF.head (ne_lt (by assumption)) | exact UpdF.tail (gt_head (by assumption)) (UpdF.head (ne_lt (by assumption))))
  (k_with "KdnMade" => (k_here; k_dflt (refine' kdn_made_str ?F₉ ?N₉ ?U₉ ?d₉ ?k₉ ?n₉ ?_; (case F₉ => k_asm); (case N₉ => k_asm); (case U₉ => walk_at "my_updF"); (case d₉ => k_asm); (case k₉ => exact rfl); (case n₉ => exact of_decide_eq_true (by first | rfl | kernel_rfl!)); intro h'₉ o'₉ F'₉ N'₉ hd'₉); (try dsimp only at N'₉); (try dsimp only); (try k_sweep)))
  (k_with "my_mem" => first | assumption | exact List.Mem.head _ | (refine List.Mem.tail _ ?_; walk_at "my_mem"))
  (k_with "my_sub" => first | (refine' List.forall_mem_cons.mpr ⟨?zsa₉, ?zsb₉⟩; (case zsa₉ => walk_at "my_mem"); (case zsb₉ => walk_at "my_sub")) | (intro p₉ hp₉; walk_at "my_mem"))
  (k_with "my_steps" => (repeat' (first | (with_reducible refine GoOn.go (by with_reducible assumption) ?_; (try dsimp only)) | (k_unfold; (try dsimp only)) | (k_end; wrow_close) | walk1 | (dsimp only; walk1) | (leave1; (try dsimp only)) | fail "no step")))
  refine wpAny_call ?_
  walk_at "my_enter"
  walk_at "my_steps"
  exact ret _ _ _ _ (by assumption) (by walk_at "rep") (by k_asm) (by k_asm)
theorem given1_t {x : Str} {t tk : Tok}
    (B : Below A₀ base outer h₀) (F : Fr h₀ L s.heap m) (X : (Mine.hd.heap_1 w.params).In h₀)
    (N : News h₀ L s.heap rest)
    (T : Top p loose mean mg mb h₀) (hk : cs.kind = .function) (hd : dp + 50 < recursionLimit) (hu : un + 500 < cLine)
    (ret : ∀ d o h' tk', (∀ p ∈ rest, p.1 < d) → RepT prog w [(d, o)] (.ref d) [(Str.ofString "type", .leaf (.int 1)), (Str.ofString "data", .leaf (.str x))] → Fr h₀ L h' m → News h₀ L h' ((d, o) :: rest) → Q (.ref d) { s with heap := h', toks := tk' }) :
    wpAny (model prog w) (ktrTop dp un gd cn cs L a ccd cl outer) (call (.ref 786) [.str (Str.ofString "Characters") tk, .str x t]) Q E s := by
  k_with_none
  (k_with "my_enter" => k_dflt (refine' code_def ?k1₉ ?k2₉ ?k3₉ ?k4₉ ?k5₉ ?kA₉ ?kF₉ ?kK₉ ?k6₉ ?k7₉ ?k8₉ ?k9₉ ?kB₉ ?_ ?c2₉ ?c3₉ ?c4₉ ?c5₉; (case kA₉ => exact rfl); (case kF₉ => exact rfl); (case kK₉ => first | exact rfl | assumption); (case k1₉ => k_asm); (case k2₉ => k_asm); (case k3₉ => k_asm); (case k4₉ => k_asm); (case k5₉ => k_asm); (case k6₉ => k_is); (case k7₉ => k_is); (case k8₉ => ktr_room); (case k9₉ => first | exact BindsTo.of_eq rfl | exact binds_K (by k_in) rfl (by k_is) rfl rfl rfl); (case c5₉ => decide); (case kB₉ => exact locs rfl); (case c2₉ => exact rfl); (case c3₉ => exact rfl); (case c4₉ => exact rfl); k_whole; intro g'₉ L'₉ h'₉ FG'₉ F'₉ N'₉ B'₉ X'₉ T'₉; (try dsimp only); (try k_fold)))
  (k_with "my_args" => ((case B => k_asm); (case F₉ => k_asm); (case X => k_asm); (case T => k_asm); (case hk => first | exact rfl | assumption); (case hd => ktr_room); (case hu => ktr_units)))
  (k_with "rep_all" => first | exact All2.nil | (refine' All2.cons ⟨rfl, ?_⟩ ?_; (focus walk_at "rep_leaf"); (focus walk_at "rep_all")))
  (k_with "rep_leaf" => first | exact rfl | exact ⟨_, rfl⟩ | exact ⟨_, _, rfl, by k_mem⟩ | exact ⟨_, _, _, rfl, by k_mem, by assumption, by assumption, by walk_at "rep_all"⟩)
  (k_with "rep" => exact ⟨_, _, _, rfl, by k_mem, by assumption, by assumption, by walk_at "rep_all"⟩)
  (k_with "reps" => first | exact All2.nil | (refine' All2.cons ?_ ?_; (focus walk_at "rep"); (focus walk_at "reps")))
  (k_with "repc" => first | exact rfl | walk_at "rep")
  (k_with "callWith" => (k_here; (with_reducible show wpAny _ _ (callWith _ (Value.builtin _) _ (backTo _ (starEach (_ :: _) _)) []) _ _ _); (with_reducible refine' callWith_method1 ?_ ?he₉ ?hp₉); k_dflt ((case he₉ => exact rfl); (case hp₉ => exact rfl))))
  (k_with "eval Dict" => (k_here; k_dflt (refine' kdn_str ?q₉ ?F₉ ?N₉ ?b₉ ?a₉ ?l₉ ?e₉ ?n₉ ?_; (case q₉ => exact rfl); (case F₉ => k_asm); (case N₉ => k_asm); (case b₉ => exact Top.nolimit (by k_asm)); (case a₉ => exact rfl); (case l₉ => exact rfl); (case e₉ => exact List.cons_ne_nil _ _); (case n₉ => exact Nat.le_of_ble_eq_true rfl)); intro d'₉ h'₉ o'₉ F'₉ N'₉ l1₉ lo'₉ hd'₉; (try k_sweep)))
  (k_with "newList" => (k_here; k_dflt (refine' newList_K ?k1₉ ?k2₉ ?_; (case k1₉ => k_asm); (case k2₉ => k_asm); k_whole); intro l'₉ h'₉ F'₉ N'₉ l1₉; (try k_sweep)))
  (k_with "newTuple" => (k_here; k_dflt (refine' kup_newTuple ?F₉ ?N₉ ?_ ?z₉; (case F₉ => k_asm); (case N₉ => k_asm); (case z₉ => exact Nat.le_of_ble_eq_true rfl)); intro D'₉ h'₉ F'₉ N'₉ l1₉; (try k_sweep)))
  (k_with "my_updF" => first | exact UpdF.head (ne_lt (by assumption)) | exact UpdF.tail (gt_head (by assumption)) (UpdF.head (ne_lt (by assumption))))
  (k_with "KdnMade" => (k_here; k_dflt (refine' kdn_made_str ?F₉ ?N₉ ?U₉ ?d₉ ?k₉ ?n₉ ?_; (case F₉ => k_asm); (case N₉ => k_asm); (case U₉ => walk_at "my_updF"); (case d₉ => k_asm); (case k₉ => exact rfl); (case n₉ => exact of_decide_eq_true (by first | rfl | kernel_rfl!)); intro h'₉ o'₉ F'₉ N'₉ hd'₉); (try dsimp only at N'₉); (try dsimp only); (try k_sweep)))
  (k_with "my_mem" => first | assumption | exact List.Mem.head _ | (refine List.Mem.tail _ ?_; walk_at "my_mem"))
  (k_with "my_sub" => first | (refine' List.forall_mem_cons.mpr ⟨?zsa₉, ?zsb₉⟩; (case zsa₉ => walk_at "my_mem"); (case zsb₉ => walk_at "my_sub")) | (intro p₉ hp₉; walk_at "my_mem"))
  (k_with "my_steps" => (repeat' (first | (with_reducible refine GoOn.go (by with_reducible assumption) ?_; (try dsimp only)) | (k_unfold; (try dsimp only)) | (k_end; wrow_close) | walk1 | (dsimp only; walk1) | (leave1; (try dsimp only)) | fail "no step")))
  refine wpAny_call ?_
  walk_at "my_enter"
  walk_at "my_steps"
  exact ret _ _ _ _ (by assumption) (by walk_at "rep") (by k_asm) (by k_asm)
theorem given6_t {x : Str} {t tk : Tok}
    (B : Below A₀ base outer h₀) (F : Fr h₀ L s.heap m) (X : (Mine.hd.heap_1 w.params).In h₀)
    (N : News h₀ L s.heap rest)
    (T : Top p loose mean mg mb h₀) (hk : cs.kind = .function) (hd : dp + 50 < recursionLimit) (hu : un + 500 < cLine)
    (ret : ∀ d o h' tk', (∀ p ∈ rest, p.1 < d) → RepT prog w [(d, o)] (.ref d) [(Str.ofString "type", .leaf (.int 6)), (Str.ofString "data", .leaf (.str x))] → Fr h₀ L h' m → News h₀ L h' ((d, o) :: rest) → Q (.ref d) { s with heap := h', toks := tk' }) :
    wpAny (model prog w) (ktrTop dp un gd cn cs L a ccd cl outer) (call (.ref 786) [.str (Str.ofString "Comment") tk, .str x t]) Q E s := by
  k_with_none
  (k_with "my_enter" => k_dflt (refine' code_def ?k1₉ ?k2₉ ?k3₉ ?k4₉ ?k5₉ ?kA₉ ?kF₉ ?kK₉ ?k6₉ ?k7₉ ?k8₉ ?k9₉ ?kB₉ ?_ ?c2₉ ?c3₉ ?c4₉ ?c5₉; (case kA₉ => exact rfl); (case kF₉ => exact rfl); (case kK₉ => first | exact rfl | assumption); (case k1₉ => k_asm); (case k2₉ => k_asm); (case k3₉ => k_asm); (case k4₉ => k_asm); (case k5₉ => k_asm); (case k6₉ => k_is); (case k7₉ => k_is); (case k8₉ => ktr_room); (case k9₉ => first | exact BindsTo.of_eq rfl | exact binds_K (by k_in) rfl (by k_is) rfl rfl rfl); (case c5₉ => decide); (case kB₉ => exact locs rfl); (case c2₉ => exact rfl); (case c3₉ => exact rfl); (case c4₉ => exact rfl); k_whole; intro g'₉ L'₉ h'₉ FG'₉ F'₉ N'₉ B'₉ X'₉ T'₉; (try dsimp only); (try k_fold)))
  (k_with "my_args" => ((case B => k_asm); (case F₉ => k_asm); (case X => k_asm); (case T => k_asm); (case hk => first | exact rfl | assumption); (case hd => ktr_room); (case hu => ktr_units)))
  (k_with "rep_all" => first | exact All2.nil | (refine' All2.cons ⟨rfl, ?_⟩ ?_; (focus walk_at "rep_leaf"); (focus walk_at "rep_all")))
  (k_with "rep_leaf" => first | exact rfl | exact ⟨_, rfl⟩ | exact ⟨_, _, rfl, by k_mem⟩ | exact ⟨_, _, _, rfl, by k_mem, by assumption, by assumption, by walk_at "rep_all"⟩)
  (k_with "rep" => exact ⟨_, _, _, rfl, by k_mem, by assumption, by assumption, by walk_at "rep_all"⟩)
  (k_with "reps" => first | exact All2.nil | (refine' All2.cons ?_ ?_; (focus walk_at "rep"); (focus walk_at "reps")))
  (k_with "repc" => first | exact rfl | walk_at "rep")
  (k_with "callWith" => (k_here; (with_reducible show wpAny _ _ (callWith _ (Value.builtin _) _ (backTo _ (starEach (_ :: _) _)) []) _ _ _); (with_reducible refine' callWith_method1 ?_ ?he₉ ?hp₉); k_dflt ((case he₉ => exact rfl); (case hp₉ => exact rfl))))
  (k_with "eval Dict" => (k_here; k_dflt (refine' kdn_str ?q₉ ?F₉ ?N₉ ?b₉ ?a₉ ?l₉ ?e₉ ?n₉ ?_; (case q₉ => exact rfl); (case F₉ => k_asm); (case N₉ => k_asm); (case b₉ => exact Top.nolimit (by k_asm)); (case a₉ => exact rfl); (case l₉ => exact rfl); (case e₉ => exact List.cons_ne_nil _ _); (case n₉ => exact Nat.le_of_ble_eq_true rfl)); intro d'₉ h'₉ o'₉ F'₉ N'₉ l1₉ lo'₉ hd'₉; (try k_sweep)))
  (k_with "newList" => (k_here; k_dflt (refine' newList_K ?k1₉ ?k2₉ ?_; (case k1₉ => k_asm); (case k2₉ => k_asm); k_whole); intro l'₉ h'₉ F'₉ N'₉ l1₉; (try k_sweep)))
  (k_with "newTuple" => (k_here; k_dflt (refine' kup_newTuple ?F₉ ?N₉ ?_ ?z₉; (case F₉ => k_asm); (case N₉ => k_asm); (case z₉ => exact Nat.le_of_ble_eq_true rfl)); intro D'₉ h'₉ F'₉ N'₉ l1₉; (try k_sweep)))
  (k_with "my_updF" => first | exact UpdF.head (ne_lt (by assumption)) | exact UpdF.tail (gt_head (by assumption)) (UpdF.head (ne_lt (by assumption))))
  (k_with "KdnMade" => (k_here; k_dflt (refine' kdn_made_str ?F₉ ?N₉ ?U₉ ?d₉ ?k₉ ?n₉ ?_; (case F₉ => k_asm); (case N₉ => k_asm); (case U₉ => walk_at "my_updF"); (case d₉ => k_asm); (case k₉ => exact rfl); (case n₉ => exact of_decide_eq_true (by first | rfl | kernel_rfl!)); intro h'₉ o'₉ F'₉ N'₉ hd'₉); (try dsimp only at N'₉); (try dsimp only); (try k_sweep)))
  (k_with "my_mem" => first | assumption | exact List.Mem.head _ | (refine List.Mem.tail _ ?_; walk_at "my_mem"))
  (k_with "my_sub" => first | (refine' List.forall_mem_cons.mpr ⟨?zsa₉, ?zsb₉⟩; (case zsa₉ => walk_at "my_mem"); (case zsb₉ => walk_at "my_sub")) | (intro p₉ hp₉; walk_at "my_mem"))
  (k_with "my_steps" => (repeat' (first | (with_reducible refine GoOn.go (by with_reducible assumption) ?_; (try dsimp only)) | (k_unfold; (try dsimp only)) | (k_end; wrow_close) | walk1 | (dsimp only; walk1) | (leave1; (try dsimp only)) | fail "no step")))
  refine wpAny_call ?_
  walk_at "my_enter"
  walk_at "my_steps"
  exact ret _ _ _ _ (by assumption) (by walk_at "rep") (by k_asm) (by k_asm)
end

end
section -- W3
open PySem.Spec PySem.Calls
theorem lt_tl {q : Addr × Obj} {l : List (Addr × Obj)} {d : Addr} (h : ∀ p ∈ q :: l, p.1 < d) : ∀ p ∈ l, p.1 < d := fun p hp => h p (.tail _ hp)
theorem eq_toL {y : Str} {x : String} {l : List Nat} (e : Str.ofString x = ⟨l.toArray⟩) (h : (y == Str.ofString x) = true) : toL y = l := by
  rw [eq_of_beq h, e]
theorem ne_toL {y : Str} {x : String} {l : List Nat} (e : Str.ofString x = ⟨l.toArray⟩) (h : (y == Str.ofString x) = false) : toL y ≠ l := by
  intro q
  rw [beq_eq_false_iff_ne] at h
  apply h
  rw [e]
  subst q
  cases y
  simp [toL]
theorem sl_to (x : Str) (j : Int) (hj : 0 ≤ j) : toL (Txt.slice x none (some j)) = (toL x).take j.toNat := slice_ns hj
theorem sl_from (x : Str) (j : Int) (hj : 0 ≤ j) : toL (Txt.slice x (some j) none) = (toL x).drop j.toNat := slice_sn hj
theorem news_3 {h₀ h : Heap} {L : Addr} {a b c : Addr × Obj} {r : List (Addr × Obj)} (N : News h₀ L h (a :: b :: c :: r)) : News h₀ L h (a :: c :: b :: r) := fun p hp => N p (by
  simp only [List.mem_cons] at hp ⊢
  rcases hp with h | h | h | h <;> simp [h])
theorem news_4 {h₀ h : Heap} {L : Addr} {a b c d : Addr × Obj} {r : List (Addr × Obj)} (N : News h₀ L h (a :: b :: c :: d :: r)) : News h₀ L h (a :: d :: b :: c :: r) := fun p hp => N p (by
  simp only [List.mem_cons] at hp ⊢
  rcases hp with h | h | h | h | h <;> simp [h])
theorem mk_cmt {l : List Nat} (h : l.take 2 = [45, 45]) : markF l = ([], some cmtD, l.drop 2) := by unfold markF; rw [if_pos h]
theorem mk_doc {l : List Nat} (h : l.take 2 ≠ [45, 45]) (h' : (l.take 7).map low = doctypeL) : markF l = ([], some docD, l.drop 7) := by unfold markF; rw [if_neg h, if_pos h']
theorem mk_no {l : List Nat} (h : l.take 2 ≠ [45, 45]) (h' : (l.take 7).map low ≠ doctypeL) : markF l = ([fD "expected-dashes-or-doctype"], none, l) := NoMark.is ⟨h, h'⟩
section
variable {prog : Program} {w : World} {p : Program} {loose : List Str} {mean : ExcName → Option Value} {mg mb : Str → Option Value}
   {dp un : Nat} {gd : Option (List Code)} {cn : Str} {cs : Scope} {a : Addr} {ccd : Value} {cl : List (Str × Addr)} {outer : List Env} {A₀ : Around} {base h₀ : Heap} {L : Addr} {m : Str → Option Value} {rest : List (Addr × Obj)} {s : Shared}
    {Q E : Value → Shared → Prop}
theorem declared_t {x : Str} {t : Tok} (hx : x.length ≤ 1000)
    (B : Below A₀ base outer h₀) (F : Fr h₀ L s.heap m) (X : (Mine.hd.heap_1 w.params).In h₀)
    (N : News h₀ L s.heap rest)
    (T : Top p loose mean mg mb h₀) (hk : cs.kind = .function) (hd : dp + 150 < recursionLimit) (hu : un + 1500 < cLine)
    (ret : ∀ Tp D vt vx own ds n h' tk', RestV vx (some (markF (toL x)).2.2) → All2 (RepT prog w own) ds (markF (toL x)).1 → RepC prog w own vt (markF (toL x)).2.1 →
      (∀ p ∈ rest, p.1 < Tp) → (∀ p ∈ rest, p.1 < D) → (∀ q ∈ own, ∀ p ∈ rest, p.1 < q.1) → Fr h₀ L h' m → News h₀ L h' ((Tp, tup3 (.ref D) vt vx) :: (D, listOf ds.toArray n) :: (own ++ rest)) → Q (.ref Tp) { s with heap := h', toks := tk' }) :
    wpAny (model prog w) (ktrTop dp un gd cn cs L a ccd cl outer) (call (.ref 793) [.str x t]) Q E s := by
  k_with_none
  (k_with "my_enter" => k_dflt (refine' code_def ?k1₉ ?k2₉ ?k3₉ ?k4₉ ?k5₉ ?kA₉ ?kF₉ ?kK₉ ?k6₉ ?k7₉ ?k8₉ ?k9₉ ?kB₉ ?_ ?c2₉ ?c3₉ ?c4₉ ?c5₉; (case kA₉ => exact rfl); (case kF₉ => exact rfl); (case kK₉ => first | exact rfl | assumption); (case k1₉ => k_asm); (case k2₉ => k_asm); (case k3₉ => k_asm); (case k4₉ => k_asm); (case k5₉ => k_asm); (case k6₉ => k_is); (case k7₉ => k_is); (case k8₉ => ktr_room); (case k9₉ => first | exact BindsTo.of_eq rfl | exact binds_K (by k_in) rfl (by k_is) rfl rfl rfl); (case c5₉ => decide); (case kB₉ => exact locs rfl); (case c2₉ => exact rfl); (case c3₉ => exact rfl); (case c4₉ => exact rfl); k_whole; intro g'₉ L'₉ h'₉ FG'₉ F'₉ N'₉ B'₉ X'₉ T'₉; (try dsimp only); (try k_fold)))
  (k_with "my_args" => ((case B₉ => k_asm); (case F₉ => k_asm); (case X₉ => k_asm); (case T₉ => k_asm); (case hk₉ => first | exact rfl | assumption); (case hd₉ => ktr_room); (case hu₉ => ktr_units)))
  (k_with "rep_all" => first | exact All2.nil | (refine' All2.cons ⟨rfl, ?_⟩ ?_; (focus walk_at "rep_leaf"); (focus walk_at "rep_all")))
  (k_with "rep_leaf" => first | exact rfl | exact ⟨_, rfl⟩ | exact ⟨_, _, rfl, by k_mem⟩ | exact ⟨_, _, _, rfl, by k_mem, by assumption, by assumption, by walk_at "rep_all"⟩)
  (k_with "rep" => exact ⟨_, _, _, rfl, by k_mem, by assumption, by assumption, by walk_at "rep_all"⟩)
  (k_with "reps" => first | exact All2.nil | (refine' All2.cons ?_ ?_; (focus walk_at "rep"); (focus walk_at "reps")))
  (k_with "repc" => first | exact rfl | walk_at "rep")
  (k_with "callWith" => (k_here; (with_reducible show wpAny _ _ (callWith _ (Value.builtin _) _ (backTo _ (starEach (_ :: _) _)) []) _ _ _); (with_reducible refine' callWith_method1 ?_ ?he₉ ?hp₉); k_dflt ((case he₉ => exact rfl); (case hp₉ => exact rfl))))
  (k_with "eval Dict" => (k_here; k_dflt (refine' kdn_str ?q₉ ?F₉ ?N₉ ?b₉ ?a₉ ?l₉ ?e₉ ?n₉ ?_; (case q₉ => exact rfl); (case F₉ => k_asm); (case N₉ => k_asm); (case b₉ => exact Top.nolimit (by k_asm)); (case a₉ => exact rfl); (case l₉ => exact rfl); (case e₉ => exact List.cons_ne_nil _ _); (case n₉ => exact Nat.le_of_ble_eq_true rfl)); intro d'₉ h'₉ o'₉ F'₉ N'₉ l1₉ lo'₉ hd'₉; (try k_sweep)))
  (k_with "newList" => (k_here; k_dflt (refine' newList_K ?k1₉ ?k2₉ ?_; (case k1₉ => k_asm); (case k2₉ => k_asm); k_whole); intro l'₉ h'₉ F'₉ N'₉ l1₉; (try k_sweep)))
  (k_with "newTuple" => (k_here; k_dflt (refine' kup_newTuple ?F₉ ?N₉ ?_ ?z₉; (case F₉ => k_asm); (case N₉ => k_asm); (case z₉ => exact Nat.le_of_ble_eq_true rfl)); intro D'₉ h'₉ F'₉ N'₉ l1₉; (try k_sweep)))
  (k_with "my_updF" => first | exact UpdF.head (ne_lt (by assumption)) | exact UpdF.tail (gt_head (by assumption)) (UpdF.head (ne_lt (by assumption))))
  (k_with "KdnMade" => (k_here; k_dflt (refine' kdn_made_str ?F₉ ?N₉ ?U₉ ?d₉ ?k₉ ?n₉ ?_; (case F₉ => k_asm); (case N₉ => k_asm); (case U₉ => walk_at "my_updF"); (case d₉ => k_asm); (case k₉ => exact rfl); (case n₉ => exact of_decide_eq_true (by first | rfl | kernel_rfl!)); intro h'₉ o'₉ F'₉ N'₉ hd'₉); (try dsimp only at N'₉); (try dsimp only); (try k_sweep)))
  (k_with "my_mem" => first | assumption | exact List.Mem.head _ | (refine List.Mem.tail _ ?_; walk_at "my_mem"))
  (k_with "my_sub" => first | (refine' List.forall_mem_cons.mpr ⟨?zsa₉, ?zsb₉⟩; (case zsa₉ => walk_at "my_mem"); (case zsb₉ => walk_at "my_sub")) | (intro p₉ hp₉; walk_at "my_mem"))
  (k_with "my_lt" => first | assumption | exact lt_tl (by assumption) | exact lt_tl (lt_tl (by assumption)) | exact lt_tl (lt_tl (lt_tl (by assumption))))
  (k_with "my_lts" => first | (refine' List.forall_mem_cons.mpr ⟨?zla₉, ?zlb₉⟩; (case zla₉ => walk_at "my_lt"); (case zlb₉ => walk_at "my_lts")) | exact fun _ h => nomatch h)
  (k_with "subscriptTail" => (k_here; ((with_reducible rename Fr _ _ _ _ => F'₉); (with_reducible rename News _ _ _ _ => N'₉); first | ((with_reducible show wpAny _ _ (subscriptTail _ (Expr.Slice none (some _) none _) (Value.str _ _) _) _ _ _); (refine sl_ns (s := ⟨_, _, _, _, _⟩) (by decide) (by omega) F'₉ N'₉ ?_); clear F'₉ N'₉; intro y'₉ h'₉ t'₉ k'₉ e'₉ l'₉ F'₉ N'₉; (try dsimp only)) | ((with_reducible show wpAny _ _ (subscriptTail _ (Expr.Slice (some _) none none _) (Value.str _ _) _) _ _ _); (refine sl_sn (s := ⟨_, _, _, _, _⟩) (by decide) (by omega) F'₉ N'₉ ?_); clear F'₉ N'₉; intro y'₉ h'₉ t'₉ k'₉ e'₉ l'₉ F'₉ N'₉; (try dsimp only)))))
  (k_with "call ref" => (k_here; (with_reducible show wpAny _ _ (call (Value.ref 772) [Value.str _ _]) _ _ _); k_dflt (refine' small_t (by omega) ?B₉ ?F₉ ?X₉ ?N₉ ?T₉ ?hk₉ ?hd₉ ?hu₉ ?_; walk_at "my_args"; (case N₉ => k_asm)); intro y'₉ t'₉ h'₉ tk'₉ e'₉ F'₉ N'₉; (try dsimp only); (try k_sweep)))
  (k_with "call ref" => (k_here; (with_reducible show wpAny _ _ (call (Value.ref 779) [Value.str _ _]) _ _ _); k_dflt (refine' fault_t ?B₉ ?F₉ ?X₉ ?N₉ ?T₉ ?hk₉ ?hd₉ ?hu₉ ?_; walk_at "my_args"; (case N₉ => k_asm)); intro d'₉ o'₉ h'₉ tk'₉ l1₉ rp'₉ F'₉ N'₉; (try dsimp only); (try k_sweep)))
  (k_with "call ref" => (k_here; (with_reducible show wpAny _ _ (call (Value.ref 786) [Value.str _ _, Value.str _ _]) _ _ _); k_dflt (first | (refine' given6_t ?B₉ ?F₉ ?X₉ ?N₉ ?T₉ ?hk₉ ?hd₉ ?hu₉ ?_; walk_at "my_args"; (case N₉ => k_asm)) | (refine' given1_t ?B₉ ?F₉ ?X₉ ?N₉ ?T₉ ?hk₉ ?hd₉ ?hu₉ ?_; walk_at "my_args"; (case N₉ => k_asm))); intro d'₉ o'₉ h'₉ tk'₉ l1₉ rp'₉ F'₉ N'₉; (try dsimp only); (try k_sweep)))
  (k_with "my_steps" => (repeat' (first | (with_reducible refine GoOn.go (by with_reducible assumption) ?_; (try dsimp only)) | (k_unfold; (try dsimp only)) | (k_end; wrow_close) | walk1 | (dsimp only; walk1) | (leave1; (try dsimp only)) | fail "no step")))
  refine wpAny_call ?_
  walk_at "my_enter"
  walk_at "my_steps"
  all_goals (rename News _ _ _ _ => N7)
  · have e2 := eq_toL (l := [45, 45]) (x := "--") (by decide +kernel) (by assumption)
    rw [sl_to _ 2 (by decide)] at e2
    rw [mk_cmt e2] at ret
    (refine' ret _ _ _ _ [(_, _)] [] _ _ _ ?r₉ ?q₉ ?c₉ ?l1₉ ?l2₉ ?l3₉ ?f₉ ?n₉; (case n₉ => (have N8 := news_3 N7); exact N8); (case r₉ => exact ⟨_, _, rfl, sl_from _ 2 (by decide)⟩); (case q₉ => exact All2.nil); (case c₉ => assumption); (case l1₉ => walk_at "my_lt"); (case l2₉ => walk_at "my_lt"); (case l3₉ => walk_at "my_lts"); (case f₉ => k_asm))
  · have e2 := ne_toL (l := [45, 45]) (x := "--") (by decide +kernel) (by assumption)
    rw [sl_to _ 2 (by decide)] at e2
    rename toL _ = List.map low _ => e3
    have e7 := eq_toL (l := doctypeL) (x := "doctype") (by decide +kernel) (by assumption)
    rw [e3, sl_to _ 7 (by decide)] at e7
    rw [mk_doc e2 e7] at ret
    (refine' ret _ _ _ _ [(_, _)] [] _ _ _ ?r₉ ?q₉ ?c₉ ?l1₉ ?l2₉ ?l3₉ ?f₉ ?n₉; (case n₉ => (have N8 := news_3 N7); exact N8); (case r₉ => exact ⟨_, _, rfl, sl_from _ 7 (by decide)⟩); (case q₉ => exact All2.nil); (case c₉ => walk_at "rep"); (case l1₉ => walk_at "my_lt"); (case l2₉ => walk_at "my_lt"); (case l3₉ => walk_at "my_lts"); (case f₉ => k_asm))
  · have e2 := ne_toL (l := [45, 45]) (x := "--") (by decide +kernel) (by assumption)
    rw [sl_to _ 2 (by decide)] at e2
    rename toL _ = List.map low _ => e3
    have e7 := ne_toL (l := doctypeL) (x := "doctype") (by decide +kernel) (by assumption)
    rw [e3, sl_to _ 7 (by decide)] at e7
    rw [mk_no e2 e7] at ret
    (refine' ret _ _ _ _ [(_, _)] [_] _ _ _ ?r₉ ?q₉ ?c₉ ?l1₉ ?l2₉ ?l3₉ ?f₉ ?n₉; (case n₉ => exact N7); (case r₉ => exact ⟨_, _, rfl, rfl⟩); (case q₉ => exact All2.cons (by assumption) All2.nil); (case c₉ => exact rfl); (case l1₉ => walk_at "my_lt"); (case l2₉ => walk_at "my_lt"); (case l3₉ => walk_at "my_lts"); (case f₉ => k_asm))
end

end
section -- W4
open PySem.Spec PySem.Calls
abbrev LOut := List DD × Option DD × Option (List Nat)
def lawC : List Nat → Bool → LOut
  | [], true => ([fD "expected-closing-tag-but-got-eof", gD 1 "</"], none, some [])
  | [], false => ([fD "expected-closing-tag-but-got-right-bracket"], none, none)
  | c :: p, _ => if isLet c then ([], some (endD c), some p) else ([fcD c], none, some (c :: p))
def lawO : List Nat → Bool → LOut
  | [], false => ([fD "expected-tag-name-but-got-right-bracket", gD 1 "<>"], none, none)
  | [], true => ([fD "expected-tag-name", gD 1 "<"], none, some [])
  | c :: p, _ => if c = 33 ∨ c = 47 then ([], none, some p) else if isLet c then ([], some (startD c), some p)
    else if c = 63 then ([fD "expected-tag-name-but-got-question-mark"], none, some (c :: p)) else ([fD "expected-tag-name", gD 1 "<"], none, some (c :: p))
theorem str_a_ : Str.ofString "a" = ⟨#[97]⟩ := by decide +kernel
theorem str_z_ : Str.ofString "z" = ⟨#[122]⟩ := by decide +kernel
theorem let_low {c : Nat} : isLet c = true ↔ 97 ≤ low c ∧ low c ≤ 122 := by
  unfold isLet low
  simp only [Bool.or_eq_true, Bool.and_eq_true, decide_eq_true_eq]
  split <;> omega
theorem pos_of {x : Str} (h : (x == Str.ofString "") = false) : 1 ≤ x.length := by
  have e := ne_toL (l := []) (x := "") (by decide +kernel) h
  rw [← toL_length]
  exact List.length_pos_iff.mpr e
theorem nil_of {x : Str} (h : (x == Str.ofString "") = true) : toL x = [] := eq_toL (l := []) (x := "") (by decide +kernel) h
theorem cons_of {x : Str} {c : Nat} (h : (toL x)[0]? = some c) : ∃ p, toL x = c :: p := by
  cases e : toL x with
  | nil => rw [e] at h; simp at h
  | cons d p => rw [e] at h; simp at h; exact ⟨p, by rw [h]⟩
theorem toL_one {y : Str} {c : Nat} (h : toL y = [c]) : y = ⟨#[c]⟩ := by
  cases y with
  | mk a => cases a with
    | mk l => simp only [toL] at h; subst h; rfl
theorem toL_nil {y : Str} (h : toL y = []) : y = Str.ofString "" := by
  have e : Str.ofString "" = ⟨#[]⟩ := by decide +kernel
  rw [e]
  cases y with
  | mk a => cases a with
    | mk l => simp only [toL] at h; subst h; rfl
theorem take1_cons {x : Str} {c : Nat} {p : List Nat} (h : toL x = c :: p) : (toL x).take (Int.toNat 1) = [c] := by rw [h]; rfl
theorem take1_nil {x : Str} (h : toL x = []) : (toL x).take (Int.toNat 1) = [] := by rw [h]; rfl
theorem head_is {x : Str} {c d : Nat} {p : List Nat} (h : toL x = c :: p) (h' : (toL x)[Int.toNat 0]? = some d) : d = c := by
  rw [h] at h'
  exact (Option.some.inj h').symm
theorem ne_of {x : Str} {c : Nat} {p : List Nat} (h : toL x = c :: p) : (x == Str.ofString "") = false := by
  rw [beq_eq_false_iff_ne]
  intro e
  subst e
  have : toL (Str.ofString "") = [] := by decide +kernel
  rw [this] at h
  exact nomatch h
theorem low_one {y : Str} {c : Nat} (h : toL y = (toL ⟨#[c]⟩).map low) : y = ⟨#[low c]⟩ := toL_one h
theorem low_nil {y x : Str} (hx : toL x = []) (h : toL y = (toL x).map low) : y = Str.ofString "" := toL_nil (by rw [h, hx]; rfl)
theorem small_let {c : Nat} (h1 : ¬ (⟨#[low c]⟩ : Str).cps.toList < (Str.ofString "a").cps.toList) (h2 : ¬ (Str.ofString "z").cps.toList < (⟨#[low c]⟩ : Str).cps.toList) : isLet c = true := by
  have b1 := mt (lt_one str_a_).mpr h1
  have b2 := mt (one_lt str_z_).mpr h2
  exact let_low.mpr ⟨by omega, by omega⟩
theorem small_lo {c : Nat} (h1 : (⟨#[low c]⟩ : Str).cps.toList < (Str.ofString "a").cps.toList) : isLet c = false := by
  have b1 := (lt_one str_a_).mp h1
  cases e : isLet c with
  | false => rfl
  | true => have := let_low.mp e; omega
theorem small_hi {c : Nat} (h2 : (Str.ofString "z").cps.toList < (⟨#[low c]⟩ : Str).cps.toList) : isLet c = false := by
  have b1 := (one_lt str_z_).mp h2
  cases e : isLet c with
  | false => rfl
  | true => have := let_low.mp e; omega
section
variable {c : Nat} {p0 : List Nat} {last : Bool} {t : Tok}
theorem hit_nil : ¬ (hit2 33 47 (.str (Str.ofString "") t) = true) := by
  have e : Str.ofString "" = ⟨#[]⟩ := by decide +kernel
  rw [e]; simp [hit2]
theorem lawC_let (h : isLet c = true) : lawC (c :: p0) last = ([], some (endD c), some p0) := by simp [lawC, h]
theorem lawC_no (h : isLet c = false) : lawC (c :: p0) last = ([fcD c], none, some (c :: p0)) := by simp [lawC, h]
theorem lawO_two (h : hit2 33 47 (.str ⟨#[c]⟩ t) = true) : lawO (c :: p0) last = ([], none, some p0) := by
  have := hit2_yes h
  simp [lawO, this]
variable (h : hit2 33 47 (.str ⟨#[c]⟩ t) = false)
include h
theorem lawO_let (h1 : isLet c = true) : lawO (c :: p0) last = ([], some (startD c), some p0) := by
  have := hit2_no h
  simp [lawO, this, h1]
theorem lawO_qu (h1 : isLet c = false) (h2 : ((⟨#[c]⟩ : Str) == Str.ofString "?") = true) : lawO (c :: p0) last = ([fD "expected-tag-name-but-got-question-mark"], none, some (c :: p0)) := by
  have := hit2_no h
  have e := one_eq (x := "?") (k := 63) (by decide +kernel) h2
  subst e
  simp [lawO, h1]
theorem lawO_no (h1 : isLet c = false) (h2 : ((⟨#[c]⟩ : Str) == Str.ofString "?") = false) : lawO (c :: p0) last = ([fD "expected-tag-name", gD 1 "<"], none, some (c :: p0)) := by
  have := hit2_no h
  have e := one_ne (x := "?") (k := 63) (by decide +kernel) h2
  simp [lawO, this, h1, e]
end
section
variable {prog : Program} {w : World} {p : Program} {loose : List Str} {mean : ExcName → Option Value} {mg mb : Str → Option Value}
   {dp un : Nat} {gd : Option (List Code)} {cn : Str} {cs : Scope} {a : Addr} {ccd : Value} {cl : List (Str × Addr)} {outer : List Env} {A₀ : Around} {base h₀ : Heap} {L : Addr} {m : Str → Option Value} {rest : List (Addr × Obj)} {s : Shared}
    {Q E : Value → Shared → Prop}
theorem closed0_t {x : Str} {t : Tok} {last : Bool} (hxn : toL x = []) (hx : x.length ≤ 1000)
    (B : Below A₀ base outer h₀) (F : Fr h₀ L s.heap m) (X : (Mine.hd.heap_1 w.params).In h₀)
    (N : News h₀ L s.heap rest)
    (T : Top p loose mean mg mb h₀) (hk : cs.kind = .function) (hd : dp + 150 < recursionLimit) (hu : un + 1500 < cLine)
    (ret : ∀ Tp D vt vx own ds n h' tk', RestV vx (lawC [] last).2.2 → All2 (RepT prog w own) ds (lawC [] last).1 → RepC prog w own vt (lawC [] last).2.1 →
      (∀ p ∈ rest, p.1 < Tp) → (∀ p ∈ rest, p.1 < D) → (∀ q ∈ own, ∀ p ∈ rest, p.1 < q.1) → Fr h₀ L h' m → News h₀ L h' ((Tp, tup3 (.ref D) vt vx) :: (D, listOf ds.toArray n) :: (own ++ rest)) → Q (.ref Tp) { s with heap := h', toks := tk' }) :
    wpAny (model prog w) (ktrTop dp un gd cn cs L a ccd cl outer) (call (.ref 800) [.str x t, .bool last]) Q E s := by
  k_with_none
  (k_with "my_enter" => k_dflt (refine' code_def ?k1₉ ?k2₉ ?k3₉ ?k4₉ ?k5₉ ?kA₉ ?kF₉ ?kK₉ ?k6₉ ?k7₉ ?k8₉ ?k9₉ ?kB₉ ?_ ?c2₉ ?c3₉ ?c4₉ ?c5₉; (case kA₉ => exact rfl); (case kF₉ => exact rfl); (case kK₉ => first | exact rfl | assumption); (case k1₉ => k_asm); (case k2₉ => k_asm); (case k3₉ => k_asm); (case k4₉ => k_asm); (case k5₉ => k_asm); (case k6₉ => k_is); (case k7₉ => k_is); (case k8₉ => ktr_room); (case k9₉ => first | exact BindsTo.of_eq rfl | exact binds_K (by k_in) rfl (by k_is) rfl rfl rfl); (case c5₉ => decide); (case kB₉ => exact locs rfl); (case c2₉ => exact rfl); (case c3₉ => exact rfl); (case c4₉ => exact rfl); k_whole; intro g'₉ L'₉ h'₉ FG'₉ F'₉ N'₉ B'₉ X'₉ T'₉; (try dsimp only); (try k_fold)))
  (k_with "my_args" => ((case B₉ => k_asm); (case F₉ => k_asm); (case X₉ => k_asm); (case T₉ => k_asm); (case hk₉ => first | exact rfl | assumption); (case hd₉ => ktr_room); (case hu₉ => ktr_units)))
  (k_with "rep_all" => first | exact All2.nil | (refine' All2.cons ⟨rfl, ?_⟩ ?_; (focus walk_at "rep_leaf"); (focus walk_at "rep_all")))
  (k_with "rep_leaf" => first | exact rfl | exact ⟨_, rfl⟩ | exact ⟨_, _, rfl, by k_mem⟩ | exact ⟨_, _, _, rfl, by k_mem, by assumption, by assumption, by walk_at "rep_all"⟩)
  (k_with "rep" => exact ⟨_, _, _, rfl, by k_mem, by assumption, by assumption, by walk_at "rep_all"⟩)
  (k_with "reps" => first | exact All2.nil | (refine' All2.cons ?_ ?_; (focus walk_at "rep"); (focus walk_at "reps")))
  (k_with "repc" => first | exact rfl | walk_at "rep")
  (k_with "callWith" => (k_here; (with_reducible show wpAny _ _ (callWith _ (Value.builtin _) _ (backTo _ (starEach (_ :: _) _)) []) _ _ _); (with_reducible refine' callWith_method1 ?_ ?he₉ ?hp₉); k_dflt ((case he₉ => exact rfl); (case hp₉ => exact rfl))))
  (k_with "eval Dict" => (k_here; k_dflt (refine' kdn_str ?q₉ ?F₉ ?N₉ ?b₉ ?a₉ ?l₉ ?e₉ ?n₉ ?_; (case q₉ => exact rfl); (case F₉ => k_asm); (case N₉ => k_asm); (case b₉ => exact Top.nolimit (by k_asm)); (case a₉ => exact rfl); (case l₉ => exact rfl); (case e₉ => exact List.cons_ne_nil _ _); (case n₉ => exact Nat.le_of_ble_eq_true rfl)); intro d'₉ h'₉ o'₉ F'₉ N'₉ l1₉ lo'₉ hd'₉; (try k_sweep)))
  (k_with "newList" => (k_here; k_dflt (refine' newList_K ?k1₉ ?k2₉ ?_; (case k1₉ => k_asm); (case k2₉ => k_asm); k_whole); intro l'₉ h'₉ F'₉ N'₉ l1₉; (try k_sweep)))
  (k_with "newTuple" => (k_here; k_dflt (refine' kup_newTuple ?F₉ ?N₉ ?_ ?z₉; (case F₉ => k_asm); (case N₉ => k_asm); (case z₉ => exact Nat.le_of_ble_eq_true rfl)); intro D'₉ h'₉ F'₉ N'₉ l1₉; (try k_sweep)))
  (k_with "my_updF" => first | exact UpdF.head (ne_lt (by assumption)) | exact UpdF.tail (gt_head (by assumption)) (UpdF.head (ne_lt (by assumption))))
  (k_with "KdnMade" => (k_here; k_dflt (refine' kdn_made_str ?F₉ ?N₉ ?U₉ ?d₉ ?k₉ ?n₉ ?_; (case F₉ => k_asm); (case N₉ => k_asm); (case U₉ => walk_at "my_updF"); (case d₉ => k_asm); (case k₉ => exact rfl); (case n₉ => exact of_decide_eq_true (by first | rfl | kernel_rfl!)); intro h'₉ o'₉ F'₉ N'₉ hd'₉); (try dsimp only at N'₉); (try dsimp only); (try k_sweep)))
  (k_with "my_mem" => first | assumption | exact List.Mem.head _ | (refine List.Mem.tail _ ?_; walk_at "my_mem"))
  (k_with "my_sub" => first | (refine' List.forall_mem_cons.mpr ⟨?zsa₉, ?zsb₉⟩; (case zsa₉ => walk_at "my_mem"); (case zsb₉ => walk_at "my_sub")) | exact fun _ h => nomatch h | (intro p₉ hp₉; walk_at "my_mem"))
  (k_with "my_lt" => first | assumption | exact lt_tl (by assumption) | exact lt_tl (lt_tl (by assumption)) | exact lt_tl (lt_tl (lt_tl (by assumption))) | exact lt_tl (lt_tl (lt_tl (lt_tl (by assumption)))) | exact lt_tl (lt_tl (lt_tl (lt_tl (lt_tl (by assumption))))))
  (k_with "my_lts" => first | (refine' List.forall_mem_cons.mpr ⟨?zla₉, ?zlb₉⟩; (case zla₉ => walk_at "my_lt"); (case zlb₉ => walk_at "my_lts")) | exact fun _ h => nomatch h)
  (k_with "subscriptTail" => (k_here; ((with_reducible rename Fr _ _ _ _ => F'₉); (with_reducible rename News _ _ _ _ => N'₉); first | ((with_reducible show wpAny _ _ (subscriptTail _ (Expr.Slice none (some _) none _) (Value.str _ _) _) _ _ _); (refine sl_ns (s := ⟨_, _, _, _, _⟩) (by decide) (by omega) F'₉ N'₉ ?_); clear F'₉ N'₉; intro y'₉ h'₉ t'₉ k'₉ e'₉ l'₉ F'₉ N'₉; (try dsimp only)) | ((with_reducible show wpAny _ _ (subscriptTail _ (Expr.Slice (some _) none none _) (Value.str _ _) _) _ _ _); (refine sl_sn (s := ⟨_, _, _, _, _⟩) (by decide) (by omega) F'₉ N'₉ ?_); clear F'₉ N'₉; intro y'₉ h'₉ t'₉ k'₉ e'₉ l'₉ F'₉ N'₉; (try dsimp only)))))
  (k_with "call ref" => (k_here; (with_reducible show wpAny _ _ (call (Value.ref 772) [Value.str _ _]) _ _ _); k_dflt (refine' small_t (by omega) ?B₉ ?F₉ ?X₉ ?N₉ ?T₉ ?hk₉ ?hd₉ ?hu₉ ?_; walk_at "my_args"; (case N₉ => k_asm)); intro y'₉ t'₉ h'₉ tk'₉ e'₉ F'₉ N'₉; (try dsimp only); (try k_sweep)))
  (k_with "call ref" => (k_here; (with_reducible show wpAny _ _ (call (Value.ref 779) [Value.str _ _]) _ _ _); k_dflt (refine' fault_t ?B₉ ?F₉ ?X₉ ?N₉ ?T₉ ?hk₉ ?hd₉ ?hu₉ ?_; walk_at "my_args"; (case N₉ => k_asm)); intro d'₉ o'₉ h'₉ tk'₉ l1₉ rp'₉ F'₉ N'₉; (try dsimp only); (try k_sweep)))
  (k_with "call ref" => (k_here; (with_reducible show wpAny _ _ (call (Value.ref 786) [Value.str _ _, Value.str _ _]) _ _ _); k_dflt (first | (refine' given6_t ?B₉ ?F₉ ?X₉ ?N₉ ?T₉ ?hk₉ ?hd₉ ?hu₉ ?_; walk_at "my_args"; (case N₉ => k_asm)) | (refine' given1_t ?B₉ ?F₉ ?X₉ ?N₉ ?T₉ ?hk₉ ?hd₉ ?hu₉ ?_; walk_at "my_args"; (case N₉ => k_asm))); intro d'₉ o'₉ h'₉ tk'₉ l1₉ rp'₉ F'₉ N'₉; (try dsimp only); (try k_sweep)))
  (k_with "subscriptTail Name Constant str int" => (k_here; (have hpos'₉ := pos_of (by assumption)); (refine it_at (by decide) (by omega) (by omega) ?_); intro c'₉ ec'₉; (have ed'₉ := head_is (by assumption) ec'₉); subst ed'₉; (try dsimp only)))
  (k_with "subscriptTail Name Slice str ref" => (k_here; ((with_reducible rename Fr _ _ _ _ => F'₉); (with_reducible rename News _ _ _ _ => N'₉); (with_reducible show wpAny _ _ (subscriptTail _ (Expr.Slice none (some _) none _) (Value.str _ _) _) _ _ _); (refine sl_ns (s := ⟨_, _, _, _, _⟩) (by decide) (by omega) F'₉ N'₉ ?_); clear F'₉ N'₉; intro y'₉ h'₉ t'₉ k'₉ e'₉ l'₉ F'₉ N'₉; (first | (have ey'₉ := toL_one (e'₉.trans (take1_cons (by assumption)))) | (have ey'₉ := toL_nil (e'₉.trans (take1_nil (by assumption))))); clear e'₉ l'₉; subst ey'₉; (try dsimp only))))
  (k_with "call ref" => (k_here; (with_reducible show wpAny _ _ (call (Value.ref 772) [Value.str _ _]) _ _ _); k_dflt (refine' small_t ?x₉ ?B₉ ?F₉ ?X₉ ?N₉ ?T₉ ?hk₉ ?hd₉ ?hu₉ ?_; (case x₉ => first | omega | exact Nat.le_of_ble_eq_true rfl | (have e0₉ : (Str.ofString "").length = 0 := by decide +kernel; omega)); walk_at "my_args"; (case N₉ => k_asm)); intro y'₉ t'₉ h'₉ tk'₉ e'₉ F'₉ N'₉; k_dflt (first | (have ey'₉ := low_one e'₉) | (have ey'₉ := low_nil (by decide +kernel) e'₉)); clear e'₉; subst ey'₉; (try dsimp only); (try k_sweep)))
  (k_with "compareOp In str ref" => (k_here; (with_reducible show wpAny _ _ (compareOp CmpOp.In _ (Value.ref _)) _ _ _); k_dflt (refine' in_two (a := 33) (b := 47) ?N₉ ?m₉ ?x₉ ?y₉ ?v₉ ?_; (case N₉ => k_asm); (case m₉ => k_mem); (case x₉ => decide +kernel); (case y₉ => decide +kernel); (case v₉ => first | exact .inl rfl | exact .inr ⟨_, _, rfl⟩)); (try dsimp only)))
  (k_with "my_steps" => (repeat' (first | (with_reducible refine GoOn.go (by with_reducible assumption) ?_; (try dsimp only)) | (k_unfold; (try dsimp only)) | (k_end; wrow_close) | walk1 | (dsimp only; walk1) | (leave1; (try dsimp only)) | fail "no step")))
  have hxe := toL_nil hxn
  subst hxe
  refine wpAny_call ?_
  walk_at "my_enter"
  walk_at "my_steps"
  all_goals (try (rename News _ _ _ _ => N7))
  · rename (last = true) => el
    subst el
    (refine' ret _ _ _ _ [_, _] [_, _] _ _ _ ?r₉ ?q₉ ?c₉ ?l1₉ ?l2₉ ?l3₉ ?f₉ ?n₉; (case n₉ => exact N7); (case r₉ => exact ⟨_, _, rfl, by decide +kernel⟩); (case q₉ => exact All2.cons (by (refine RepT.sub (own := [_]) ?_ (by assumption); walk_at "my_sub")) (All2.cons (by (refine RepT.sub (own := [_]) ?_ (by assumption); walk_at "my_sub")) All2.nil)); (case c₉ => exact rfl); (case l1₉ => walk_at "my_lt"); (case l2₉ => walk_at "my_lt"); (case l3₉ => walk_at "my_lts"); (case f₉ => k_asm))
  · rename (last = false) => el
    subst el
    (refine' ret _ _ _ _ [_] [_] _ _ _ ?r₉ ?q₉ ?c₉ ?l1₉ ?l2₉ ?l3₉ ?f₉ ?n₉; (case n₉ => exact N7); (case r₉ => exact rfl); (case q₉ => exact All2.cons (by assumption) All2.nil); (case c₉ => exact rfl); (case l1₉ => walk_at "my_lt"); (case l2₉ => walk_at "my_lt"); (case l3₉ => walk_at "my_lts"); (case f₉ => k_asm))
theorem closed1_t {x : Str} {t : Tok} {last : Bool} {c : Nat} {p0 : List Nat} (hxc : toL x = c :: p0) (hx : x.length ≤ 1000)
    (B : Below A₀ base outer h₀) (F : Fr h₀ L s.heap m) (X : (Mine.hd.heap_1 w.params).In h₀)
    (N : News h₀ L s.heap rest)
    (T : Top p loose mean mg mb h₀) (hk : cs.kind = .function) (hd : dp + 150 < recursionLimit) (hu : un + 1500 < cLine)
    (ret : ∀ Tp D vt vx own ds n h' tk', RestV vx (lawC (c :: p0) last).2.2 → All2 (RepT prog w own) ds (lawC (c :: p0) last).1 → RepC prog w own vt (lawC (c :: p0) last).2.1 →
      (∀ p ∈ rest, p.1 < Tp) → (∀ p ∈ rest, p.1 < D) → (∀ q ∈ own, ∀ p ∈ rest, p.1 < q.1) → Fr h₀ L h' m → News h₀ L h' ((Tp, tup3 (.ref D) vt vx) :: (D, listOf ds.toArray n) :: (own ++ rest)) → Q (.ref Tp) { s with heap := h', toks := tk' }) :
    wpAny (model prog w) (ktrTop dp un gd cn cs L a ccd cl outer) (call (.ref 800) [.str x t, .bool last]) Q E s := by
  k_with_none
  (k_with "my_enter" => k_dflt (refine' code_def ?k1₉ ?k2₉ ?k3₉ ?k4₉ ?k5₉ ?kA₉ ?kF₉ ?kK₉ ?k6₉ ?k7₉ ?k8₉ ?k9₉ ?kB₉ ?_ ?c2₉ ?c3₉ ?c4₉ ?c5₉; (case kA₉ => exact rfl); (case kF₉ => exact rfl); (case kK₉ => first | exact rfl | assumption); (case k1₉ => k_asm); (case k2₉ => k_asm); (case k3₉ => k_asm); (case k4₉ => k_asm); (case k5₉ => k_asm); (case k6₉ => k_is); (case k7₉ => k_is); (case k8₉ => ktr_room); (case k9₉ => first | exact BindsTo.of_eq rfl | exact binds_K (by k_in) rfl (by k_is) rfl rfl rfl); (case c5₉ => decide); (case kB₉ => exact locs rfl); (case c2₉ => exact rfl); (case c3₉ => exact rfl); (case c4₉ => exact rfl); k_whole; intro g'₉ L'₉ h'₉ FG'₉ F'₉ N'₉ B'₉ X'₉ T'₉; (try dsimp only); (try k_fold)))
  (k_with "my_args" => ((case B₉ => k_asm); (case F₉ => k_asm); (case X₉ => k_asm); (case T₉ => k_asm); (case hk₉ => first | exact rfl | assumption); (case hd₉ => ktr_room); (case hu₉ => ktr_units)))
  (k_with "rep_all" => first | exact All2.nil | (refine' All2.cons ⟨rfl, ?_⟩ ?_; (focus walk_at "rep_leaf"); (focus walk_at "rep_all")))
  (k_with "rep_leaf" => first | exact rfl | exact ⟨_, rfl⟩ | exact ⟨_, _, rfl, by k_mem⟩ | exact ⟨_, _, _, rfl, by k_mem, by assumption, by assumption, by walk_at "rep_all"⟩)
  (k_with "rep" => exact ⟨_, _, _, rfl, by k_mem, by assumption, by assumption, by walk_at "rep_all"⟩)
  (k_with "reps" => first | exact All2.nil | (refine' All2.cons ?_ ?_; (focus walk_at "rep"); (focus walk_at "reps")))
  (k_with "repc" => first | exact rfl | walk_at "rep")
  (k_with "callWith" => (k_here; (with_reducible show wpAny _ _ (callWith _ (Value.builtin _) _ (backTo _ (starEach (_ :: _) _)) []) _ _ _); (with_reducible refine' callWith_method1 ?_ ?he₉ ?hp₉); k_dflt ((case he₉ => exact rfl); (case hp₉ => exact rfl))))
  (k_with "eval Dict" => (k_here; k_dflt (refine' kdn_str ?q₉ ?F₉ ?N₉ ?b₉ ?a₉ ?l₉ ?e₉ ?n₉ ?_; (case q₉ => exact rfl); (case F₉ => k_asm); (case N₉ => k_asm); (case b₉ => exact Top.nolimit (by k_asm)); (case a₉ => exact rfl); (case l₉ => exact rfl); (case e₉ => exact List.cons_ne_nil _ _); (case n₉ => exact Nat.le_of_ble_eq_true rfl)); intro d'₉ h'₉ o'₉ F'₉ N'₉ l1₉ lo'₉ hd'₉; (try k_sweep)))
  (k_with "newList" => (k_here; k_dflt (refine' newList_K ?k1₉ ?k2₉ ?_; (case k1₉ => k_asm); (case k2₉ => k_asm); k_whole); intro l'₉ h'₉ F'₉ N'₉ l1₉; (try k_sweep)))
  (k_with "newTuple" => (k_here; k_dflt (refine' kup_newTuple ?F₉ ?N₉ ?_ ?z₉; (case F₉ => k_asm); (case N₉ => k_asm); (case z₉ => exact Nat.le_of_ble_eq_true rfl)); intro D'₉ h'₉ F'₉ N'₉ l1₉; (try k_sweep)))
  (k_with "my_updF" => first | exact UpdF.head (ne_lt (by assumption)) | exact UpdF.tail (gt_head (by assumption)) (UpdF.head (ne_lt (by assumption))))
  (k_with "KdnMade" => (k_here; k_dflt (refine' kdn_made_str ?F₉ ?N₉ ?U₉ ?d₉ ?k₉ ?n₉ ?_; (case F₉ => k_asm); (case N₉ => k_asm); (case U₉ => walk_at "my_updF"); (case d₉ => k_asm); (case k₉ => exact rfl); (case n₉ => exact of_decide_eq_true (by first | rfl | kernel_rfl!)); intro h'₉ o'₉ F'₉ N'₉ hd'₉); (try dsimp only at N'₉); (try dsimp only); (try k_sweep)))
  (k_with "my_mem" => first | assumption | exact List.Mem.head _ | (refine List.Mem.tail _ ?_; walk_at "my_mem"))
  (k_with "my_sub" => first | (refine' List.forall_mem_cons.mpr ⟨?zsa₉, ?zsb₉⟩; (case zsa₉ => walk_at "my_mem"); (case zsb₉ => walk_at "my_sub")) | exact fun _ h => nomatch h | (intro p₉ hp₉; walk_at "my_mem"))
  (k_with "my_lt" => first | assumption | exact lt_tl (by assumption) | exact lt_tl (lt_tl (by assumption)) | exact lt_tl (lt_tl (lt_tl (by assumption))) | exact lt_tl (lt_tl (lt_tl (lt_tl (by assumption)))) | exact lt_tl (lt_tl (lt_tl (lt_tl (lt_tl (by assumption))))))
  (k_with "my_lts" => first | (refine' List.forall_mem_cons.mpr ⟨?zla₉, ?zlb₉⟩; (case zla₉ => walk_at "my_lt"); (case zlb₉ => walk_at "my_lts")) | exact fun _ h => nomatch h)
  (k_with "subscriptTail" => (k_here; ((with_reducible rename Fr _ _ _ _ => F'₉); (with_reducible rename News _ _ _ _ => N'₉); first | ((with_reducible show wpAny _ _ (subscriptTail _ (Expr.Slice none (some _) none _) (Value.str _ _) _) _ _ _); (refine sl_ns (s := ⟨_, _, _, _, _⟩) (by decide) (by omega) F'₉ N'₉ ?_); clear F'₉ N'₉; intro y'₉ h'₉ t'₉ k'₉ e'₉ l'₉ F'₉ N'₉; (try dsimp only)) | ((with_reducible show wpAny _ _ (subscriptTail _ (Expr.Slice (some _) none none _) (Value.str _ _) _) _ _ _); (refine sl_sn (s := ⟨_, _, _, _, _⟩) (by decide) (by omega) F'₉ N'₉ ?_); clear F'₉ N'₉; intro y'₉ h'₉ t'₉ k'₉ e'₉ l'₉ F'₉ N'₉; (try dsimp only)))))
  (k_with "call ref" => (k_here; (with_reducible show wpAny _ _ (call (Value.ref 772) [Value.str _ _]) _ _ _); k_dflt (refine' small_t (by omega) ?B₉ ?F₉ ?X₉ ?N₉ ?T₉ ?hk₉ ?hd₉ ?hu₉ ?_; walk_at "my_args"; (case N₉ => k_asm)); intro y'₉ t'₉ h'₉ tk'₉ e'₉ F'₉ N'₉; (try dsimp only); (try k_sweep)))
  (k_with "call ref" => (k_here; (with_reducible show wpAny _ _ (call (Value.ref 779) [Value.str _ _]) _ _ _); k_dflt (refine' fault_t ?B₉ ?F₉ ?X₉ ?N₉ ?T₉ ?hk₉ ?hd₉ ?hu₉ ?_; walk_at "my_args"; (case N₉ => k_asm)); intro d'₉ o'₉ h'₉ tk'₉ l1₉ rp'₉ F'₉ N'₉; (try dsimp only); (try k_sweep)))
  (k_with "call ref" => (k_here; (with_reducible show wpAny _ _ (call (Value.ref 786) [Value.str _ _, Value.str _ _]) _ _ _); k_dflt (first | (refine' given6_t ?B₉ ?F₉ ?X₉ ?N₉ ?T₉ ?hk₉ ?hd₉ ?hu₉ ?_; walk_at "my_args"; (case N₉ => k_asm)) | (refine' given1_t ?B₉ ?F₉ ?X₉ ?N₉ ?T₉ ?hk₉ ?hd₉ ?hu₉ ?_; walk_at "my_args"; (case N₉ => k_asm))); intro d'₉ o'₉ h'₉ tk'₉ l1₉ rp'₉ F'₉ N'₉; (try dsimp only); (try k_sweep)))
  (k_with "subscriptTail Name Constant str int" => (k_here; (have hpos'₉ := pos_of (by assumption)); (refine it_at (by decide) (by omega) (by omega) ?_); intro c'₉ ec'₉; (have ed'₉ := head_is (by assumption) ec'₉); subst ed'₉; (try dsimp only)))
  (k_with "subscriptTail Name Slice str ref" => (k_here; ((with_reducible rename Fr _ _ _ _ => F'₉); (with_reducible rename News _ _ _ _ => N'₉); (with_reducible show wpAny _ _ (subscriptTail _ (Expr.Slice none (some _) none _) (Value.str _ _) _) _ _ _); (refine sl_ns (s := ⟨_, _, _, _, _⟩) (by decide) (by omega) F'₉ N'₉ ?_); clear F'₉ N'₉; intro y'₉ h'₉ t'₉ k'₉ e'₉ l'₉ F'₉ N'₉; (first | (have ey'₉ := toL_one (e'₉.trans (take1_cons (by assumption)))) | (have ey'₉ := toL_nil (e'₉.trans (take1_nil (by assumption))))); clear e'₉ l'₉; subst ey'₉; (try dsimp only))))
  (k_with "call ref" => (k_here; (with_reducible show wpAny _ _ (call (Value.ref 772) [Value.str _ _]) _ _ _); k_dflt (refine' small_t ?x₉ ?B₉ ?F₉ ?X₉ ?N₉ ?T₉ ?hk₉ ?hd₉ ?hu₉ ?_; (case x₉ => first | omega | exact Nat.le_of_ble_eq_true rfl | (have e0₉ : (Str.ofString "").length = 0 := by decide +kernel; omega)); walk_at "my_args"; (case N₉ => k_asm)); intro y'₉ t'₉ h'₉ tk'₉ e'₉ F'₉ N'₉; k_dflt (first | (have ey'₉ := low_one e'₉) | (have ey'₉ := low_nil (by decide +kernel) e'₉)); clear e'₉; subst ey'₉; (try dsimp only); (try k_sweep)))
  (k_with "compareOp In str ref" => (k_here; (with_reducible show wpAny _ _ (compareOp CmpOp.In _ (Value.ref _)) _ _ _); k_dflt (refine' in_two (a := 33) (b := 47) ?N₉ ?m₉ ?x₉ ?y₉ ?v₉ ?_; (case N₉ => k_asm); (case m₉ => k_mem); (case x₉ => decide +kernel); (case y₉ => decide +kernel); (case v₉ => first | exact .inl rfl | exact .inr ⟨_, _, rfl⟩)); (try dsimp only)))
  (k_with "ite" => (first | (with_reducible refine ite_tt ?_) | (with_reducible refine ite_ff ?_) | ((with_reducible show (if decide _ = true then _ else _)); (with_reducible refine split_dec ?_ ?_ <;> intro _))))
  (k_with "my_steps" => (repeat' (first | (with_reducible refine GoOn.go (by with_reducible assumption) ?_; (try dsimp only)) | (k_unfold; (try dsimp only)) | (k_end; wrow_close) | walk1 | (dsimp only; walk1) | (leave1; (try dsimp only)) | fail "no step")))
  have hxe := ne_of hxc
  refine wpAny_call ?_
  walk_at "my_enter"
  walk_at "my_steps"
  all_goals (try (rename News _ _ _ _ => N7))
  · rw [lawC_no (small_lo (by assumption))] at ret
    (refine' ret _ _ _ _ [(_, _), (_, _)] [_] _ _ _ ?r₉ ?q₉ ?c₉ ?l1₉ ?l2₉ ?l3₉ ?f₉ ?n₉; (case n₉ => exact N7); (case r₉ => exact ⟨_, _, rfl, hxc⟩); (case q₉ => exact All2.cons (by walk_at "rep") All2.nil); (case c₉ => exact rfl); (case l1₉ => walk_at "my_lt"); (case l2₉ => walk_at "my_lt"); (case l3₉ => walk_at "my_lts"); (case f₉ => k_asm))
  · rw [lawC_no (small_hi (by assumption))] at ret
    (refine' ret _ _ _ _ [(_, _), (_, _)] [_] _ _ _ ?r₉ ?q₉ ?c₉ ?l1₉ ?l2₉ ?l3₉ ?f₉ ?n₉; (case n₉ => exact N7); (case r₉ => exact ⟨_, _, rfl, hxc⟩); (case q₉ => exact All2.cons (by walk_at "rep") All2.nil); (case c₉ => exact rfl); (case l1₉ => walk_at "my_lt"); (case l2₉ => walk_at "my_lt"); (case l3₉ => walk_at "my_lts"); (case f₉ => k_asm))
  · rw [lawC_let (small_let (by assumption) (by assumption))] at ret
    (refine' ret _ _ _ _ [(_, _), (_, _)] [] _ _ _ ?r₉ ?q₉ ?c₉ ?l1₉ ?l2₉ ?l3₉ ?f₉ ?n₉; (case n₉ => (have N8 := news_4 N7); exact N8); (case r₉ => exact ⟨_, _, rfl, by rw [sl_from _ 1 (by decide), hxc]; rfl⟩); (case q₉ => exact All2.nil); (case c₉ => walk_at "rep"); (case l1₉ => walk_at "my_lt"); (case l2₉ => walk_at "my_lt"); (case l3₉ => walk_at "my_lts"); (case f₉ => k_asm))
theorem opened0_t {x : Str} {t : Tok} {last : Bool} (hxn : toL x = []) (hx : x.length ≤ 1000)
    (B : Below A₀ base outer h₀) (F : Fr h₀ L s.heap m) (X : (Mine.hd.heap_1 w.params).In h₀)
    (N : News h₀ L s.heap rest)
    (T : Top p loose mean mg mb h₀) (hk : cs.kind = .function) (hd : dp + 150 < recursionLimit) (hu : un + 1500 < cLine)
    (ret : ∀ Tp D vt vx own ds n h' tk', RestV vx (lawO [] last).2.2 → All2 (RepT prog w own) ds (lawO [] last).1 → RepC prog w own vt (lawO [] last).2.1 →
      (∀ p ∈ rest, p.1 < Tp) → (∀ p ∈ rest, p.1 < D) → (∀ q ∈ own, ∀ p ∈ rest, p.1 < q.1) → Fr h₀ L h' m → News h₀ L h' ((Tp, tup3 (.ref D) vt vx) :: (D, listOf ds.toArray n) :: (own ++ rest)) → Q (.ref Tp) { s with heap := h', toks := tk' }) :
    wpAny (model prog w) (ktrTop dp un gd cn cs L a ccd cl outer) (call (.ref 807) [.str x t, .bool last]) Q E s := by
  k_with_none
  (k_with "my_enter" => k_dflt (refine' code_def ?k1₉ ?k2₉ ?k3₉ ?k4₉ ?k5₉ ?kA₉ ?kF₉ ?kK₉ ?k6₉ ?k7₉ ?k8₉ ?k9₉ ?kB₉ ?_ ?c2₉ ?c3₉ ?c4₉ ?c5₉; (case kA₉ => exact rfl); (case kF₉ => exact rfl); (case kK₉ => first | exact rfl | assumption); (case k1₉ => k_asm); (case k2₉ => k_asm); (case k3₉ => k_asm); (case k4₉ => k_asm); (case k5₉ => k_asm); (case k6₉ => k_is); (case k7₉ => k_is); (case k8₉ => ktr_room); (case k9₉ => first | exact BindsTo.of_eq rfl | exact binds_K (by k_in) rfl (by k_is) rfl rfl rfl); (case c5₉ => decide); (case kB₉ => exact locs rfl); (case c2₉ => exact rfl); (case c3₉ => exact rfl); (case c4₉ => exact rfl); k_whole; intro g'₉ L'₉ h'₉ FG'₉ F'₉ N'₉ B'₉ X'₉ T'₉; (try dsimp only); (try k_fold)))
  (k_with "my_args" => ((case B₉ => k_asm); (case F₉ => k_asm); (case X₉ => k_asm); (case T₉ => k_asm); (case hk₉ => first | exact rfl | assumption); (case hd₉ => ktr_room); (case hu₉ => ktr_units)))
  (k_with "rep_all" => first | exact All2.nil | (refine' All2.cons ⟨rfl, ?_⟩ ?_; (focus walk_at "rep_leaf"); (focus walk_at "rep_all")))
  (k_with "rep_leaf" => first | exact rfl | exact ⟨_, rfl⟩ | exact ⟨_, _, rfl, by k_mem⟩ | exact ⟨_, _, _, rfl, by k_mem, by assumption, by assumption, by walk_at "rep_all"⟩)
  (k_with "rep" => exact ⟨_, _, _, rfl, by k_mem, by assumption, by assumption, by walk_at "rep_all"⟩)
  (k_with "reps" => first | exact All2.nil | (refine' All2.cons ?_ ?_; (focus walk_at "rep"); (focus walk_at "reps")))
  (k_with "repc" => first | exact rfl | walk_at "rep")
  (k_with "callWith" => (k_here; (with_reducible show wpAny _ _ (callWith _ (Value.builtin _) _ (backTo _ (starEach (_ :: _) _)) []) _ _ _); (with_reducible refine' callWith_method1 ?_ ?he₉ ?hp₉); k_dflt ((case he₉ => exact rfl); (case hp₉ => exact rfl))))
  (k_with "eval Dict" => (k_here; k_dflt (refine' kdn_str ?q₉ ?F₉ ?N₉ ?b₉ ?a₉ ?l₉ ?e₉ ?n₉ ?_; (case q₉ => exact rfl); (case F₉ => k_asm); (case N₉ => k_asm); (case b₉ => exact Top.nolimit (by k_asm)); (case a₉ => exact rfl); (case l₉ => exact rfl); (case e₉ => exact List.cons_ne_nil _ _); (case n₉ => exact Nat.le_of_ble_eq_true rfl)); intro d'₉ h'₉ o'₉ F'₉ N'₉ l1₉ lo'₉ hd'₉; (try k_sweep)))
  (k_with "newList" => (k_here; k_dflt (refine' newList_K ?k1₉ ?k2₉ ?_; (case k1₉ => k_asm); (case k2₉ => k_asm); k_whole); intro l'₉ h'₉ F'₉ N'₉ l1₉; (try k_sweep)))
  (k_with "newTuple" => (k_here; k_dflt (refine' kup_newTuple ?F₉ ?N₉ ?_ ?z₉; (case F₉ => k_asm); (case N₉ => k_asm); (case z₉ => exact Nat.le_of_ble_eq_true rfl)); intro D'₉ h'₉ F'₉ N'₉ l1₉; (try k_sweep)))
  (k_with "my_updF" => first | exact UpdF.head (ne_lt (by assumption)) | exact UpdF.tail (gt_head (by assumption)) (UpdF.head (ne_lt (by assumption))))
  (k_with "KdnMade" => (k_here; k_dflt (refine' kdn_made_str ?F₉ ?N₉ ?U₉ ?d₉ ?k₉ ?n₉ ?_; (case F₉ => k_asm); (case N₉ => k_asm); (case U₉ => walk_at "my_updF"); (case d₉ => k_asm); (case k₉ => exact rfl); (case n₉ => exact of_decide_eq_true (by first | rfl | kernel_rfl!)); intro h'₉ o'₉ F'₉ N'₉ hd'₉); (try dsimp only at N'₉); (try dsimp only); (try k_sweep)))
  (k_with "my_mem" => first | assumption | exact List.Mem.head _ | (refine List.Mem.tail _ ?_; walk_at "my_mem"))
  (k_with "my_sub" => first | (refine' List.forall_mem_cons.mpr ⟨?zsa₉, ?zsb₉⟩; (case zsa₉ => walk_at "my_mem"); (case zsb₉ => walk_at "my_sub")) | exact fun _ h => nomatch h | (intro p₉ hp₉; walk_at "my_mem"))
  (k_with "my_lt" => first | assumption | exact lt_tl (by assumption) | exact lt_tl (lt_tl (by assumption)) | exact lt_tl (lt_tl (lt_tl (by assumption))) | exact lt_tl (lt_tl (lt_tl (lt_tl (by assumption)))) | exact lt_tl (lt_tl (lt_tl (lt_tl (lt_tl (by assumption))))))
  (k_with "my_lts" => first | (refine' List.forall_mem_cons.mpr ⟨?zla₉, ?zlb₉⟩; (case zla₉ => walk_at "my_lt"); (case zlb₉ => walk_at "my_lts")) | exact fun _ h => nomatch h)
  (k_with "subscriptTail" => (k_here; ((with_reducible rename Fr _ _ _ _ => F'₉); (with_reducible rename News _ _ _ _ => N'₉); first | ((with_reducible show wpAny _ _ (subscriptTail _ (Expr.Slice none (some _) none _) (Value.str _ _) _) _ _ _); (refine sl_ns (s := ⟨_, _, _, _, _⟩) (by decide) (by omega) F'₉ N'₉ ?_); clear F'₉ N'₉; intro y'₉ h'₉ t'₉ k'₉ e'₉ l'₉ F'₉ N'₉; (try dsimp only)) | ((with_reducible show wpAny _ _ (subscriptTail _ (Expr.Slice (some _) none none _) (Value.str _ _) _) _ _ _); (refine sl_sn (s := ⟨_, _, _, _, _⟩) (by decide) (by omega) F'₉ N'₉ ?_); clear F'₉ N'₉; intro y'₉ h'₉ t'₉ k'₉ e'₉ l'₉ F'₉ N'₉; (try dsimp only)))))
  (k_with "call ref" => (k_here; (with_reducible show wpAny _ _ (call (Value.ref 772) [Value.str _ _]) _ _ _); k_dflt (refine' small_t (by omega) ?B₉ ?F₉ ?X₉ ?N₉ ?T₉ ?hk₉ ?hd₉ ?hu₉ ?_; walk_at "my_args"; (case N₉ => k_asm)); intro y'₉ t'₉ h'₉ tk'₉ e'₉ F'₉ N'₉; (try dsimp only); (try k_sweep)))
  (k_with "call ref" => (k_here; (with_reducible show wpAny _ _ (call (Value.ref 779) [Value.str _ _]) _ _ _); k_dflt (refine' fault_t ?B₉ ?F₉ ?X₉ ?N₉ ?T₉ ?hk₉ ?hd₉ ?hu₉ ?_; walk_at "my_args"; (case N₉ => k_asm)); intro d'₉ o'₉ h'₉ tk'₉ l1₉ rp'₉ F'₉ N'₉; (try dsimp only); (try k_sweep)))
  (k_with "call ref" => (k_here; (with_reducible show wpAny _ _ (call (Value.ref 786) [Value.str _ _, Value.str _ _]) _ _ _); k_dflt (first | (refine' given6_t ?B₉ ?F₉ ?X₉ ?N₉ ?T₉ ?hk₉ ?hd₉ ?hu₉ ?_; walk_at "my_args"; (case N₉ => k_asm)) | (refine' given1_t ?B₉ ?F₉ ?X₉ ?N₉ ?T₉ ?hk₉ ?hd₉ ?hu₉ ?_; walk_at "my_args"; (case N₉ => k_asm))); intro d'₉ o'₉ h'₉ tk'₉ l1₉ rp'₉ F'₉ N'₉; (try dsimp only); (try k_sweep)))
  (k_with "subscriptTail Name Constant str int" => (k_here; (have hpos'₉ := pos_of (by assumption)); (refine it_at (by decide) (by omega) (by omega) ?_); intro c'₉ ec'₉; (have ed'₉ := head_is (by assumption) ec'₉); subst ed'₉; (try dsimp only)))
  (k_with "subscriptTail Name Slice str ref" => (k_here; ((with_reducible rename Fr _ _ _ _ => F'₉); (with_reducible rename News _ _ _ _ => N'₉); (with_reducible show wpAny _ _ (subscriptTail _ (Expr.Slice none (some _) none _) (Value.str _ _) _) _ _ _); (refine sl_ns (s := ⟨_, _, _, _, _⟩) (by decide) (by omega) F'₉ N'₉ ?_); clear F'₉ N'₉; intro y'₉ h'₉ t'₉ k'₉ e'₉ l'₉ F'₉ N'₉; (first | (have ey'₉ := toL_one (e'₉.trans (take1_cons (by assumption)))) | (have ey'₉ := toL_nil (e'₉.trans (take1_nil (by assumption))))); clear e'₉ l'₉; subst ey'₉; (try dsimp only))))
  (k_with "call ref" => (k_here; (with_reducible show wpAny _ _ (call (Value.ref 772) [Value.str _ _]) _ _ _); k_dflt (refine' small_t ?x₉ ?B₉ ?F₉ ?X₉ ?N₉ ?T₉ ?hk₉ ?hd₉ ?hu₉ ?_; (case x₉ => first | omega | exact Nat.le_of_ble_eq_true rfl | (have e0₉ : (Str.ofString "").length = 0 := by decide +kernel; omega)); walk_at "my_args"; (case N₉ => k_asm)); intro y'₉ t'₉ h'₉ tk'₉ e'₉ F'₉ N'₉; k_dflt (first | (have ey'₉ := low_one e'₉) | (have ey'₉ := low_nil (by decide +kernel) e'₉)); clear e'₉; subst ey'₉; (try dsimp only); (try k_sweep)))
  (k_with "compareOp In str ref" => (k_here; (with_reducible show wpAny _ _ (compareOp CmpOp.In _ (Value.ref _)) _ _ _); k_dflt (refine' in_two (a := 33) (b := 47) ?N₉ ?m₉ ?x₉ ?y₉ ?v₉ ?_; (case N₉ => k_asm); (case m₉ => k_mem); (case x₉ => decide +kernel); (case y₉ => decide +kernel); (case v₉ => first | exact .inl rfl | exact .inr ⟨_, _, rfl⟩)); (try dsimp only)))
  (k_with "ite" => (first | (with_reducible refine ite_tt ?_) | (with_reducible refine ite_ff ?_) | ((with_reducible show (if decide _ = true then _ else _)); (with_reducible refine split_dec ?_ ?_ <;> intro _))))
  (k_with "my_steps" => (repeat' (first | (with_reducible refine GoOn.go (by with_reducible assumption) ?_; (try dsimp only)) | (k_unfold; (try dsimp only)) | (k_end; wrow_close) | walk1 | (dsimp only; walk1) | (leave1; (try dsimp only)) | fail "no step")))
  have hxe := toL_nil hxn
  subst hxe
  refine wpAny_call ?_
  walk_at "my_enter"
  walk_at "my_steps"
  all_goals (try (rename News _ _ _ _ => N7))
  · exact absurd (by assumption) hit_nil
  · rename (last = true) => el
    subst el
    (refine' ret _ _ _ _ [_, _, _] [_, _] _ _ _ ?r₉ ?q₉ ?c₉ ?l1₉ ?l2₉ ?l3₉ ?f₉ ?n₉; (case n₉ => exact N7); (case r₉ => exact ⟨_, _, rfl, by decide +kernel⟩); (case q₉ => exact All2.cons (by (refine RepT.sub (own := [_]) ?_ (by assumption); walk_at "my_sub")) (All2.cons (by (refine RepT.sub (own := [_]) ?_ (by assumption); walk_at "my_sub")) All2.nil)); (case c₉ => exact rfl); (case l1₉ => walk_at "my_lt"); (case l2₉ => walk_at "my_lt"); (case l3₉ => walk_at "my_lts"); (case f₉ => k_asm))
  · rename (last = false) => el
    subst el
    (refine' ret _ _ _ _ [_, _] [_, _] _ _ _ ?r₉ ?q₉ ?c₉ ?l1₉ ?l2₉ ?l3₉ ?f₉ ?n₉; (case n₉ => exact N7); (case r₉ => exact rfl); (case q₉ => exact All2.cons (by (refine RepT.sub (own := [_]) ?_ (by assumption); walk_at "my_sub")) (All2.cons (by (refine RepT.sub (own := [_]) ?_ (by assumption); walk_at "my_sub")) All2.nil)); (case c₉ => exact rfl); (case l1₉ => walk_at "my_lt"); (case l2₉ => walk_at "my_lt"); (case l3₉ => walk_at "my_lts"); (case f₉ => k_asm))
theorem opened1_t {x : Str} {t : Tok} {last : Bool} {c : Nat} {p0 : List Nat} (hxc : toL x = c :: p0) (hx : x.length ≤ 1000)
    (B : Below A₀ base outer h₀) (F : Fr h₀ L s.heap m) (X : (Mine.hd.heap_1 w.params).In h₀)
    (N : News h₀ L s.heap rest)
    (T : Top p loose mean mg mb h₀) (hk : cs.kind = .function) (hd : dp + 150 < recursionLimit) (hu : un + 1500 < cLine)
    (ret : ∀ Tp D vt vx own ds n h' tk', RestV vx (lawO (c :: p0) last).2.2 → All2 (RepT prog w own) ds (lawO (c :: p0) last).1 → RepC prog w own vt (lawO (c :: p0) last).2.1 →
      (∀ p ∈ rest, p.1 < Tp) → (∀ p ∈ rest, p.1 < D) → (∀ q ∈ own, ∀ p ∈ rest, p.1 < q.1) → Fr h₀ L h' m → News h₀ L h' ((Tp, tup3 (.ref D) vt vx) :: (D, listOf ds.toArray n) :: (own ++ rest)) → Q (.ref Tp) { s with heap := h', toks := tk' }) :
    wpAny (model prog w) (ktrTop dp un gd cn cs L a ccd cl outer) (call (.ref 807) [.str x t, .bool last]) Q E s := by
  k_with_none
  (k_with "my_enter" => k_dflt (refine' code_def ?k1₉ ?k2₉ ?k3₉ ?k4₉ ?k5₉ ?kA₉ ?kF₉ ?kK₉ ?k6₉ ?k7₉ ?k8₉ ?k9₉ ?kB₉ ?_ ?c2₉ ?c3₉ ?c4₉ ?c5₉; (case kA₉ => exact rfl); (case kF₉ => exact rfl); (case kK₉ => first | exact rfl | assumption); (case k1₉ => k_asm); (case k2₉ => k_asm); (case k3₉ => k_asm); (case k4₉ => k_asm); (case k5₉ => k_asm); (case k6₉ => k_is); (case k7₉ => k_is); (case k8₉ => ktr_room); (case k9₉ => first | exact BindsTo.of_eq rfl | exact binds_K (by k_in) rfl (by k_is) rfl rfl rfl); (case c5₉ => decide); (case kB₉ => exact locs rfl); (case c2₉ => exact rfl); (case c3₉ => exact rfl); (case c4₉ => exact rfl); k_whole; intro g'₉ L'₉ h'₉ FG'₉ F'₉ N'₉ B'₉ X'₉ T'₉; (try dsimp only); (try k_fold)))
  (k_with "my_args" => ((case B₉ => k_asm); (case F₉ => k_asm); (case X₉ => k_asm); (case T₉ => k_asm); (case hk₉ => first | exact rfl | assumption); (case hd₉ => ktr_room); (case hu₉ => ktr_units)))
  (k_with "rep_all" => first | exact All2.nil | (refine' All2.cons ⟨rfl, ?_⟩ ?_; (focus walk_at "rep_leaf"); (focus walk_at "rep_all")))
  (k_with "rep_leaf" => first | exact rfl | exact ⟨_, rfl⟩ | exact ⟨_, _, rfl, by k_mem⟩ | exact ⟨_, _, _, rfl, by k_mem, by assumption, by assumption, by walk_at "rep_all"⟩)
  (k_with "rep" => exact ⟨_, _, _, rfl, by k_mem, by assumption, by assumption, by walk_at "rep_all"⟩)
  (k_with "reps" => first | exact All2.nil | (refine' All2.cons ?_ ?_; (focus walk_at "rep"); (focus walk_at "reps")))
  (k_with "repc" => first | exact rfl | walk_at "rep")
  (k_with "callWith" => (k_here; (with_reducible show wpAny _ _ (callWith _ (Value.builtin _) _ (backTo _ (starEach (_ :: _) _)) []) _ _ _); (with_reducible refine' callWith_method1 ?_ ?he₉ ?hp₉); k_dflt ((case he₉ => exact rfl); (case hp₉ => exact rfl))))
  (k_with "eval Dict" => (k_here; k_dflt (refine' kdn_str ?q₉ ?F₉ ?N₉ ?b₉ ?a₉ ?l₉ ?e₉ ?n₉ ?_; (case q₉ => exact rfl); (case F₉ => k_asm); (case N₉ => k_asm); (case b₉ => exact Top.nolimit (by k_asm)); (case a₉ => exact rfl); (case l₉ => exact rfl); (case e₉ => exact List.cons_ne_nil _ _); (case n₉ => exact Nat.le_of_ble_eq_true rfl)); intro d'₉ h'₉ o'₉ F'₉ N'₉ l1₉ lo'₉ hd'₉; (try k_sweep)))
  (k_with "newList" => (k_here; k_dflt (refine' newList_K ?k1₉ ?k2₉ ?_; (case k1₉ => k_asm); (case k2₉ => k_asm); k_whole); intro l'₉ h'₉ F'₉ N'₉ l1₉; (try k_sweep)))
  (k_with "newTuple" => (k_here; k_dflt (refine' kup_newTuple ?F₉ ?N₉ ?_ ?z₉; (case F₉ => k_asm); (case N₉ => k_asm); (case z₉ => exact Nat.le_of_ble_eq_true rfl)); intro D'₉ h'₉ F'₉ N'₉ l1₉; (try k_sweep)))
  (k_with "my_updF" => first | exact UpdF.head (ne_lt (by assumption)) | exact UpdF.tail (gt_head (by assumption)) (UpdF.head (ne_lt (by assumption))))
  (k_with "KdnMade" => (k_here; k_dflt (refine' kdn_made_str ?F₉ ?N₉ ?U₉ ?d₉ ?k₉ ?n₉ ?_; (case F₉ => k_asm); (case N₉ => k_asm); (case U₉ => walk_at "my_updF"); (case d₉ => k_asm); (case k₉ => exact rfl); (case n₉ => exact of_decide_eq_true (by first | rfl | kernel_rfl!)); intro h'₉ o'₉ F'₉ N'₉ hd'₉); (try dsimp only at N'₉); (try dsimp only); (try k_sweep)))
  (k_with "my_mem" => first | assumption | exact List.Mem.head _ | (refine List.Mem.tail _ ?_; walk_at "my_mem"))
  (k_with "my_sub" => first | (refine' List.forall_mem_cons.mpr ⟨?zsa₉, ?zsb₉⟩; (case zsa₉ => walk_at "my_mem"); (case zsb₉ => walk_at "my_sub")) | exact fun _ h => nomatch h | (intro p₉ hp₉; walk_at "my_mem"))
  (k_with "my_lt" => first | assumption | exact lt_tl (by assumption) | exact lt_tl (lt_tl (by assumption)) | exact lt_tl (lt_tl (lt_tl (by assumption))) | exact lt_tl (lt_tl (lt_tl (lt_tl (by assumption)))) | exact lt_tl (lt_tl (lt_tl (lt_tl (lt_tl (by assumption))))))
  (k_with "my_lts" => first | (refine' List.forall_mem_cons.mpr ⟨?zla₉, ?zlb₉⟩; (case zla₉ => walk_at "my_lt"); (case zlb₉ => walk_at "my_lts")) | exact fun _ h => nomatch h)
  (k_with "subscriptTail" => (k_here; ((with_reducible rename Fr _ _ _ _ => F'₉); (with_reducible rename News _ _ _ _ => N'₉); first | ((with_reducible show wpAny _ _ (subscriptTail _ (Expr.Slice none (some _) none _) (Value.str _ _) _) _ _ _); (refine sl_ns (s := ⟨_, _, _, _, _⟩) (by decide) (by omega) F'₉ N'₉ ?_); clear F'₉ N'₉; intro y'₉ h'₉ t'₉ k'₉ e'₉ l'₉ F'₉ N'₉; (try dsimp only)) | ((with_reducible show wpAny _ _ (subscriptTail _ (Expr.Slice (some _) none none _) (Value.str _ _) _) _ _ _); (refine sl_sn (s := ⟨_, _, _, _, _⟩) (by decide) (by omega) F'₉ N'₉ ?_); clear F'₉ N'₉; intro y'₉ h'₉ t'₉ k'₉ e'₉ l'₉ F'₉ N'₉; (try dsimp only)))))
  (k_with "call ref" => (k_here; (with_reducible show wpAny _ _ (call (Value.ref 772) [Value.str _ _]) _ _ _); k_dflt (refine' small_t (by omega) ?B₉ ?F₉ ?X₉ ?N₉ ?T₉ ?hk₉ ?hd₉ ?hu₉ ?_; walk_at "my_args"; (case N₉ => k_asm)); intro y'₉ t'₉ h'₉ tk'₉ e'₉ F'₉ N'₉; (try dsimp only); (try k_sweep)))
  (k_with "call ref" => (k_here; (with_reducible show wpAny _ _ (call (Value.ref 779) [Value.str _ _]) _ _ _); k_dflt (refine' fault_t ?B₉ ?F₉ ?X₉ ?N₉ ?T₉ ?hk₉ ?hd₉ ?hu₉ ?_; walk_at "my_args"; (case N₉ => k_asm)); intro d'₉ o'₉ h'₉ tk'₉ l1₉ rp'₉ F'₉ N'₉; (try dsimp only); (try k_sweep)))
  (k_with "call ref" => (k_here; (with_reducible show wpAny _ _ (call (Value.ref 786) [Value.str _ _, Value.str _ _]) _ _ _); k_dflt (first | (refine' given6_t ?B₉ ?F₉ ?X₉ ?N₉ ?T₉ ?hk₉ ?hd₉ ?hu₉ ?_; walk_at "my_args"; (case N₉ => k_asm)) | (refine' given1_t ?B₉ ?F₉ ?X₉ ?N₉ ?T₉ ?hk₉ ?hd₉ ?hu₉ ?_; walk_at "my_args"; (case N₉ => k_asm))); intro d'₉ o'₉ h'₉ tk'₉ l1₉ rp'₉ F'₉ N'₉; (try dsimp only); (try k_sweep)))
  (k_with "subscriptTail Name Constant str int" => (k_here; (have hpos'₉ := pos_of (by assumption)); (refine it_at (by decide) (by omega) (by omega) ?_); intro c'₉ ec'₉; (have ed'₉ := head_is (by assumption) ec'₉); subst ed'₉; (try dsimp only)))
  (k_with "subscriptTail Name Slice str ref" => (k_here; ((with_reducible rename Fr _ _ _ _ => F'₉); (with_reducible rename News _ _ _ _ => N'₉); (with_reducible show wpAny _ _ (subscriptTail _ (Expr.Slice none (some _) none _) (Value.str _ _) _) _ _ _); (refine sl_ns (s := ⟨_, _, _, _, _⟩) (by decide) (by omega) F'₉ N'₉ ?_); clear F'₉ N'₉; intro y'₉ h'₉ t'₉ k'₉ e'₉ l'₉ F'₉ N'₉; (first | (have ey'₉ := toL_one (e'₉.trans (take1_cons (by assumption)))) | (have ey'₉ := toL_nil (e'₉.trans (take1_nil (by assumption))))); clear e'₉ l'₉; subst ey'₉; (try dsimp only))))
  (k_with "call ref" => (k_here; (with_reducible show wpAny _ _ (call (Value.ref 772) [Value.str _ _]) _ _ _); k_dflt (refine' small_t ?x₉ ?B₉ ?F₉ ?X₉ ?N₉ ?T₉ ?hk₉ ?hd₉ ?hu₉ ?_; (case x₉ => first | omega | exact Nat.le_of_ble_eq_true rfl | (have e0₉ : (Str.ofString "").length = 0 := by decide +kernel; omega)); walk_at "my_args"; (case N₉ => k_asm)); intro y'₉ t'₉ h'₉ tk'₉ e'₉ F'₉ N'₉; k_dflt (first | (have ey'₉ := low_one e'₉) | (have ey'₉ := low_nil (by decide +kernel) e'₉)); clear e'₉; subst ey'₉; (try dsimp only); (try k_sweep)))
  (k_with "compareOp In str ref" => (k_here; (with_reducible show wpAny _ _ (compareOp CmpOp.In _ (Value.ref _)) _ _ _); k_dflt (refine' in_two (a := 33) (b := 47) ?N₉ ?m₉ ?x₉ ?y₉ ?v₉ ?_; (case N₉ => k_asm); (case m₉ => k_mem); (case x₉ => decide +kernel); (case y₉ => decide +kernel); (case v₉ => first | exact .inl rfl | exact .inr ⟨_, _, rfl⟩)); (try dsimp only)))
  (k_with "ite" => (first | (with_reducible refine ite_tt ?_) | (with_reducible refine ite_ff ?_) | ((with_reducible show (if decide _ = true then _ else _)); (with_reducible refine split_dec ?_ ?_ <;> intro _))))
  (k_with "my_steps" => (repeat' (first | (with_reducible refine GoOn.go (by with_reducible assumption) ?_; (try dsimp only)) | (k_unfold; (try dsimp only)) | (k_end; wrow_close) | walk1 | (dsimp only; walk1) | (leave1; (try dsimp only)) | fail "no step")))
  have hxe := ne_of hxc
  refine wpAny_call ?_
  walk_at "my_enter"
  walk_at "my_steps"
  all_goals (try (rename News _ _ _ _ => N7))
  · rw [lawO_two (by assumption)] at ret
    (refine' ret _ _ _ _ [_] [] _ _ _ ?r₉ ?q₉ ?c₉ ?l1₉ ?l2₉ ?l3₉ ?f₉ ?n₉; (case n₉ => exact N7); (case r₉ => exact ⟨_, _, rfl, by rw [sl_from _ 1 (by decide), hxc]; rfl⟩); (case q₉ => exact All2.nil); (case c₉ => exact rfl); (case l1₉ => walk_at "my_lt"); (case l2₉ => walk_at "my_lt"); (case l3₉ => walk_at "my_lts"); (case f₉ => k_asm))
  · rw [lawO_qu (by assumption) (small_lo (by assumption)) (by assumption)] at ret
    (refine' ret _ _ _ _ [_, _] [_] _ _ _ ?r₉ ?q₉ ?c₉ ?l1₉ ?l2₉ ?l3₉ ?f₉ ?n₉; (case n₉ => exact N7); (case r₉ => exact ⟨_, _, rfl, hxc⟩); (case q₉ => exact All2.cons (by (refine RepT.sub (own := [_]) ?_ (by assumption); walk_at "my_sub")) All2.nil); (case c₉ => exact rfl); (case l1₉ => walk_at "my_lt"); (case l2₉ => walk_at "my_lt"); (case l3₉ => walk_at "my_lts"); (case f₉ => k_asm))
  · rw [lawO_no (by assumption) (small_lo (by assumption)) (by assumption)] at ret
    (refine' ret _ _ _ _ [_, _, _] [_, _] _ _ _ ?r₉ ?q₉ ?c₉ ?l1₉ ?l2₉ ?l3₉ ?f₉ ?n₉; (case n₉ => exact N7); (case r₉ => exact ⟨_, _, rfl, hxc⟩); (case q₉ => exact All2.cons (by (refine RepT.sub (own := [_]) ?_ (by assumption); walk_at "my_sub")) (All2.cons (by (refine RepT.sub (own := [_]) ?_ (by assumption); walk_at "my_sub")) All2.nil)); (case c₉ => exact rfl); (case l1₉ => walk_at "my_lt"); (case l2₉ => walk_at "my_lt"); (case l3₉ => walk_at "my_lts"); (case f₉ => k_asm))
  · rw [lawO_qu (by assumption) (small_hi (by assumption)) (by assumption)] at ret
    (refine' ret _ _ _ _ [_, _] [_] _ _ _ ?r₉ ?q₉ ?c₉ ?l1₉ ?l2₉ ?l3₉ ?f₉ ?n₉; (case n₉ => exact N7); (case r₉ => exact ⟨_, _, rfl, hxc⟩); (case q₉ => exact All2.cons (by (refine RepT.sub (own := [_]) ?_ (by assumption); walk_at "my_sub")) All2.nil); (case c₉ => exact rfl); (case l1₉ => walk_at "my_lt"); (case l2₉ => walk_at "my_lt"); (case l3₉ => walk_at "my_lts"); (case f₉ => k_asm))
  · rw [lawO_no (by assumption) (small_hi (by assumption)) (by assumption)] at ret
    (refine' ret _ _ _ _ [_, _, _] [_, _] _ _ _ ?r₉ ?q₉ ?c₉ ?l1₉ ?l2₉ ?l3₉ ?f₉ ?n₉; (case n₉ => exact N7); (case r₉ => exact ⟨_, _, rfl, hxc⟩); (case q₉ => exact All2.cons (by (refine RepT.sub (own := [_]) ?_ (by assumption); walk_at "my_sub")) (All2.cons (by (refine RepT.sub (own := [_]) ?_ (by assumption); walk_at "my_sub")) All2.nil)); (case c₉ => exact rfl); (case l1₉ => walk_at "my_lt"); (case l2₉ => walk_at "my_lt"); (case l3₉ => walk_at "my_lts"); (case f₉ => k_asm))
  · rw [lawO_let (by assumption) (small_let (by assumption) (by assumption))] at ret
    (refine' ret _ _ _ _ [(_, _), (_, _), (_, _)] [] _ _ _ ?r₉ ?q₉ ?c₉ ?l1₉ ?l2₉ ?l3₉ ?f₉ ?n₉; (case n₉ => (have N8 := news_4 N7); exact N8); (case r₉ => exact ⟨_, _, rfl, by rw [sl_from _ 1 (by decide), hxc]; rfl⟩); (case q₉ => exact All2.nil); (case c₉ => walk_at "rep"); (case l1₉ => walk_at "my_lt"); (case l2₉ => walk_at "my_lt"); (case l3₉ => walk_at "my_lts"); (case f₉ => k_asm))
end

end
section -- PL
open PySem.Spec PySem.Calls
/-- the parts, one behind the other -/
def joinGt : List (List Nat) → List Nat
  | [] => []
  | [p] => p
  | p :: q :: r => p ++ 62 :: joinGt (q :: r)
def Free (p : List Nat) : Prop := ∀ c ∈ p, c ≠ 62
theorem joinGt_drop {ps : List (List Nat)} {i : Nat} (h : i < ps.length) : joinGt (ps.drop i) = ps[i] ++ (if i + 1 = ps.length then [] else 62 :: joinGt (ps.drop (i + 1))) := by
  rw [List.drop_eq_getElem_cons h]
  by_cases e : i + 1 = ps.length
  · rw [if_pos e, List.drop_of_length_le (by omega)]
    simp [joinGt]
  · rw [if_neg e]
    have h2 : i + 1 < ps.length := by omega
    rw [List.drop_eq_getElem_cons h2]
    rfl
/-- what lies behind a part -/
def Tail (tl nx : List Nat) : Prop := (tl = [] ∧ nx = []) ∨ tl = 62 :: nx
theorem take_free {p tl nx : List Nat} (ht : Tail tl nx) (k : Nat) {x : List Nat} (hx : Free x) (hl : x.length = k) : (p ++ tl).take k = x ↔ p.take k = x := by
  by_cases h : k ≤ p.length
  · rw [List.take_append_of_le_length h]
  · have h1 : p.take k = p := List.take_of_length_le (by omega)
    rw [h1]
    constructor
    · intro e
      rcases ht with ⟨rfl, _⟩ | rfl
      · rw [List.append_nil, h1] at e; exact e
      · exfalso
        have : ((p ++ 62 :: nx).take k)[p.length]? = some 62 := by
          rw [List.getElem?_take_of_lt (by omega), List.getElem?_append_right (by omega)]; simp
        rw [e] at this
        exact hx 62 (List.mem_of_getElem? this) rfl
    · intro e
      rw [e] at h; omega
theorem take_low {p tl nx : List Nat} (ht : Tail tl nx) (k : Nat) {x : List Nat} (hx : Free x) (hl : x.length = k) : ((p ++ tl).take k).map low = x ↔ (p.take k).map low = x := by
  by_cases h : k ≤ p.length
  · rw [List.take_append_of_le_length h]
  · have h1 : p.take k = p := List.take_of_length_le (by omega)
    rw [h1]
    constructor
    · intro e
      rcases ht with ⟨rfl, _⟩ | rfl
      · rw [List.append_nil, h1] at e; exact e
      · exfalso
        have : (((p ++ 62 :: nx).take k).map low)[p.length]? = some 62 := by
          rw [List.getElem?_map, List.getElem?_take_of_lt (by omega), List.getElem?_append_right (by omega)]; simp [low]
        rw [e] at this
        exact hx 62 (List.mem_of_getElem? this) rfl
    · intro e
      have := congrArg List.length e
      rw [List.length_map] at this; omega
/-- the way in agrees with what the law asks -/
def Agree (o : Out) (l : LOut) (tl nx : List Nat) : Prop := o.1 = l.1 ∧ o.2.1 = l.2.1 ∧ match l.2.2 with
  | none => o.2.2 = nx
  | some rest => o.2.2 = rest ++ tl ∧ Free rest
theorem free_drop {p : List Nat} (h : Free p) (k : Nat) : Free (p.drop k) := fun c hc => h c (List.mem_of_mem_drop hc)
theorem mark_agree {p tl nx : List Nat} (hp : Free p) (ht : Tail tl nx) : Agree (markF (p ++ tl)) ((markF p).1, (markF p).2.1, some (markF p).2.2) tl nx := by
  have e1 := take_free (p := p) ht 2 (x := [45, 45]) (by intro c hc; simp at hc; omega) rfl
  have e2 := take_low (p := p) ht 7 (x := doctypeL) (by intro c hc; simp [doctypeL] at hc; omega) rfl
  by_cases h1 : p.take 2 = [45, 45]
  · rw [mk_cmt h1, mk_cmt (e1.mpr h1)]
    refine ⟨rfl, rfl, ?_, free_drop hp 2⟩
    have : 2 ≤ p.length := by have := congrArg List.length h1; rw [List.length_take] at this; simp at this; omega
    exact List.drop_append_of_le_length this
  · have h1' := mt e1.mp h1
    by_cases h2 : (p.take 7).map low = doctypeL
    · rw [mk_doc h1 h2, mk_doc h1' (e2.mpr h2)]
      refine ⟨rfl, rfl, ?_, free_drop hp 7⟩
      have : 7 ≤ p.length := by have := congrArg List.length h2; rw [List.length_map, List.length_take] at this; simp [doctypeL] at this; omega
      exact List.drop_append_of_le_length this
    · rw [mk_no h1 h2, mk_no h1' (mt e2.mp h2)]
      exact ⟨rfl, rfl, rfl, hp⟩
theorem let62 : isLet 62 = false := by decide
theorem close_agree {p tl nx : List Nat} {last : Bool} (hp : Free p) (ht : Tail tl nx) (hl : last = true ↔ tl = []) : Agree (closeF (p ++ tl)) (lawC p last) tl nx := by
  cases p with
  | nil =>
    rcases ht with ⟨rfl, rfl⟩ | rfl
    · rw [hl.mpr rfl]
      exact ⟨rfl, rfl, rfl, fun _ h => nomatch h⟩
    · have : last = false := by cases last with
        | false => rfl
        | true => exact nomatch hl.mp rfl
      rw [this]
      refine ⟨rfl, rfl, rfl⟩
  | cons c p =>
    have hc : c ≠ 62 := hp c (.head _)
    have hp' : Free p := fun d hd => hp d (.tail _ hd)
    by_cases h : isLet c = true
    · rw [List.cons_append, close_let h, lawC_let h]
      exact ⟨rfl, rfl, rfl, hp'⟩
    · have h : isLet c = false := by simpa using h
      rw [lawC_no h]
      have : closeF (c :: p ++ tl) = ([fcD c], none, c :: p ++ tl) := by
        simp [closeF, h, hc]
      rw [this]
      exact ⟨rfl, rfl, rfl, hp⟩
theorem open_agree {p tl nx : List Nat} {last : Bool} (hp : Free p) (ht : Tail tl nx) (hl : last = true ↔ tl = []) : Agree (openF (p ++ tl)) (lawO p last) tl nx := by
  cases p with
  | nil =>
    rcases ht with ⟨rfl, rfl⟩ | rfl
    · rw [hl.mpr rfl]
      exact ⟨rfl, rfl, rfl, fun _ h => nomatch h⟩
    · have : last = false := by cases last with
        | false => rfl
        | true => exact nomatch hl.mp rfl
      rw [this]
      refine ⟨rfl, rfl, rfl⟩
  | cons c p =>
    have hc : c ≠ 62 := hp c (.head _)
    have hp' : Free p := fun d hd => hp d (.tail _ hd)
    rw [List.cons_append]
    by_cases h0 : c = 33 ∨ c = 47
    · simp only [openF, lawO, if_pos h0]
      exact ⟨rfl, rfl, rfl, hp'⟩
    · by_cases h : isLet c = true
      · simp only [openF, lawO, if_neg h0, if_pos h]
        exact ⟨rfl, rfl, rfl, hp'⟩
      · by_cases h3 : c = 63
        · simp only [openF, lawO, if_neg h0, if_neg h, if_neg hc, if_pos h3]
          exact ⟨rfl, rfl, rfl, hp⟩
        · simp only [openF, lawO, if_neg h0, if_neg h, if_neg hc, if_neg h3]
          exact ⟨rfl, rfl, rfl, hp⟩
/-- the bogus comment takes the rest of the part and its «>» -/
theorem until_rest {rest tl nx : List Nat} (hr : Free rest) (ht : Tail tl nx) : (rest ++ tl).takeWhile (· != 62) = rest ∧ ((rest ++ tl).dropWhile (· != 62)).tail = nx := by
  have t := tw_app (b := tl) hr
  rw [t.1, t.2]
  rcases ht with ⟨rfl, rfl⟩ | rfl
  · simp
  · simp
theorem join_toL : ∀ ps : List Str, toL (Str.join ⟨#[62]⟩ ps) = joinGt (ps.map toL)
  | [] => rfl
  | [p] => by simp [Str.join, joinGt]
  | p :: q :: r => by
    have ih := join_toL (q :: r)
    show toL (p ++ ⟨#[62]⟩ ++ Str.join ⟨#[62]⟩ (q :: r)) = _
    rw [toL_append, toL_append, ih]
    have : toL ⟨#[62]⟩ = [62] := rfl
    rw [this]
    simp [joinGt]
theorem split_facts (x : Str) : joinGt ((Txt.split x ⟨#[62]⟩).map toL) = toL x ∧ ∀ p ∈ (Txt.split x ⟨#[62]⟩).map toL, Free p := by
  constructor
  · rw [← join_toL, StrLaws.join_split]
  · intro p hp c hc e
    obtain ⟨q, hq, rfl⟩ := List.mem_map.mp hp
    subst e
    exact StrLaws.split_free x 62 q hq hc
theorem count_free {p : List Nat} (h : Free p) : p.count 62 = 0 := by
  rw [List.count_eq_zero]
  exact fun hc => h 62 hc rfl
theorem join_count : ∀ ps : List (List Nat), (∀ p ∈ ps, Free p) → ps.length ≤ (joinGt ps).count 62 + 1
  | [], _ => Nat.zero_le _
  | [p], _ => by simp
  | p :: q :: r, h => by
    have ih := join_count (q :: r) fun p hp => h p (.tail _ hp)
    show _ ≤ (p ++ 62 :: joinGt (q :: r)).count 62 + 1
    rw [List.count_append, List.count_cons, count_free (h p (.head _))]
    simp at ih ⊢
    omega

end
section -- V0
open PySem.Spec PySem.Calls
def signs : List Str := [Str.ofString ">", Str.ofString "-", Str.ofString "d", Str.ofString "octype", Str.ofString "--",
          Str.ofString "\x00", Str.ofString "D", Str.ofString "?", Str.ofString "oC", Str.ofString "a",
          Str.ofString ">", Str.ofString "!", Str.ofString "tyPE", Str.ofString "/", Str.ofString "\x0d",
          Str.ofString "e", Str.ofString "DOCTYPE", Str.ofString " ", Str.ofString "é", Str.ofString ">",
          Str.ofString "\n", Str.ofString "<", Str.ofString "docTyp"]
theorem signs_all : ∀ x ∈ signs, (toL x).length ≤ 7 ∧ (toL x).count 62 ≤ 1 ∧ ∀ c ∈ toL x, (c < 1 ∨ c = 10 ∨ c = 13 ∨ (32 ≤ c ∧ c < 127) ∨ (160 ≤ c ∧ c < 256)) := by decide +kernel
theorem sign_all (k : Nat) : (toL (signs.getD k Str.empty)).length ≤ 7 ∧ (toL (signs.getD k Str.empty)).count 62 ≤ 1 ∧ ∀ c ∈ toL (signs.getD k Str.empty), okc c := by
  by_cases h : k < signs.length
  · have e : signs.getD k Str.empty = signs[k] := by simp [List.getD, h]
    rw [e]
    exact signs_all _ (List.getElem_mem h)
  · have e : signs.getD k Str.empty = Str.empty := by simp [List.getD, Nat.le_of_not_lt h]
    rw [e]
    exact ⟨Nat.zero_le _, Nat.zero_le _, fun _ h => nomatch h⟩
theorem signs_sum {f : Int → Nat} : ∀ ns : List Int, ((ns.map fun k => toL (signs.getD (f k) Str.empty)).flatten).length ≤ 7 * ns.length ∧ ((ns.map fun k => toL (signs.getD (f k) Str.empty)).flatten).count 62 ≤ ns.length ∧ ∀ c ∈ (ns.map fun k => toL (signs.getD (f k) Str.empty)).flatten, okc c
  | [] => ⟨Nat.zero_le _, Nat.zero_le _, fun _ h => nomatch h⟩
  | k :: ns => by
    obtain ⟨a, b, c⟩ := signs_sum (f := f) ns
    obtain ⟨a', b', c'⟩ := sign_all (f k)
    rw [List.map_cons, List.flatten_cons, List.length_append, List.count_append, List.length_cons]
    refine ⟨by omega, by omega, fun d hd => ?_⟩
    exact (List.mem_append.mp hd).elim (c' d) (c d)
theorem txt_small {f : Int → Nat} {ns : List Int} (h : ns.length ≤ 39) : ((ns.map fun k => toL (signs.getD (f k) Str.empty)).flatten).length ≤ 1000000 := by
  have := (signs_sum (f := f) ns).1
  omega
/-- what the law knows of its text -/
structure TextOk (y : Str) (n : Nat) : Prop where
  len : y.length ≤ 273
  ok : OkS y
  gts : (toL y).count 62 ≤ n
theorem text_ok {f : Int → Nat} {ns : List Int} {y : Str} (h : ns.length ≤ 39) (e : toL y = (ns.map fun k => toL (signs.getD (f k) Str.empty)).flatten) : TextOk y ns.length := by
  obtain ⟨a, b, c⟩ := signs_sum (f := f) ns
  rw [← e] at a b c
  rw [toL_length] at a
  exact ⟨by omega, c, b⟩
theorem rn_count : ∀ x : List Nat, (rn x).count 62 = x.count 62 := by
  intro x
  fun_induction rn x <;> simp_all [List.count_cons]
theorem cr_count : ∀ x : List Nat, (cr x).count 62 = x.count 62
  | [] => rfl
  | c :: x => by
    have ih := cr_count x
    unfold cr at ih ⊢
    rw [List.map_cons, List.count_cons, List.count_cons, ih]
    by_cases h : c = 13
    · subst h; simp
    · simp [h]
theorem norm_count (x : List Nat) : (norm x).count 62 = x.count 62 := by
  unfold norm
  rw [cr_count, rn_count]
theorem parts_count {y z : Str} {n : Nat} (h : TextOk y n) (e : toL z = norm (toL y)) : (Txt.split z ⟨#[62]⟩).length ≤ n + 1 := by
  have a := split_facts z
  have b := join_count _ a.2
  rw [a.1, e, norm_count, List.length_map] at b
  have := h.gts
  omega

end
section -- AL
open PySem.Spec PySem.Calls
section
variable {h₀ h : Heap} {L : Addr}
theorem own_nil {bs : List Addr} : OwnOff [] bs := fun _ h => nomatch h
theorem own_two {p : Addr × Obj} {l : List (Addr × Obj)} {a b : Addr} (h1 : p.1 ≠ a) (h2 : p.1 ≠ b) (r : OwnOff l [a, b]) : OwnOff (p :: l) [a, b] := by
  intro q hq c hc
  rcases List.mem_cons.mp hq with rfl | hq
  · simp only [List.mem_cons, List.not_mem_nil, or_false] at hc
    rcases hc with rfl | rfl
    · exact h1
    · exact h2
  · exact r q hq c hc
/-- the stream as it is made -/
theorem inv_new {A : SA} {pl pc t0 t1 t2 t3 t4 t5} : Inv A ⟨Str.ofString "", 0, 0, pl, pc, .none, 0, t0, t1, t2, t3, t4, t5⟩ (norm (toL A.txt)) := by
  refine ⟨rfl, Int.le_refl 0, Int.le_refl 0, Nat.zero_le _, Int.le_refl 0, Int.natCast_nonneg _, .inl rfl, ?_⟩
  show _ = (toL (Str.ofString "")).drop _ ++ norm ([] ++ (toL A.txt).drop (0 : Int).toNat)
  rfl
end
theorem two_fmod (h : Int) : 2 ≤ 2 + h.fmod 17 ∧ 2 + h.fmod 17 ≤ 100 := by
  have a := Int.fmod_nonneg_of_pos h (b := 17) (by decide)
  have b := Int.fmod_lt_of_pos h (b := 17) (by decide)
  omega
theorem sep_new {A : SA} (a : A.dx < A.x) (b : A.x < A.dtx) (c : A.dx < A.dtx) (d : A.dtx < A.tx) (e : A.dx < A.rm) (f : A.rm < A.dtx) (g : A.dx < A.er) (h : A.dtx < A.er) : Sep A := by
  constructor <;> omega

end
section -- X1
open PySem.Spec PySem.Calls PyProof.V
/-- the tokenizer's dict as it is made: no queue yet -/
abbrev d7 (w : World) (G : TA) (st cur : Value) : Obj :=
  dictOf [⟨PyData.keyHash w.params (Str.ofString "stream"), .str (Str.ofString "stream") G.u0, .ref G.A.x⟩,
    ⟨PyData.keyHash w.params (Str.ofString "parser"), .str (Str.ofString "parser") G.u1, .none⟩,
    ⟨PyData.keyHash w.params (Str.ofString "escapeFlag"), .str (Str.ofString "escapeFlag") G.u2, .bool false⟩,
    ⟨PyData.keyHash w.params (Str.ofString "lastFourChars"), .str (Str.ofString "lastFourChars") G.u3, .ref G.lf⟩,
    ⟨PyData.keyHash w.params (Str.ofString "state"), .str (Str.ofString "state") G.u4, st⟩,
    ⟨PyData.keyHash w.params (Str.ofString "escape"), .str (Str.ofString "escape") G.u5, .bool false⟩,
    ⟨PyData.keyHash w.params (Str.ofString "currentToken"), .str (Str.ofString "currentToken") G.u6, cur⟩] 7
abbrev TA.to (G : TA) (q : Nat) (u7 : Tok) : TA := ⟨G.A, G.t, G.dt, q, G.lf, G.u0, G.u1, G.u2, G.u3, G.u4, G.u5, G.u6, u7⟩
/-- the tokenizer's dict between two turns -/
def TokD (w : World) (G : TA) (D : Obj) : Prop := (∃ st cur, D = d7 w G st cur) ∨ ∃ q u7 g, D = dK w (G.to q u7) g
structure SepB (G : TA) : Prop where
  s : Sep G.A
  a0 : @Ne Nat G.t G.dt
  a2 : @Ne Nat G.A.x G.dt
  a3 : @Ne Nat G.A.dx G.dt
  a4 : @Ne Nat G.A.tx G.dt
  a5 : @Ne Nat G.A.dtx G.dt
  a6 : @Ne Nat G.A.rm G.dt
  a7 : @Ne Nat G.A.er G.dt
  c0 : @Ne Nat G.t G.A.dx
  c1 : @Ne Nat G.t G.A.dtx
theorem SepG.base {G : TA} {q : Nat} {u7 : Tok} (h : SepG (G.to q u7)) : SepB G := by
  obtain ⟨s0, a0, a1, a2, a3, a4, a5, a6, a7, b0, b2, b3, b4, b5, b6, b7, c0, c1⟩ := h
  exact ⟨s0, a0, a2, a3, a4, a5, a6, a7, c0, c1⟩
/-- the tokenizer's part of the ledger between two turns -/
def prL (w : World) (G : TA) (σ : SS) (D : Obj) (rest : List (Addr × Obj)) : List (Addr × Obj) := (G.t, instObj 762 G.dt) :: (G.dt, D) :: stL w G.A σ rest
theorem SepB.to {w : World} {G : TA} {σ : SS} {D : Obj} {rest : List (Addr × Obj)} (B : SepB G) {q : Nat} (u7 : Tok) (h : ∀ p ∈ prL w G σ D rest, p.1 < q) : SepG (G.to q u7) := by
  unfold prL stL at h
  simp only [List.mem_cons, forall_eq_or_imp] at h
  obtain ⟨h1, h2, h3, h4, h5, h6, h7, h8, _⟩ := h
  obtain ⟨s0, a0, a2, a3, a4, a5, a6, a7, c0, c1⟩ := B
  refine ⟨s0, a0, Nat.ne_of_gt h2, a2, a3, a4, a5, a6, a7, Nat.ne_of_lt h1, Nat.ne_of_lt h3, Nat.ne_of_lt h4, Nat.ne_of_lt h5, Nat.ne_of_lt h6, Nat.ne_of_lt h7, Nat.ne_of_lt h8, c0, c1⟩
/-- off the tokenizer's stored objects, its queue aside -/
structure OffB (G : TA) (d : Nat) : Prop where
  dt : @Ne Nat d G.dt
  dx : @Ne Nat d G.A.dx
  dtx : @Ne Nat d G.A.dtx
theorem OffB.to {G : TA} {d q : Nat} (h : OffB G d) (u7 : Tok) (hq : d < q) : Off (G.to q u7) d := ⟨h.dt, Nat.ne_of_lt hq, h.dx, h.dtx⟩
theorem Off.base {G : TA} {d q : Nat} {u7 : Tok} (h : Off (G.to q u7) d) : OffB G d := ⟨h.dt, h.dx, h.dtx⟩
def OffBs (G : TA) (l : List (Addr × Obj)) : Prop := ∀ p ∈ l, OffB G p.1
theorem OffBs.to {G : TA} {l : List (Addr × Obj)} {q : Nat} (h : OffBs G l) (u7 : Tok) (hq : ∀ p ∈ l, p.1 < q) : OffR (G.to q u7) l := fun p hp => (h p hp).to u7 (hq p hp)
theorem OffR.base {G : TA} {l : List (Addr × Obj)} {q : Nat} {u7 : Tok} (h : OffR (G.to q u7) l) : OffBs G l := fun p hp => (h p hp).base
theorem news_rot {h₀ h : Heap} {L : Addr} {a b c : Addr × Obj} {r : List (Addr × Obj)} (N : News h₀ L h (a :: b :: c :: r)) : News h₀ L h (b :: c :: a :: r) := fun p hp => N p (by
  simp only [List.mem_cons] at hp ⊢
  rcases hp with h | h | h | h <;> simp [h])
section
variable {prog : Program} {w : World} {A' : Around} {h₀ : Heap} {L : Addr} {m : Str → Option Value} {rest : List (Addr × Obj)} {s : Shared} {G : TA} {σ : SS} {D : Obj} {E : Value → Shared → Prop} {Q : Unit → Shared → Prop}
theorem set_queue7 {q n : Nat} {st cur : Value} (F : Fr h₀ L s.heap m) (X : (Mine.hd.heap_1 w.params).In h₀) (N : News h₀ L s.heap ((q, listOf (#[] : Array Value) n) :: prL w G σ (d7 w G st cur) rest)) (hG : ∀ u7, SepG (G.to q u7)) (offR : ∀ u7, OffR (G.to q u7) rest)
    (h : ∀ h' u7, Fr h₀ L h' m → News h₀ L h' (tkL w (G.to q u7) ⟨σ, st, cur, [], n⟩ rest) → Q () { s with heap := h', toks := s.toks + 2 }) :
    wpAny (model prog w) A' (setAttr (.ref G.t) (Str.ofString "tokenQueue") (.ref q)) Q E s := by
  unfold prL stL at N
  have off := (offR 0).own
  obtain ⟨s0, a0, a1, a2, a3, a4, a5, a6, a7, b0, b2, b3, b4, b5, b6, b7, c0, c1⟩ := hG 0
  k_dflt (refine' set_dict ?k1 ?k2 ?k3 ?k4 ?k5 ?k6 ?k7 ?k8 ?k9 ?k10 ?k11 ?k12 ?k13 ?_; (case k1 => k_asm); (case k2 => k_asm); (case k3 => k_asm); (case k4 => k_inst); (case k5 => exact rfl); (case k6 => k_is); (case k7 => k_is); (case k8 => k_is); (case k9 => k_is); (case k10 => k_get); (case k11 => k_put); (case k12 => k_upd); (case k13 => exact Nat.le_of_ble_eq_true rfl); k_whole)
  intro h' F' N'
  exact h h' (s.toks + 1) F' (news_rot N')
theorem set_queue8 {q q0 n : Nat} {g : TS} {u7 : Tok} (F : Fr h₀ L s.heap m) (X : (Mine.hd.heap_1 w.params).In h₀) (N : News h₀ L s.heap ((q, listOf (#[] : Array Value) n) :: prL w G σ (dK w (G.to q0 u7) g) rest)) (hG : ∀ u7, SepG (G.to q u7)) (offR : ∀ u7, OffR (G.to q u7) rest)
    (h : ∀ h' u7, Fr h₀ L h' m → News h₀ L h' (tkL w (G.to q u7) ⟨σ, g.st, g.cur, [], n⟩ rest) → Q () { s with heap := h', toks := s.toks + 2 }) :
    wpAny (model prog w) A' (setAttr (.ref G.t) (Str.ofString "tokenQueue") (.ref q)) Q E s := by
  unfold prL stL at N
  have off := (offR 0).own
  obtain ⟨s0, a0, a1, a2, a3, a4, a5, a6, a7, b0, b2, b3, b4, b5, b6, b7, c0, c1⟩ := hG 0
  k_dflt (refine' set_dict ?k1 ?k2 ?k3 ?k4 ?k5 ?k6 ?k7 ?k8 ?k9 ?k10 ?k11 ?k12 ?k13 ?_; (case k1 => k_asm); (case k2 => k_asm); (case k3 => k_asm); (case k4 => k_inst); (case k5 => exact rfl); (case k6 => k_is); (case k7 => k_is); (case k8 => k_is); (case k9 => k_is); (case k10 => k_get); (case k11 => k_put); (case k12 => k_upd); (case k13 => exact Nat.le_of_ble_eq_true rfl); k_whole)
  intro h' F' N'
  exact h h' u7 F' (news_rot N')
end
section
variable {prog : Program} {w : World} {A : Around} {E : Value → Shared → Prop} {s : Shared} {env : Env} {h₀ : Heap} {L : Addr} {body : List Stmt} {Q : Flow → Shared → Prop} {m₀ : Str → Option Value}
def LPost (w : World) (h₀ : Heap) (L : Addr) (stored : List Str) (m₀ : Str → Option Value) (G : TA) (fr : List (Addr × Obj)) (r : List Nat) (s : Shared) (f : Flow) (s' : Shared) : Prop := match f with
  | .next => ∃ σ' D' h' tk' m', s' = { s with heap := h', toks := tk' } ∧ Fr h₀ L h' m' ∧ (∀ z, stored.contains z = false → m' z = m₀ z) ∧ News h₀ L h' (fr ++ prL w G σ' D' []) ∧ TokD w G D' ∧ Inv G.A σ' r
  | _ => False
theorem prL_lt {w : World} {G : TA} {σ : SS} {D : Obj} {d : Addr} (h : ∀ p ∈ prL w G σ D [], p.1 < d) (σ' : SS) (D' : Obj) : ∀ p ∈ prL w G σ' D' [], p.1 < d := by
  intro p hp
  unfold prL stL at hp h
  simp only [List.mem_cons, forall_eq_or_imp, List.not_mem_nil, or_false] at hp h
  obtain ⟨h1, h2, h3, h4, h5, h6, h7, h8⟩ := h
  rcases hp with rfl | rfl | rfl | rfl | rfl | rfl | rfl | rfl
  · exact h1
  · exact h2
  · exact h3
  · exact h4
  · exact h5
  · exact h6
  · exact h7
  · exact h8 _ rfl
/-- what the parts from the i-th on leave to read -/
def restOf (l : List (Str × Tok)) (i : Nat) : List Nat := joinGt ((l.map fun p => toL p.1).drop i)
abbrev lstS (l : List (Str × Tok)) (n : Nat) : Obj := { cls := .type "list", data := .seq (strValues l).toArray n }
theorem for_law {elts : List PySem.Expr} {k : Nat} {pos : Pos} {l : List (Str × Tok)} {ps ws : Addr} {W : Obj} {nP : Nat} {G : TA} {σ : SS} {D : Obj} {stored : List Str}
    (hh : A.handled = none) (F : Fr h₀ env.locals s.heap m₀) (N : News h₀ env.locals s.heap ((ps, lstS l nP) :: (ws, W) :: prL w G σ D [])) (hD : TokD w G D) (I : Inv G.A σ (restOf l 0))
    (turn : ∀ (i : Nat) (x : Str) (tx ti : Tok) (T It : Addr) (oe oi : Obj) (σ' : SS) (D' : Obj) (u : Str → Option Value) h tk, l[i]? = some (x, tx) → TokD w G D' → Inv G.A σ' (restOf l i) → IsTup h T #[.int (i : Int) ti, .str x tx] → (∀ p ∈ (ps, lstS l nP) :: (ws, W) :: prL w G σ' D' [], p.1 < It) →
      Fr h₀ env.locals h (fun z => if stored.contains z then u z else m₀ z) → News h₀ env.locals h ((ps, lstS l nP) :: (ws, W) :: (It + 1, oe) :: (It, oi) :: prL w G σ' D' []) →
      wpAny (model prog w) A (assign (.Tuple elts k pos) env (.ref T)) (fun _ s₂ => wpAny (model prog w) A (execs body env) (LPost w h₀ env.locals stored m₀ G [(ps, lstS l nP), (ws, W), (It + 1, oe), (It, oi)] (restOf l (i + 1)) { s with heap := h, toks := tk }) E s₂) E { s with heap := h, toks := tk })
    (done : ∀ s', LPost w h₀ env.locals stored m₀ G [(ps, lstS l nP), (ws, W)] (restOf l l.length) s .next s' → Q .next s') :
    wpAny (model prog w) A (call (.type "enumerate") [.ref ps]) (fun xv s₁ => wpAny (model prog w) A (pyIter xv) (fun it s₂ => TurnsAt prog w A h₀ env (.Tuple elts k pos) body Q E it s₂) E s₁) E s := by
  refine ktu_enum (lo := lstS l nP) (vs := strValues l) (n := nP) hh F N (.head _) rfl rfl rfl fun It lI => ?_
  have e0 : enumItems 0 (strValues l) = (enumItems 0 (strValues l)).drop 0 := rfl
  rw [e0]
  have hlen : (enumItems 0 (strValues l)).length = l.length := by rw [enumItems_length]; simp [strValues]
  refine rest_inv (fun i m news => (∀ z, stored.contains z = false → m z = m₀ z) ∧ ∃ σ' D', news = (ps, lstS l nP) :: (ws, W) :: prL w G σ' D' [] ∧ TokD w G D' ∧ Inv G.A σ' (restOf l i)) ?_ ?_ _ 0 _ _ rfl (Nat.zero_le _) ⟨fun _ _ => rfl, σ, D, rfl, hD, I⟩
  · rintro i a m news ha ⟨hmz, σ', D', rfl, hD', I'⟩ v h tk hv F1 oe he oi hi N1
    have hil : i < l.length := by rw [← hlen]; exact (List.getElem?_eq_some_iff.mp ha).1
    have hx : (strValues l)[i]? = some (.str l[i].1 l[i].2) := by simp [strValues, hil]
    have q := enumItems_get (strValues l) 0 i hx
    rw [ha] at q
    injection q with q
    subst q
    obtain ⟨T, ti, rfl, hT⟩ := hv
    rw [Nat.zero_add] at hT
    have lt' : ∀ p ∈ (ps, lstS l nP) :: (ws, W) :: prL w G σ' D' [], p.1 < It := by
      intro p hp
      rcases List.mem_cons.mp hp with rfl | hp
      · exact lI (ps, lstS l nP) (.head _)
      rcases List.mem_cons.mp hp with rfl | hp
      · exact lI (ws, W) (.tail _ (.head _))
      exact prL_lt (fun q hq => lI q (.tail _ (.tail _ hq))) _ _ p hp
    have N2 : News h₀ env.locals h ((ps, lstS l nP) :: (ws, W) :: (It + 1, oe) :: (It, oi) :: prL w G σ' D' []) := by
      intro p hp
      refine N1 p ?_
      simp only [List.mem_cons, List.cons_append, List.nil_append] at hp ⊢
      rcases hp with h' | h' | h' | h' | h' <;> simp [h']
    refine wpAny_mono (turn i _ _ ti T It oe oi σ' D' m h tk (by rw [List.getElem?_eq_getElem hil]) hD' I' hT lt' (fr_stored stored F1 hmz) N2) (fun _ s₂ z => wpAny_mono z (fun f s₃ p => ?_) fun _ _ e => e) fun _ _ e => e
    cases f with
    | ret v => exact p.elim
    | cont => exact p.elim
    | brk => exact p.elim
    | next =>
      obtain ⟨σ2, D2, h', tk', m', rfl, F', hz', N', hD2, I2⟩ := p
      refine ⟨h', tk', m', (ps, lstS l nP) :: (ws, W) :: prL w G σ2 D2 [], rfl, F', ?_, ?_, ?_, hz', σ2, D2, rfl, hD2, I2⟩
      · intro p hp
        refine N' p ?_
        simp only [List.mem_cons, List.cons_append, List.nil_append] at hp ⊢
        rcases hp with h' | h' | h' | h' | h' <;> simp [h']
      · intro p hp q hq
        have hlt : p.1 < It := by
          rcases List.mem_cons.mp hp with rfl | hp
          · exact lI (ps, lstS l nP) (.head _)
          rcases List.mem_cons.mp hp with rfl | hp
          · exact lI (ws, W) (.tail _ (.head _))
          exact prL_lt (fun q hq => lI q (.tail _ (.tail _ hq))) _ _ p hp
        rcases List.mem_cons.mp hq with rfl | hq
        · exact Nat.ne_of_lt (Nat.lt_of_lt_of_le hlt (Nat.le_add_right _ 1))
        · rw [List.mem_singleton.mp hq]; exact Nat.ne_of_lt hlt
      · exact And.intro (.head _) trivial
  · rintro m news h tk ⟨hmz, σ', D', rfl, hD', I'⟩ F1 N1
    rw [hlen] at I'
    exact done _ ⟨σ', D', h, tk, m, rfl, F1, hmz, N1, hD', I'⟩
end

end
section -- X2
open PySem.Spec PySem.Calls PyProof.V
theorem IntsAre.at {vs : List Value} {ns : List Int} (h : IntsAre vs ns) {i : Nat} (hi : i < vs.length) : ∃ k t, vs[i]? = some (.int k t) := by
  have hn : i < ns.length := by rw [← IntsAre.length h]; exact hi
  obtain ⟨t, e⟩ := PyProof.Rows.IntsAre.get h i ns[i] (List.getElem?_eq_getElem hn)
  exact ⟨_, t, e⟩
section
variable {prog : Program} {w : World} {A : Around} {E : Value → Shared → Prop} {s : Shared} {h₀ : Heap} {L : Addr} {news : List (Addr × Obj)} {Q : Value → Shared → Prop}
theorem len_mem {ps : Addr} {l : List (Str × Tok)} {n : Nat} (N : News h₀ L s.heap news) (hm : (ps, ({ cls := .type "list", data := .seq (strValues l).toArray n } : Obj)) ∈ news) (hz : l.length ≤ 1000)
    (h : Q (.int (l.length : Int) (s.toks + 1)) { s with toks := s.toks + 1 + 1 }) : wpAny (model prog w) A (call (.builtin "len") [.ref ps]) Q E s := by
  have hl : s.heap.IsList ps (strValues l).toArray := ⟨_, (N _ hm).1, rfl, n, rfl⟩
  exact kun_lenL hl (by simp [strValues]) (by omega) h
theorem way_at {ws : Addr} {vs : List Value} {ns : List Int} {n i : Nat} {u : Tok} {value slice : PySem.Expr} (N : News h₀ L s.heap news) (hm : (ws, listOf vs.toArray n) ∈ news) (hI : IntsAre vs ns) (hi : i < vs.length) (hz : vs.length ≤ 1000)
    (h : ∀ k t, Q (.int k t) s)
    (hs : subscripted slice false (.ref ws) (.int (i : Int) u) = operate [.ref ws, .int (i : Int) u] (getItem (.ref ws) (.int (i : Int) u)) := by with_unfolding_all rfl) :
    wpAny (model prog w) A (subscriptTail value slice (.ref ws) (.int (i : Int) u)) Q E s := by
  have hl : s.heap.IsList ws vs.toArray := ⟨_, (N _ hm).1, rfl, n, rfl⟩
  obtain ⟨k, t, e⟩ := IntsAre.at hI hi
  exact tail_any hl.typeIs slot_list_getitem.lookup (wpAny_getItem_list hl (Int.natCast_nonneg _) (by omega) (by simpa using e) (h k t)) hs
end
section
variable {prog : Program} {w : World} {p : Program} {loose : List Str} {mean : ExcName → Option Value} {mg mb : Str → Option Value}
   {dp un : Nat} {gd : Option (List Code)} {cn : Str} {cs : Scope} {a : Addr} {ccd : Value} {cl : List (Str × Addr)} {outer : List Env} {A₀ : Around} {base h₀ : Heap} {L : Addr} {m : Str → Option Value} {rest : List (Addr × Obj)} {s : Shared}
    {Q E : Value → Shared → Prop}
theorem closed_t {x : Str} {t : Tok} {last : Bool} (hx : x.length ≤ 1000)
    (B : Below A₀ base outer h₀) (F : Fr h₀ L s.heap m) (X : (Mine.hd.heap_1 w.params).In h₀)
    (N : News h₀ L s.heap rest)
    (T : Top p loose mean mg mb h₀) (hk : cs.kind = .function) (hd : dp + 150 < recursionLimit) (hu : un + 1500 < cLine)
    (ret : ∀ Tp D vt vx own ds n h' tk', RestV vx (lawC (toL x) last).2.2 → All2 (RepT prog w own) ds (lawC (toL x) last).1 → RepC prog w own vt (lawC (toL x) last).2.1 →
      (∀ p ∈ rest, p.1 < Tp) → (∀ p ∈ rest, p.1 < D) → (∀ q ∈ own, ∀ p ∈ rest, p.1 < q.1) → Fr h₀ L h' m → News h₀ L h' ((Tp, tup3 (.ref D) vt vx) :: (D, listOf ds.toArray n) :: (own ++ rest)) → Q (.ref Tp) { s with heap := h', toks := tk' }) :
    wpAny (model prog w) (ktrTop dp un gd cn cs L a ccd cl outer) (call (.ref 800) [.str x t, .bool last]) Q E s := by
  cases e : toL x with
  | nil => rw [e] at ret; exact closed0_t e hx B F X N T hk hd hu ret
  | cons c p0 => rw [e] at ret; exact closed1_t e hx B F X N T hk hd hu ret
theorem opened_t {x : Str} {t : Tok} {last : Bool} (hx : x.length ≤ 1000)
    (B : Below A₀ base outer h₀) (F : Fr h₀ L s.heap m) (X : (Mine.hd.heap_1 w.params).In h₀)
    (N : News h₀ L s.heap rest)
    (T : Top p loose mean mg mb h₀) (hk : cs.kind = .function) (hd : dp + 150 < recursionLimit) (hu : un + 1500 < cLine)
    (ret : ∀ Tp D vt vx own ds n h' tk', RestV vx (lawO (toL x) last).2.2 → All2 (RepT prog w own) ds (lawO (toL x) last).1 → RepC prog w own vt (lawO (toL x) last).2.1 →
      (∀ p ∈ rest, p.1 < Tp) → (∀ p ∈ rest, p.1 < D) → (∀ q ∈ own, ∀ p ∈ rest, p.1 < q.1) → Fr h₀ L h' m → News h₀ L h' ((Tp, tup3 (.ref D) vt vx) :: (D, listOf ds.toArray n) :: (own ++ rest)) → Q (.ref Tp) { s with heap := h', toks := tk' }) :
    wpAny (model prog w) (ktrTop dp un gd cn cs L a ccd cl outer) (call (.ref 807) [.str x t, .bool last]) Q E s := by
  cases e : toL x with
  | nil => rw [e] at ret; exact opened0_t e hx B F X N T hk hd hu ret
  | cons c p0 => rw [e] at ret; exact opened1_t e hx B F X N T hk hd hu ret
end
/-- behind the way in -/
def WayP (prog : Program) (w : World) (h₀ : Heap) (L : Addr) (m₁ : Str → Option Value) (G : TA) (fr : List (Addr × Obj)) (tl nx : List Nat) (s s' : Shared) : Prop :=
  ∃ (o : Out) (lo : LOut) (σ' : SS) (sa : Addr) (own : List (Addr × Obj)) (D : Addr) (vt vx : Value) (ds : List Value) (n : Nat) (qs : List Value) (cur' : Value) (qn' : Nat) (h' : Heap) (tk' : Nat),
    s' = { s with heap := h', toks := tk' } ∧ Agree o lo tl nx ∧
    Fr h₀ L h' (fun z => if z = Str.ofString "fine" then some (.bool true) else if z = Str.ofString "rest" then some vx else if z = Str.ofString "token" then some vt else if z = Str.ofString "due" then some (.ref D) else m₁ z) ∧
    News h₀ L h' (own ++ tkL w G ⟨σ', .ref sa, cur', qs, qn'⟩ []) ∧ OffR G own ∧ (∀ p ∈ fr, p ∈ own) ∧ (D, listOf ds.toArray n) ∈ own ∧ All2 (RepT prog w own) qs o.1 ∧ RepC prog w own cur' o.2.1 ∧ All2 (RepT prog w own) ds lo.1 ∧ RepC prog w own vt lo.2.1 ∧ RestV vx lo.2.2 ∧ Inv G.A σ' o.2.2
theorem OffR.of_lt {w : World} {G : TA} {g : TS} {rest l : List (Addr × Obj)} (off : OffR G rest) (h : ∀ q ∈ l, ∀ p ∈ tkL w G g rest, p.1 < q.1) : OffR G l := fun q hq => FSlot.off (FSlot.here off) (h q hq)
theorem way_intro {prog : Program} {w : World} {h₀ : Heap} {L : Addr} {m₁ : Str → Option Value} {G : TA} {fr own1 own2 : List (Addr × Obj)} {tl nx : List Nat} {s : Shared} {o : Out} {lo : LOut} {σ' : SS} {sa Tp D : Addr} {TO : Obj} {vt vx cur' : Value} {ds qs : List Value} {n qn' : Nat} {h' : Heap} {tk' : Nat}
    (ag : Agree o lo tl nx)
    (F : Fr h₀ L h' (fun z => if z = Str.ofString "fine" then some (.bool true) else if z = Str.ofString "rest" then some vx else if z = Str.ofString "token" then some vt else if z = Str.ofString "due" then some (.ref D) else m₁ z))
    (N : News h₀ L h' (own2 ++ tkL w G ⟨σ', .ref sa, cur', qs, qn'⟩ (((Tp, TO) :: (D, listOf ds.toArray n) :: own1) ++ fr))) (off : OffR G (((Tp, TO) :: (D, listOf ds.toArray n) :: own1) ++ fr)) (off2 : OffR G own2)
    (q1 : All2 (RepT prog w own2) qs o.1) (c1 : RepC prog w own2 cur' o.2.1) (q2 : All2 (RepT prog w own1) ds lo.1) (c2 : RepC prog w own1 vt lo.2.1) (rv : RestV vx lo.2.2) (I : Inv G.A σ' o.2.2) :
    WayP prog w h₀ L m₁ G fr tl nx s { s with heap := h', toks := tk' } := by
  have s1 : ∀ p ∈ own1, p ∈ own2 ++ (((Tp, TO) :: (D, listOf ds.toArray n) :: own1) ++ fr) := fun p hp => by simp [hp]
  have s2 : ∀ p ∈ own2, p ∈ own2 ++ (((Tp, TO) :: (D, listOf ds.toArray n) :: own1) ++ fr) := fun p hp => by simp [hp]
  refine ⟨o, lo, σ', sa, own2 ++ (((Tp, TO) :: (D, listOf ds.toArray n) :: own1) ++ fr), D, vt, vx, ds, n, qs, cur', qn', h', tk', rfl, ag, F, ?_, off2.app off, fun p hp => by simp [hp], by simp, q1.imp fun _ _ x => RepT.sub s2 x, RepC.sub s2 c1, q2.imp fun _ _ x => RepT.sub s1 x, RepC.sub s1 c2, rv, I⟩
  rw [List.append_assoc]
  intro p hp
  rcases List.mem_append.mp hp with hp | hp
  · exact N p (List.mem_append_left _ hp)
  · have N2 : News h₀ L h' (tkL w G ⟨σ', .ref sa, cur', qs, qn'⟩ ((((Tp, TO) :: (D, listOf ds.toArray n) :: own1) ++ fr) ++ [])) := by
      rw [List.append_nil]; exact fun p hp => N p (List.mem_append_right _ hp)
    exact newsT_out _ N2 p hp
theorem allLt_lt {d : Addr} : ∀ {l : List (Addr × Obj)}, AllLt d l → ∀ p ∈ l, p.1 < d
  | [], _, _, h => nomatch h
  | _ :: _, hl, _, .head _ => hl.1
  | _ :: _, hl, p, .tail _ h => allLt_lt hl.2 p h
section
variable {prog : Program} {w : World} {A' : Around} {h₀ : Heap} {L : Addr} {m : Str → Option Value} {s : Shared} {G : TA} {σ : SS} {D : Obj} {E : Value → Shared → Prop} {Q : Unit → Shared → Prop}
theorem mem_sw {α : Type} {a b : List α} {p : α} (h : p ∈ b ++ a) : p ∈ a ++ b := by
  simp only [List.mem_append] at h ⊢
  exact h.symm
theorem prL_app {fr : List (Addr × Obj)} {q : Addr × Obj} {h : Heap} (N : News h₀ L h (q :: (fr ++ prL w G σ D []))) : News h₀ L h (q :: prL w G σ D fr) := by
  intro p hp
  rcases List.mem_cons.mp hp with rfl | hp
  · exact N _ (.head _)
  · exact N p (.tail _ (mem_sw (show p ∈ prL w G σ D [] ++ fr from hp)))
theorem prL_lt' {fr : List (Addr × Obj)} {d : Addr} (h : ∀ p ∈ fr ++ prL w G σ D [], p.1 < d) : ∀ p ∈ prL w G σ D fr, p.1 < d :=
  fun p hp => h p (mem_sw (show p ∈ prL w G σ D [] ++ fr from hp))
theorem mem_q {α : Type} {a b c p : α} {l : List α} (h : p ∈ a :: b :: l) : p ∈ a :: b :: c :: l := by
  simp only [List.mem_cons] at h ⊢
  rcases h with h | h | h <;> simp only [h, true_or, or_true]
theorem prL_tkL {q : Nat} {u7 : Tok} {g : TS} {p : Addr × Obj} (h : p ∈ prL w G g.σ (dK w (G.to q u7) g) []) : p ∈ tkL w (G.to q u7) g [] := mem_q h
theorem set_queueD {q : Nat} {fr : List (Addr × Obj)} (F : Fr h₀ L s.heap m) (X : (Mine.hd.heap_1 w.params).In h₀) (N : News h₀ L s.heap ((q, listOf (#[] : Array Value) 0) :: (fr ++ prL w G σ D []))) (hD : TokD w G D) (hB : SepB G) (hO : OffBs G fr) (lt : ∀ p ∈ fr ++ prL w G σ D [], p.1 < q)
    (h : ∀ h' u7 st cur, SepG (G.to q u7) → OffR (G.to q u7) fr → Fr h₀ L h' m → News h₀ L h' (tkL w (G.to q u7) ⟨σ, st, cur, [], 0⟩ fr) → Q () { s with heap := h', toks := s.toks + 2 }) :
    wpAny (model prog w) A' (setAttr (.ref G.t) (Str.ofString "tokenQueue") (.ref q)) Q E s := by
  have hG : ∀ u7, SepG (G.to q u7) := fun u7 => hB.to u7 (prL_lt' lt)
  have hR : ∀ u7, OffR (G.to q u7) fr := fun u7 => hO.to u7 fun p hp => lt p (List.mem_append_left _ hp)
  rcases hD with ⟨st, cur, rfl⟩ | ⟨q0, u0, g, rfl⟩
  · exact set_queue7 F X (prL_app N) hG hR fun h' u7 F' N' => h h' u7 st cur (hG u7) (hR u7) F' N'
  · exact set_queue8 F X (prL_app N) hG hR fun h' u7 F' N' => h h' u7 g.st g.cur (hG u7) (hR u7) F' N'
theorem set_queueT {q q0 : Nat} {u7 : Tok} {g : TS} {own : List (Addr × Obj)} (F : Fr h₀ L s.heap m) (X : (Mine.hd.heap_1 w.params).In h₀) (N : News h₀ L s.heap ((q, listOf (#[] : Array Value) 0) :: (own ++ tkL w (G.to q0 u7) g []))) (hG : SepG (G.to q0 u7)) (hO : OffR (G.to q0 u7) own) (lt : ∀ p ∈ own ++ tkL w (G.to q0 u7) g [], p.1 < q)
    (h : ∀ h' u7', SepG (G.to q u7') → OffR (G.to q u7') own → Fr h₀ L h' m → News h₀ L h' (own ++ tkL w (G.to q u7') ⟨g.σ, g.st, g.cur, [], 0⟩ []) → Q () { s with heap := h', toks := s.toks + 2 }) :
    wpAny (model prog w) A' (setAttr (.ref G.t) (Str.ofString "tokenQueue") (.ref q)) Q E s := by
  have sub : ∀ p ∈ own ++ prL w G g.σ (dK w (G.to q0 u7) g) [], p ∈ own ++ tkL w (G.to q0 u7) g [] := by
    intro p hp
    exact (List.mem_append.mp hp).elim (fun h => List.mem_append_left _ h) fun h => List.mem_append_right _ (prL_tkL h)
  have lt' : ∀ p ∈ own ++ prL w G g.σ (dK w (G.to q0 u7) g) [], p.1 < q := fun p hp => lt p (sub p hp)
  have hG' : ∀ u, SepG (G.to q u) := fun u => hG.base.to u (prL_lt' lt')
  have hR' : ∀ u, OffR (G.to q u) own := fun u => hO.base.to u fun p hp => lt p (List.mem_append_left _ hp)
  have N' : News h₀ L s.heap ((q, listOf (#[] : Array Value) 0) :: (own ++ prL w G g.σ (dK w (G.to q0 u7) g) [])) := by
    intro p hp
    refine N p ?_
    rcases List.mem_cons.mp hp with rfl | hp
    · exact .head _
    · exact .tail _ (sub p hp)
  exact set_queue8 F X (prL_app N') hG' hR' fun h' u7' F' N2 => h h' u7' (hG' u7') (hR' u7') F' (newsT_out own (by rw [List.append_nil]; exact N2))
end

end
section -- X3
open PySem.Spec PySem.Calls
section
variable {prog : Program} {w : World} {A' : Around} {h₀ : Heap} {L : Addr} {m : Str → Option Value} {news : List (Addr × Obj)} {f : TS → List (Addr × Obj)} {s : Shared} {G : TA} {g : TS} {E : Value → Shared → Prop} {t : Addr}
theorem eget_stream {expr : Bool} {Q : Value → Shared → Prop} (ht : t = G.t) (F : Fr h₀ L s.heap m) (X : (Mine.hd.heap_1 w.params).In h₀) (N : News h₀ L s.heap news) (S : FSlot w G g news f) (h : Q (.ref G.A.x) { s with toks := s.toks + 1 }) :
    wpAny (model prog w) A' (getAttr (.ref t) (Str.ofString "stream") expr) Q E s := by subst ht; exact fget_stream F X N S h
theorem eget_state {expr : Bool} {Q : Value → Shared → Prop} (ht : t = G.t) (F : Fr h₀ L s.heap m) (X : (Mine.hd.heap_1 w.params).In h₀) (N : News h₀ L s.heap news) (S : FSlot w G g news f) (hv : handedIn g.st = true) (h : Q (g.st) { s with toks := s.toks + 1 }) :
    wpAny (model prog w) A' (getAttr (.ref t) (Str.ofString "state") expr) Q E s := by subst ht; exact fget_state F X N S hv h
theorem eget_currentToken {expr : Bool} {Q : Value → Shared → Prop} (ht : t = G.t) (F : Fr h₀ L s.heap m) (X : (Mine.hd.heap_1 w.params).In h₀) (N : News h₀ L s.heap news) (S : FSlot w G g news f) (hv : handedIn g.cur = true) (h : Q (g.cur) { s with toks := s.toks + 1 }) :
    wpAny (model prog w) A' (getAttr (.ref t) (Str.ofString "currentToken") expr) Q E s := by subst ht; exact fget_currentToken F X N S hv h
theorem eget_tokenQueue {expr : Bool} {Q : Value → Shared → Prop} (ht : t = G.t) (F : Fr h₀ L s.heap m) (X : (Mine.hd.heap_1 w.params).In h₀) (N : News h₀ L s.heap news) (S : FSlot w G g news f) (h : Q (.ref G.q) { s with toks := s.toks + 1 }) :
    wpAny (model prog w) A' (getAttr (.ref t) (Str.ofString "tokenQueue") expr) Q E s := by subst ht; exact fget_tokenQueue F X N S h
theorem eset_state {v : Value} {Q : Unit → Shared → Prop} (ht : t = G.t) (F : Fr h₀ L s.heap m) (X : (Mine.hd.heap_1 w.params).In h₀) (N : News h₀ L s.heap news) (S : FSlot w G g news f) (hG : SepG G)
    (h : ∀ h', Fr h₀ L h' m → News h₀ L h' (f ⟨g.σ, v, g.cur, g.qs, g.qn⟩) → Q () { s with heap := h', toks := s.toks + 2 }) :
    wpAny (model prog w) A' (setAttr (.ref t) (Str.ofString "state") v) Q E s := by subst ht; exact fset_state F X N S hG h
theorem eset_currentToken {v : Value} {Q : Unit → Shared → Prop} (ht : t = G.t) (F : Fr h₀ L s.heap m) (X : (Mine.hd.heap_1 w.params).In h₀) (N : News h₀ L s.heap news) (S : FSlot w G g news f) (hG : SepG G)
    (h : ∀ h', Fr h₀ L h' m → News h₀ L h' (f ⟨g.σ, g.st, v, g.qs, g.qn⟩) → Q () { s with heap := h', toks := s.toks + 2 }) :
    wpAny (model prog w) A' (setAttr (.ref t) (Str.ofString "currentToken") v) Q E s := by subst ht; exact fset_currentToken F X N S hG h
theorem emeth_markupDeclarationOpenState {pl : Sem Bool} {Q : Value × List Value → Shared → Prop} (ht : t = G.t) (F : Fr h₀ L s.heap m) (X : (Mine.hd.heap_1 w.params).In h₀) (N : News h₀ L s.heap news) (S : FSlot w G g news f) (h : Q (.ref 605, [.ref t]) s) :
    wpAny (model prog w) A' (getMethod (.ref t) (Str.ofString "markupDeclarationOpenState") pl) Q E s := by subst ht; exact fmeth_markupDeclarationOpenState F X N S h
theorem emeth_closeTagOpenState {pl : Sem Bool} {Q : Value × List Value → Shared → Prop} (ht : t = G.t) (F : Fr h₀ L s.heap m) (X : (Mine.hd.heap_1 w.params).In h₀) (N : News h₀ L s.heap news) (S : FSlot w G g news f) (h : Q (.ref 360, [.ref t]) s) :
    wpAny (model prog w) A' (getMethod (.ref t) (Str.ofString "closeTagOpenState") pl) Q E s := by subst ht; exact fmeth_closeTagOpenState F X N S h
theorem emeth_tagOpenState {pl : Sem Bool} {Q : Value × List Value → Shared → Prop} (ht : t = G.t) (F : Fr h₀ L s.heap m) (X : (Mine.hd.heap_1 w.params).In h₀) (N : News h₀ L s.heap news) (S : FSlot w G g news f) (h : Q (.ref 353, [.ref t]) s) :
    wpAny (model prog w) A' (getMethod (.ref t) (Str.ofString "tagOpenState") pl) Q E s := by subst ht; exact fmeth_tagOpenState F X N S h
theorem emeth_bogusCommentState {pl : Sem Bool} {Q : Value × List Value → Shared → Prop} (ht : t = G.t) (F : Fr h₀ L s.heap m) (X : (Mine.hd.heap_1 w.params).In h₀) (N : News h₀ L s.heap news) (S : FSlot w G g news f) (h : Q (.ref 598, [.ref t]) s) :
    wpAny (model prog w) A' (getMethod (.ref t) (Str.ofString "bogusCommentState") pl) Q E s := by subst ht; exact fmeth_bogusCommentState F X N S h
end
section
variable {prog : Program} {w : World} {p : Program} {loose : List Str} {mean : ExcName → Option Value} {mg mb : Str → Option Value}
   {dp un : Nat} {gd : Option (List Code)} {cn : Str} {cs : Scope} {a : Addr} {ccd : Value} {cl : List (Str × Addr)} {outer : List Env} {A₀ : Around} {base h₀ : Heap} {L : Addr} {m : Str → Option Value} {fr own : List (Addr × Obj)} {s : Shared}
    {Q E : Value → Shared → Prop} {t : Addr} {b1 b2 : Addr × Obj}
theorem news_four {w : World} {G : TA} {g : TS} {h₀ h : Heap} {L : Addr} {b1 b2 : Addr × Obj} {own fr : List (Addr × Obj)} (N : News h₀ L h (b1 :: b2 :: (own ++ tkL w G g fr))) : News h₀ L h (tkL w G g ((b1 :: b2 :: own) ++ fr)) := newsT_in (b1 :: b2 :: own) N
theorem emark_t {G : TA} {σ : SS} {st : Value} {qn : Nat} {r : List Nat} (ht : t = G.t) (hG : SepG G) (ht0 : TxtOk G.A) (I : Inv G.A σ r) (hr : r.length ≤ 1500)
    (B : Below A₀ base outer h₀) (F : Fr h₀ L s.heap m) (X : (Mine.hd.heap_1 w.params).In h₀)
    (N : News h₀ L s.heap (b1 :: b2 :: (own ++ tkL w G ⟨σ, st, .none, [], qn⟩ fr))) (off : OffR G ((b1 :: b2 :: own) ++ fr))
    (T : Top p loose mean mg mb h₀) (hk : cs.kind = .function) (hd : dp + 50 < recursionLimit) (hu : un + 500 < cLine)
    (ret : ∀ σ' sa own' qs cur' qn' h' tk', Inv G.A σ' (markF r).2.2 → OffR G own' → All2 (RepT prog w own') qs (markF r).1 → RepC prog w own' cur' (markF r).2.1 → Fr h₀ L h' m →
      News h₀ L h' (own' ++ tkL w G ⟨σ', .ref sa, cur', qs, qn'⟩ ((b1 :: b2 :: own) ++ fr)) → Q (.bool true) { s with heap := h', toks := tk' }) :
    wpAny (model prog w) (ktrTop dp un gd cn cs L a ccd cl outer) (call (.ref 605) [.ref t]) Q E s := by
  subst ht; exact mark_t hG ht0 I hr B F X (news_four N) off T hk hd hu ret
theorem eclose_t {G : TA} {σ : SS} {st : Value} {qn : Nat} {r : List Nat} (ht : t = G.t) (hG : SepG G) (ht0 : TxtOk G.A) (I : Inv G.A σ r) (hr : r.length ≤ 1500)
    (B : Below A₀ base outer h₀) (F : Fr h₀ L s.heap m) (X : (Mine.hd.heap_1 w.params).In h₀)
    (N : News h₀ L s.heap (b1 :: b2 :: (own ++ tkL w G ⟨σ, st, .none, [], qn⟩ fr))) (off : OffR G ((b1 :: b2 :: own) ++ fr))
    (T : Top p loose mean mg mb h₀) (hk : cs.kind = .function) (hd : dp + 50 < recursionLimit) (hu : un + 500 < cLine)
    (ret : ∀ σ' sa own' qs cur' qn' h' tk', Inv G.A σ' (closeF r).2.2 → OffR G own' → All2 (RepT prog w own') qs (closeF r).1 → RepC prog w own' cur' (closeF r).2.1 → Fr h₀ L h' m →
      News h₀ L h' (own' ++ tkL w G ⟨σ', .ref sa, cur', qs, qn'⟩ ((b1 :: b2 :: own) ++ fr)) → Q (.bool true) { s with heap := h', toks := tk' }) :
    wpAny (model prog w) (ktrTop dp un gd cn cs L a ccd cl outer) (call (.ref 360) [.ref t]) Q E s := by
  subst ht; exact close_t hG ht0 I hr B F X (news_four N) off T hk hd hu ret
theorem eopen_t {G : TA} {σ : SS} {st : Value} {qn : Nat} {r : List Nat} (ht : t = G.t) (hG : SepG G) (ht0 : TxtOk G.A) (I : Inv G.A σ r) (hr : r.length ≤ 1500)
    (B : Below A₀ base outer h₀) (F : Fr h₀ L s.heap m) (X : (Mine.hd.heap_1 w.params).In h₀)
    (N : News h₀ L s.heap (b1 :: b2 :: (own ++ tkL w G ⟨σ, st, .none, [], qn⟩ fr))) (off : OffR G ((b1 :: b2 :: own) ++ fr))
    (T : Top p loose mean mg mb h₀) (hk : cs.kind = .function) (hd : dp + 50 < recursionLimit) (hu : un + 500 < cLine)
    (ret : ∀ σ' sa own' qs cur' qn' h' tk', Inv G.A σ' (openF r).2.2 → OffR G own' → All2 (RepT prog w own') qs (openF r).1 → RepC prog w own' cur' (openF r).2.1 → Fr h₀ L h' m →
      News h₀ L h' (own' ++ tkL w G ⟨σ', .ref sa, cur', qs, qn'⟩ ((b1 :: b2 :: own) ++ fr)) → Q (.bool true) { s with heap := h', toks := tk' }) :
    wpAny (model prog w) (ktrTop dp un gd cn cs L a ccd cl outer) (call (.ref 353) [.ref t]) Q E s := by
  subst ht; exact open_t hG ht0 I hr B F X (news_four N) off T hk hd hu ret
theorem ebogus_t {G : TA} {σ : SS} {st cur : Value} {qn : Nat} {r : List Nat} (ht : t = G.t) (hG : SepG G) (ht0 : TxtOk G.A) (I : Inv G.A σ r)
    (B : Below A₀ base outer h₀) (F : Fr h₀ L s.heap m) (X : (Mine.hd.heap_1 w.params).In h₀)
    (N : News h₀ L s.heap (own ++ tkL w G ⟨σ, st, cur, [], qn⟩ [])) (off : OffR G own)
    (T : Top p loose mean mg mb h₀) (hk : cs.kind = .function) (hd : dp + 50 < recursionLimit) (hu : un + 500 < cLine)
    (ret : ∀ σ' sa own' v y h' tk', toL y = r.takeWhile (· != 62) → Inv G.A σ' (r.dropWhile (· != 62)).tail → OffR G (own' ++ own) →
      RepT prog w (own' ++ own) v [(Str.ofString "type", .leaf (.int 6)), (Str.ofString "data", .leaf (.str (Txt.replace y (Str.ofString "\x00") (Str.ofString "�"))))] → Fr h₀ L h' m →
      News h₀ L h' ((own' ++ own) ++ tkL w G ⟨σ', .ref sa, cur, [v], qn + 1⟩ []) → Q (.bool true) { s with heap := h', toks := tk' }) :
    wpAny (model prog w) (ktrTop dp un gd cn cs L a ccd cl outer) (call (.ref 598) [.ref t]) Q E s := by
  subst ht
  refine bogus_t (rest := own ++ []) hG ht0 I B F X (newsT_in own N) (by rw [List.append_nil]; exact off) T hk hd hu fun σ' sa own' v y h' tk' e I' o' r' F' N' => ret σ' sa own' v y h' tk' e I' (o'.app off) (RepT.sub (fun p hp => List.mem_append_left _ hp) r') F' ?_
  intro p hp
  rw [List.append_assoc] at hp
  rcases List.mem_append.mp hp with hp | hp
  · exact N' p (List.mem_append_left _ hp)
  · exact newsT_out own (fun p hp => N' p (List.mem_append_right _ hp)) p hp
end
theorem repC_handed {prog : Program} {w : World} {own : List (Addr × Obj)} {v : Value} : ∀ {c : Option DD}, RepC prog w own v c → handedIn v = true
  | none, h => by
    have h : v = .none := h
    subst h; rfl
  | some _, ⟨a, o, kvs, e, _⟩ => by subst e; rfl

end
section -- X4
open PySem.Spec PySem.Calls
theorem restOf_end (l : List (Str × Tok)) {i : Nat} (h : l.length ≤ i) : restOf l i = [] := by
  unfold restOf
  rw [List.drop_of_length_le (by rw [List.length_map]; exact h)]
  rfl
theorem restOf_step {l : List (Str × Tok)} {i : Nat} {x : Str} {tx : Tok} (hi : l[i]? = some (x, tx)) : restOf l i = toL x ++ (if i + 1 = l.length then [] else 62 :: restOf l (i + 1)) := by
  obtain ⟨hlt, e⟩ := List.getElem?_eq_some_iff.mp hi
  have hlt' : i < (l.map fun p => toL p.1).length := by rw [List.length_map]; exact hlt
  have q := joinGt_drop hlt'
  rw [List.getElem_map, e, List.length_map] at q
  exact q
theorem restOf_len (l : List (Str × Tok)) : ∀ i, (restOf l i).length ≤ (restOf l 0).length
  | 0 => Nat.le_refl _
  | i + 1 => by
    refine Nat.le_trans ?_ (restOf_len l i)
    by_cases h : i < l.length
    · rw [restOf_step (i := i) (x := l[i].1) (tx := l[i].2) (by rw [List.getElem?_eq_getElem h])]
      split
      · rename_i e
        rw [restOf_end l (by omega)]
        exact Nat.zero_le _
      · simp only [List.length_append, List.length_cons]; omega
    · rw [restOf_end l (by omega)]
      exact Nat.zero_le _
theorem turn_facts {l : List (Str × Tok)} {i : Nat} {x : Str} {tx : Tok} (hi : l[i]? = some (x, tx)) (hF : ∀ p ∈ l, Free (toL p.1)) :
    ∃ tl, restOf l i = toL x ++ tl ∧ Tail tl (restOf l (i + 1)) ∧ Free (toL x) ∧ ((((i : Int) + 1 == (l.length : Int)) = true) ↔ tl = []) := by
  refine ⟨_, restOf_step hi, ?_, hF _ (List.mem_of_getElem? hi), ?_⟩
  · by_cases h : i + 1 = l.length
    · rw [if_pos h]
      exact .inl ⟨rfl, restOf_end l (by omega)⟩
    · rw [if_neg h]
      exact .inr rfl
  · by_cases h : i + 1 = l.length
    · rw [if_pos h, beq_iff_eq]
      exact ⟨fun _ => rfl, fun _ => by omega⟩
    · rw [if_neg h, beq_iff_eq]
      exact ⟨fun e => absurd (by omega) h, fun e => nomatch e⟩
theorem turn_all {l : List (Str × Tok)} {i : Nat} {x : Str} {tx : Tok} (hi : l[i]? = some (x, tx)) (hF : ∀ p ∈ l, Free (toL p.1)) (hX : ∀ p ∈ l, p.1.length ≤ 1000) (hR : ∀ i, (restOf l i).length ≤ 1500) :
    ∃ tl, restOf l i = toL x ++ tl ∧ Tail tl (restOf l (i + 1)) ∧ Free (toL x) ∧ ((((i : Int) + 1 == (l.length : Int)) = true) ↔ tl = []) ∧ (toL x ++ tl).length ≤ 1500 ∧ x.length ≤ 1000 ∧ i < l.length := by
  obtain ⟨tl, e, a, b, c⟩ := turn_facts hi hF
  refine ⟨tl, e, a, b, c, ?_, hX _ (List.mem_of_getElem? hi), (List.getElem?_eq_some_iff.mp hi).1⟩
  rw [← e]; exact hR i
section
variable {prog : Program} {A : Around} {E : Value → Shared → Prop} {s : Shared} {env : Env} {h₀ : Heap} {L : Addr} {Q : Flow → Shared → Prop} {m₁ : Str → Option Value} {w : World} {G : TA} {g : TS} {fr : List (Addr × Obj)} {S : Stmt}
theorem way_cut {tl nx : List Nat} (_ : Fr h₀ L s.heap m₁) (_ : News h₀ L s.heap (tkL w G g fr)) (_ : Tail tl nx)
    (walk : wpAny (model prog w) A (exec S env) (fun f s' => match f with | .next => WayP prog w h₀ L m₁ G fr tl nx s s' | f => Q f s') E s) (go : ∀ s', WayP prog w h₀ L m₁ G fr tl nx s s' → Q .next s') : wpAny (model prog w) A (exec S env) Q E s := exec_cut walk go
end

end
section -- X5
open PySem.Spec PySem.Calls
section
variable {prog : Program} {w : World} {A : Around} {E : Value → Shared → Prop} {s : Shared} {h₀ : Heap} {L : Addr} {news own own' : List (Addr × Obj)} {Q : Value → Shared → Prop}
theorem wne_cur {v y : Value} {c : Option DD} (N : News h₀ L s.heap news) (s1 : ∀ p ∈ own, p ∈ news) (hu : A.units + 10 < cLine) (h : RepC prog w own v c) (h' : RepC prog w own y c) (hq : Q (.bool false) s) :
    wpAny (model prog w) A (compareOp .NotEq v y) Q E s := ne_cur (fun p hp => N p (s1 p hp)) (fun p hp => N p (s1 p hp)) hu h h' hq
theorem wne_queue {q D : Addr} {qs ds : List Value} {n n' : Nat} {ts : List DD} (N : News h₀ L s.heap news) (s1 : ∀ p ∈ own, p ∈ news) (s2 : ∀ p ∈ own', p ∈ news) (hm : (q, listOf qs.toArray n) ∈ news) (hm' : (D, listOf ds.toArray n') ∈ news) (hu : A.units + 10 < cLine)
    (h : All2 (RepT prog w own) qs ts) (h' : All2 (RepT prog w own') ds ts) (hq : Q (.bool false) s) : wpAny (model prog w) A (compareOp .NotEq (.ref q) (.ref D)) Q E s :=
  ne_queue N hm hm' (fun p hp => N p (s1 p hp)) (fun p hp => N p (s2 p hp)) hu h h' hq
end
theorem toL_inj {x y : Str} (h : toL x = toL y) : x = y := by
  cases x with
  | mk a => cases y with
    | mk b => cases a; cases b; simp only [toL] at h; subst h; rfl
section
variable {prog : Program} {w : World} {p : Program} {loose : List Str} {mean : ExcName → Option Value} {mg mb : Str → Option Value}
   {dp un : Nat} {gd : Option (List Code)} {cn : Str} {cs : Scope} {a : Addr} {ccd : Value} {cl : List (Str × Addr)} {outer : List Env} {A₀ : Around} {base h₀ : Heap} {L : Addr} {m : Str → Option Value} {own : List (Addr × Obj)} {s : Shared}
    {Q E : Value → Shared → Prop} {t : Addr}
theorem lbogus_t {G : TA} {σ : SS} {st cur : Value} {qn : Nat} {x : Str} {tl nx : List Nat} (ht : t = G.t) (hG : SepG G) (ht0 : TxtOk G.A) (I : Inv G.A σ (toL x ++ tl)) (hf : Free (toL x)) (hT : Tail tl nx)
    (B : Below A₀ base outer h₀) (F : Fr h₀ L s.heap m) (X : (Mine.hd.heap_1 w.params).In h₀)
    (N : News h₀ L s.heap (own ++ tkL w G ⟨σ, st, cur, [], qn⟩ [])) (off : OffR G own)
    (T : Top p loose mean mg mb h₀) (hk : cs.kind = .function) (hd : dp + 50 < recursionLimit) (hu : un + 500 < cLine)
    (ret : ∀ σ' sa own' v h' tk', Inv G.A σ' nx → OffR G (own' ++ own) →
      RepT prog w (own' ++ own) v [(Str.ofString "type", .leaf (.int 6)), (Str.ofString "data", .leaf (.str (Txt.replace x (Str.ofString "\x00") (Str.ofString "�"))))] → Fr h₀ L h' m →
      News h₀ L h' ((own' ++ own) ++ tkL w G ⟨σ', .ref sa, cur, [v], qn + 1⟩ []) → Q (.bool true) { s with heap := h', toks := tk' }) :
    wpAny (model prog w) (ktrTop dp un gd cn cs L a ccd cl outer) (call (.ref 598) [.ref t]) Q E s := by
  have u := until_rest hf hT
  refine ebogus_t ht hG ht0 I B F X N off T hk hd hu fun σ' sa own' v y h' tk' e I' o' r' F' N' => ?_
  rw [u.1] at e
  rw [u.2] at I'
  have ey := toL_inj e
  subst ey
  exact ret σ' sa own' v h' tk' I' o' r' F' N'
end
theorem law_back {h₀ h : Heap} {L : Addr} {w : World} {G : TA} {q : Nat} {u7 : Tok} {g : TS} {own fr : List (Addr × Obj)} (N : News h₀ L h (own ++ tkL w (G.to q u7) g [])) (hf : ∀ p ∈ fr, p ∈ own) : News h₀ L h (fr ++ prL w G g.σ (dK w (G.to q u7) g) []) := by
  intro p hp
  rcases List.mem_append.mp hp with hp | hp
  · exact N p (List.mem_append_left _ (hf p hp))
  · exact N p (List.mem_append_right _ (prL_tkL hp))
theorem sub_right {fr own own' : List (Addr × Obj)} (h : ∀ p ∈ fr, p ∈ own) : ∀ p ∈ fr, p ∈ own' ++ own := fun p hp => List.mem_append_right _ (h p hp)
/-- a turn's end -/
theorem law_end {w : World} {h₀ : Heap} {L : Addr} {stored : List Str} {m₀ m' : Str → Option Value} {G : TA} {q : Nat} {u7 : Tok} {g : TS} {own fr : List (Addr × Obj)} {r : List Nat} {s : Shared} {h' : Heap} {tk' : Nat}
    (F : Fr h₀ L h' m') (hz : ∀ z, stored.contains z = false → m' z = m₀ z) (N : News h₀ L h' (own ++ tkL w (G.to q u7) g [])) (hf : ∀ p ∈ fr, p ∈ own) (I : Inv G.A g.σ r) :
    LPost w h₀ L stored m₀ G fr r s .next { s with heap := h', toks := tk' } := ⟨g.σ, _, h', tk', m', rfl, F, hz, law_back N hf, .inr ⟨q, u7, g, rfl⟩, I⟩
theorem not8 {z a b c d e f g h : Str} (hz : [a, b, c, d, e, f, g, h].contains z = false) : z ≠ a ∧ z ≠ b ∧ z ≠ c ∧ z ≠ d ∧ z ≠ e ∧ z ≠ f ∧ z ≠ g ∧ z ≠ h := by
  simp only [List.contains_cons, List.contains_nil, Bool.or_false, Bool.or_eq_false_iff, beq_eq_false_iff_ne] at hz
  exact hz

end
section -- U1
open PySem.Spec PySem.Calls
theorem lt_mem {l : List (Addr × Obj)} {d n : Addr} {o : Obj} (h : ∀ p ∈ l, p.1 < n) (hm : (d, o) ∈ l) : @LT.lt Nat _ d n := h _ hm
theorem lt_mem2 {l : List (Addr × Obj)} {d n k : Addr} {o : Obj} (h2 : k < n) (h : ∀ p ∈ l, p.1 < k) (hm : (d, o) ∈ l) : @LT.lt Nat _ d n := Nat.lt_trans (h _ hm) h2
theorem init_news {h₀ h : Heap} {L : Addr} {q lf er tx dtx nl rm x dx t dt : Addr × Obj} {rest : List (Addr × Obj)} (N : News h₀ L h (q :: lf :: er :: tx :: dtx :: nl :: rm :: x :: dx :: t :: dt :: rest)) :
    News h₀ L h (rest ++ [t, dt, x, dx, tx, dtx, rm, er]) := by
  intro p hp
  refine N p ?_
  simp only [List.mem_append, List.mem_cons, List.not_mem_nil, or_false] at hp ⊢
  rcases hp with h | h | h | h | h | h | h | h | h <;> simp only [h, true_or, or_true]
theorem init_pack {h₀ h : Heap} {L : Addr} {w : World} {y : Str} {q nl lf : Addr × Obj} {x dx tx dtx rm er nl0 t dt l0 : Nat} {k0 k1 k2 k3 k4 k5 k6 k7 k8 k9 j0 j1 j2 : Tok} {pl pc : Int} {t0 t1 t2 t3 t4 t5 u0 u1 u2 u3 u4 u5 u6 : Tok} {st cur : Value} {rest : List (Addr × Obj)} (hx : y.length ≤ 273) (ok : OkS y)
    (N : News h₀ L h (q :: lf :: (er, listOf #[] 0) :: (tx, instObj 73 dtx) :: (dtx, dT w ⟨x, dx, tx, dtx, rm, er, nl0, y, k0, k1, k2, k3, k4, k5, k6, k7, k8, k9, j0, j1, j2⟩ ⟨Str.ofString "", 0, 0, pl, pc, .none, 0, t0, t1, t2, t3, t4, t5⟩) :: nl :: (rm, methodObj (.ref 148) (.ref x)) :: (x, instObj 166 dx) :: (dx, dS w ⟨x, dx, tx, dtx, rm, er, nl0, y, k0, k1, k2, k3, k4, k5, k6, k7, k8, k9, j0, j1, j2⟩ ⟨Str.ofString "", 0, 0, pl, pc, .none, 0, t0, t1, t2, t3, t4, t5⟩) :: (t, instObj 762 dt) ::
      (dt, d7 w ⟨⟨x, dx, tx, dtx, rm, er, nl0, y, k0, k1, k2, k3, k4, k5, k6, k7, k8, k9, j0, j1, j2⟩, t, dt, 0, l0, u0, u1, u2, u3, u4, u5, u6, 0⟩ st cur) :: rest))
    (h1 : @LT.lt Nat _ dt t) (h2 : @LT.lt Nat _ t dx) (h3 : @LT.lt Nat _ dx x) (h4 : @LT.lt Nat _ x rm) (h5 : @LT.lt Nat _ rm dtx) (h6 : @LT.lt Nat _ dtx tx) (h7 : @LT.lt Nat _ tx er) (h8 : ∀ p ∈ rest, @LT.lt Nat _ p.1 dt) :
    ∃ (G : TA) (D : Obj) (σ : SS), t = G.t ∧ SepB G ∧ TxtOk G.A ∧ Inv G.A σ (norm (toL y)) ∧ (σ.buf = .none ∧ norm (bufL σ.buf ++ (toL G.A.txt).drop σ.place.toNat) = norm (toL y)) ∧ TokD w G D ∧ OffBs G rest ∧ News h₀ L h (rest ++ prL w G σ D []) := by
  refine ⟨⟨⟨x, dx, tx, dtx, rm, er, nl0, y, k0, k1, k2, k3, k4, k5, k6, k7, k8, k9, j0, j1, j2⟩, t, dt, 0, l0, u0, u1, u2, u3, u4, u5, u6, 0⟩, _, _, rfl, ?_, ⟨Nat.le_trans hx (by omega), ok⟩, inv_new, ⟨rfl, rfl⟩, .inl ⟨st, cur, rfl⟩, ?_, init_news N⟩
  · refine ⟨sep_new h3 ?_ ?_ h6 ?_ h5 ?_ ?_, ?_, ?_, ?_, ?_, ?_, ?_, ?_, ?_, ?_⟩ <;> (dsimp only; omega)
  · intro p hp
    have := h8 p hp
    refine ⟨?_, ?_, ?_⟩ <;> (dsimp only; omega)
section
variable {prog : Program} {w : World} {p : Program} {loose : List Str} {mean : ExcName → Option Value} {mg mb : Str → Option Value}
   {dp un : Nat} {gd : Option (List Code)} {cn : Str} {cs : Scope} {a : Addr} {ccd : Value} {cl : List (Str × Addr)} {outer : List Env} {A₀ : Around} {base h₀ : Heap} {L : Addr} {m : Str → Option Value} {rest : List (Addr × Obj)} {s : Shared}
    {Q E : Value → Shared → Prop}
theorem init_t {y : Str} {ty : Tok} (hx : y.length ≤ 273) (ok : OkS y) (hT0 : TP s.toks)
    (B : Below A₀ base outer h₀) (F : Fr h₀ L s.heap m) (X : (Mine.hd.heap_1 w.params).In h₀)
    (N : News h₀ L s.heap rest)
    (T : Top p loose mean mg mb h₀) (hk : cs.kind = .function) (hd : dp + 150 < recursionLimit) (hu : un + 1500 < cLine)
    (ret : ∀ (G : TA) (D : Obj) (σ : SS) h' tk', SepB G → TxtOk G.A → Inv G.A σ (norm (toL y)) → (σ.buf = .none ∧ norm (bufL σ.buf ++ (toL G.A.txt).drop σ.place.toNat) = norm (toL y)) → TokD w G D → OffBs G rest → TP tk' →
      Fr h₀ L h' m → News h₀ L h' (rest ++ prL w G σ D []) → Q (.ref G.t) { s with heap := h', toks := tk' }) :
    wpAny (model prog w) (ktrTop dp un gd cn cs L a ccd cl outer) (call (.ref 762) [.str y ty]) Q E s := by
  k_with_none
  (k_with "tp" => ((try dsimp only); with_reducible (first | assumption | exact TP.succ | exact TP.add2 | exact TP.add3 | exact TP.add4 | exact ⟨by omega⟩)))
  (k_with "forall" => ((with_reducible show (TP _ → _)); intro hT₉; dsimp only at hT₉))
  (k_with "execs nil" => (k_here; (with_reducible refine execsNG (by walk_at "tp") ?_); intro tk₉ htk₉; (try dsimp only)))
  (k_with "execs cons" => (k_here; (with_reducible refine execsQ (by walk_at "tp") ?_); intro Q9₉ hQ9₉ tk9₉ htk9₉; (try dsimp only)))
  (k_with "my_enter" => k_dflt (refine' code_def ?k1₉ ?k2₉ ?k3₉ ?k4₉ ?k5₉ ?kA₉ ?kF₉ ?kK₉ ?k6₉ ?k7₉ ?k8₉ ?k9₉ ?kB₉ ?_ ?c2₉ ?c3₉ ?c4₉ ?c5₉; (case kA₉ => exact rfl); (case kF₉ => exact rfl); (case kK₉ => first | exact rfl | assumption); (case k1₉ => k_asm); (case k2₉ => k_asm); (case k3₉ => k_asm); (case k4₉ => k_asm); (case k5₉ => k_asm); (case k6₉ => k_is); (case k7₉ => k_is); (case k8₉ => ktr_room); (case k9₉ => first | exact BindsTo.of_eq rfl | exact binds_K (by k_in) rfl (by k_is) rfl rfl rfl); (case c5₉ => decide); (case kB₉ => exact locs rfl); (case c2₉ => exact rfl); (case c3₉ => exact rfl); (case c4₉ => exact rfl); k_whole; intro g'₉ L'₉ h'₉ FG'₉ F'₉ N'₉ B'₉ X'₉ T'₉; (try dsimp only); (try k_fold)))
  (k_with "call ref" => (k_here; k_dflt (refine wpAny_call ?_; walk_at "my_enter")))
  (k_with "call ref" => (k_here; k_dflt (refine' call_meth ?k1₉ ?k2₉ ?_; (case k1₉ => k_asm); (case k2₉ => k_mem); k_whole; walk_at "my_enter")))
  (k_with "call ref" => (k_here; k_dflt (refine' call_cls ?k1₉ ?k2₉ ?k3₉ ?k4₉ ?k5₉ ?k6₉ ?_; (case k1₉ => k_asm); (case k2₉ => k_asm); (case k3₉ => k_asm); (case k4₉ => k_is); (case k5₉ => k_is); (case k6₉ => k_is); k_whole; intro x'₉ d'₉ h'₉ F'₉ N'₉ l1₉ l2₉; (try k_sweep); walk_at "my_enter")))
  (k_with "my_ltm" => first | with_reducible assumption | exact lt_mem (by assumption) (by k_mem) | exact lt_mem2 (by assumption) (by assumption) (by k_mem))
  (k_with "my_upd" => first | exact Upd.head (ne_lt (by assumption)) | (refine' Upd.tail ?ua₉ ?ub₉; (case ua₉ => exact Nat.ne_of_gt (by walk_at "my_ltm")); (case ub₉ => walk_at "my_upd")))
  (k_with "setAttr ref" => (k_here; k_dflt (refine' set_dict ?k1₉ ?k2₉ ?k3₉ ?k4₉ ?k5₉ ?k6₉ ?k7₉ ?k8₉ ?k9₉ ?k10₉ ?k11₉ ?k12₉ ?k13₉ ?_; (case k1₉ => k_asm); (case k2₉ => k_asm); (case k3₉ => k_asm); (case k4₉ => k_inst); (case k5₉ => exact rfl); (case k6₉ => k_is); (case k7₉ => k_is); (case k8₉ => k_is); (case k9₉ => k_is); (case k10₉ => k_get); (case k11₉ => k_put); (case k12₉ => walk_at "my_upd"); (case k13₉ => exact Nat.le_of_ble_eq_true rfl); k_whole); intro h'₉ F'₉ N'₉; (try dsimp only at N'₉); (try dsimp only); (try k_sweep)))
  (k_with "newList" => (k_here; k_dflt (refine' newList_K ?k1₉ ?k2₉ ?_; (case k1₉ => k_asm); (case k2₉ => k_asm); k_whole); intro l'₉ h'₉ F'₉ N'₉ l1₉; (try k_sweep)))
  (k_with "getAttr ref" => (k_here; k_dflt (refine' kbm_bound ?k1₉ ?k2₉ ?kN₉ ?k4₉ ?k5₉ ?k6₉ ?k7₉ ?k8₉ ?k9₉ ?k10₉ ?k11₉ ?k12₉ ?_; (case kN₉ => k_asm); (case k4₉ => k_inst); (case k1₉ => k_asm); (case k2₉ => k_asm); (case k7₉ => k_is); (case k5₉ => k_is); (case k6₉ => k_is); (case k8₉ => k_is); (case k9₉ => k_is); (case k10₉ => k_is); (case k11₉ => decide +kernel); (case k12₉ => k_get); k_whole); intro q'₉ h'₉ F'₉ N'₉ l1₉; (try dsimp only); (try k_sweep)))
  (k_with "my_steps" => (repeat' (first | (with_reducible refine GoOn.go (by with_reducible assumption) ?_; (try dsimp only)) | (k_unfold; (try dsimp only)) | (k_end; wrow_close) | walk1 | (dsimp only; walk1) | (leave1; (try dsimp only)) | fail "no step")))
  walk_at "my_steps"
  rename Fr _ _ _ _ => F9
  rename News _ _ _ _ => N9
  obtain ⟨G, D, σ, et, h1, h2, h3, h4, h5, h6, N8⟩ := init_pack hx ok N9 (by walk_at "my_ltm") (by walk_at "my_ltm") (by walk_at "my_ltm") (by walk_at "my_ltm") (by walk_at "my_ltm") (by walk_at "my_ltm") (by walk_at "my_ltm") (by assumption)
  subst et
  exact ret G D σ _ _ h1 h2 h3 h4 h5 h6 (by assumption) (by k_asm) N8
end

end
section -- U2
open PySem.Spec PySem.Calls
theorem news_pw {h₀ h : Heap} {L : Addr} {l : List (Addr × Obj)} {ws : List Value} {ns : List Int} {D ps : Addr} {q : List (Str × Tok)} (_ : IntsAre ws ns) (N : News h₀ L h l) (h1 : (ps, lstS q 0) ∈ l) (h2 : (D, W.listOf ws.toArray 0) ∈ l) : News h₀ L h [(ps, lstS q 0), (D, W.listOf ws.toArray 0)] := by
  intro p hp
  simp only [List.mem_cons, List.not_mem_nil, or_false] at hp
  rcases hp with rfl | rfl
  · exact N _ h1
  · exact N _ h2
theorem law_st {h₀ h : Heap} {L : Addr} {w : World} {G : TA} {σ : SS} {D : Obj} {ps ws : Addr × Obj} (N : News h₀ L h (ps :: ws :: prL w G σ D [])) : News h₀ L h (stL w G.A σ [ps, ws, (G.t, instObj 762 G.dt), (G.dt, D)]) := by
  have e : stL w G.A σ [ps, ws, (G.t, instObj 762 G.dt), (G.dt, D)] = stL w G.A σ [] ++ [ps, ws, (G.t, instObj 762 G.dt), (G.dt, D)] := rfl
  rw [e]
  intro p hp
  refine N p ?_
  show p ∈ ps :: ws :: (G.t, instObj 762 G.dt) :: (G.dt, D) :: stL w G.A σ []
  generalize stL w G.A σ [] = l at hp ⊢
  simp only [List.mem_append, List.mem_cons, List.not_mem_nil, or_false] at hp ⊢
  rcases hp with h | h | h | h | h <;> simp only [h, true_or, or_true]
theorem law_ts {h₀ h : Heap} {L : Addr} {w : World} {G : TA} {σ : SS} {D : Obj} {ps ws : Addr × Obj} (N : News h₀ L h (stL w G.A σ [ps, ws, (G.t, instObj 762 G.dt), (G.dt, D)])) : News h₀ L h (ps :: ws :: prL w G σ D []) := by
  have e : stL w G.A σ [ps, ws, (G.t, instObj 762 G.dt), (G.dt, D)] = stL w G.A σ [] ++ [ps, ws, (G.t, instObj 762 G.dt), (G.dt, D)] := rfl
  rw [e] at N
  intro p hp
  refine N p ?_
  have hp : p ∈ ps :: ws :: (G.t, instObj 762 G.dt) :: (G.dt, D) :: stL w G.A σ [] := hp
  generalize stL w G.A σ [] = l at hp ⊢
  simp only [List.mem_append, List.mem_cons, List.not_mem_nil, or_false] at hp ⊢
  rcases hp with h | h | h | h | h <;> simp only [h, true_or, or_true]
theorem law_off {G : TA} {D : Obj} {ps ws : Addr × Obj} (hO : OffBs G [ps, ws]) (hB : SepB G) : OwnOff [ps, ws, (G.t, instObj 762 G.dt), (G.dt, D)] [G.A.dx, G.A.dtx] :=
  own_two (hO _ (.head _)).dx (hO _ (.head _)).dtx (own_two (hO _ (.tail _ (.head _))).dx (hO _ (.tail _ (.head _))).dtx (own_two hB.c0 hB.c1 (own_two (Ne.symm hB.a3) (Ne.symm hB.a5) own_nil)))
theorem good_true {ns : List Int} {s₀ s₁ s' : Shared} {h : Heap} {L : Nat} {m : Str → Option Value} (F : Fr s₁.heap L h m) (eh : s'.heap = h) (hg : s'.gens = #[]) (ho : s'.os = s₁.os) :
    GoodW PySem.Challenge.rw_qy0004_06.row.claim (classAt s₀.heap) (ExcName.means s₀.heap) [ofPy (PyData.list (List.map PyData.int ns))] s₁ (Except.ok (Flow.ret (Value.bool true))) s' := by
  subst eh
  refine goodW_bool F hg (raisesW_false ?_) ?_ ho
  · wrow_none_raised
  · wrow_post

end
section
open PySem.Spec PySem.Calls PyProof.V
structure TFlag : Prop where
  out : True
theorem news_ws {h₀ h : Heap} {L : Addr} {l : List (Addr × Obj)} {ws : List Value} {ns : List Int} {D : Addr} (_ : IntsAre ws ns) (N : News h₀ L h l) (h2 : (D, W.listOf ws.toArray 0) ∈ l) : News h₀ L h [(D, W.listOf ws.toArray 0)] := by
  intro p hp
  rw [List.mem_singleton.mp hp]
  exact N _ h2
theorem law_bounds {a b s : Nat} (h1 : a = min 40 s + (0 + 1)) (h2 : b ≤ min (min 40 s - 1) (s - 1) + 1) : b ≤ a ∧ a ≤ 1000 ∧ b ≤ 1000 := by omega
structure FlagV : Prop where
  t : True
def HeadP (h₀ : Heap) (L : Addr) (m₀ : Str → Option Value) (s s' : Shared) : Prop :=
  ∃ (hd : Int) (t : Tok) (h' : Heap) (tk' : Nat), s' = { s with heap := h', toks := tk' } ∧ TP tk' ∧ Fr h₀ L h' (fun z => if z = Str.ofString "head" then some (.int hd t) else m₀ z) ∧ News h₀ L h' []
theorem head_cut {M : Model} {A : Around} {E : Value → Shared → Prop} {s : Shared} {env : Env} {h₀ : Heap} {L : Addr} {m₀ : Str → Option Value} {Q : Flow → Shared → Prop} {S : Stmt} (_ : Fr h₀ L s.heap m₀)
    (walk : wpAny M A (exec S env) (fun f s' => match f with | .next => HeadP h₀ L m₀ s s' | f => Q f s') E s) (go : ∀ s', HeadP h₀ L m₀ s s' → Q .next s') : wpAny M A (exec S env) Q E s := exec_cut walk go
theorem carried_strs {g : Int → Str} : ∀ {ys : List Value} {ns : List Int}, CarriedAll ys (ns.map fun k => PyData.str (g k)) → ∃ l : List (Str × Tok), ys = strValues l ∧ l.map (·.1) = ns.map g
  | _, [], h => by cases h; exact ⟨[], rfl, rfl⟩
  | _, n :: ns, h => by
    cases h with
    | cons h r =>
      obtain ⟨l, rfl, e⟩ := carried_strs r
      cases h with
      | str x t => exact ⟨(_, t) :: l, rfl, by rw [List.map_cons, List.map_cons, e]⟩
theorem join_ints {prog : Program} {w : World} {A : Around} {E : Value → Shared → Prop} {s : Shared} {t : Tok} {h₀ : Heap} {L : Addr} {news : List (Addr × Obj)} {Q : Value → Shared → Prop} {D : Addr} {ys : List Value} {ns : List Int} {g : Int → Str} (N : News h₀ L s.heap news) (hm : (D, LCg.lst ys) ∈ news) (c : CarriedAll ys (ns.map fun k => PyData.str (g k)))
    (hz : ((ns.map fun k => toL (g k)).flatten).length ≤ 1000000)
    (h : ∀ y t' k, toL y = (ns.map fun k => toL (g k)).flatten → Q (.str y t') { s with toks := k }) : wpAny (model prog w) A (call (.builtin "str.join") [.str (Str.ofString "") t, .ref D]) Q E s := by
  obtain ⟨l, rfl, e⟩ := carried_strs c
  have e2 : (l.map fun p => toL p.1).flatten = (ns.map fun k => toL (g k)).flatten := by
    have : l.map (fun p => toL p.1) = (l.map (·.1)).map toL := by rw [List.map_map]; rfl
    rw [this, e, List.map_map]; rfl
  exact join_abs N hm (by rw [e2]; exact hz) fun y t' k e3 => h y t' k (by rw [e3, e2])
theorem parts_inv {y y1 z : Str} {n : Nat} {A : SA} {σ : SS} {l : List (Str × Tok)} (TO : TextOk y n) (e1 : toL y1 = rn (toL y)) (e2 : toL z = cr (toL y1)) (el : l.map (fun p => p.1) = Txt.split z (Str.ofString ">")) (hal : ∀ a ∈ l.map (fun p => p.1), a.length ≤ z.length) (I : Inv A σ (norm (toL y))) :
    Inv A σ (restOf l 0) ∧ (∀ p ∈ l, Free (toL p.1)) ∧ (∀ p ∈ l, p.1.length ≤ 1000) ∧ (∀ i, (restOf l i).length ≤ 1500) ∧ l.length ≤ n + 1 := by
  have eg : Str.ofString ">" = ⟨#[62]⟩ := by decide +kernel
  rw [eg] at el
  have e3 : toL z = norm (toL y) := norm_len e1 e2
  have hc := parts_count TO e3
  rw [← el, List.length_map] at hc
  have hz : z.length ≤ 1000 := by
    have a := norm_length_le (toL y)
    rw [← e3, toL_length, toL_length] at a
    have := TO.len
    omega
  have q := split_facts z
  rw [← el, List.map_map] at q
  have e4 : restOf l 0 = norm (toL y) := by unfold restOf; rw [List.drop_zero, ← e3]; exact q.1
  refine ⟨by rw [e4]; exact I, ?_, ?_, ?_, hc⟩
  · intro p hp
    exact q.2 _ (List.mem_map.mpr ⟨p, hp, rfl⟩)
  · intro p hp
    exact Nat.le_trans (hal _ (List.mem_map.mpr ⟨p, hp, rfl⟩)) hz
  · intro i
    refine Nat.le_trans (restOf_len l i) ?_
    rw [e4, ← e3, toL_length]
    omega
theorem offBs4 {w : World} {G : TA} {σ : SS} {D : Obj} {It : Nat} {P W oe oi : Obj} {ps ws : Nat} (lt : ∀ p ∈ (ps, P) :: (ws, W) :: prL w G σ D [], p.1 < It) (h1 : OffB G ps) (h2 : OffB G ws) : OffBs G [(ps, P), (ws, W), (It + 1, oe), (It, oi)] := by
  have hdt := lt (G.dt, D) (.tail _ (.tail _ (.tail _ (.head _))))
  have hdx := lt (G.A.dx, dS w G.A σ) (.tail _ (.tail _ (.tail _ (.tail _ (.tail _ (.head _))))))
  have hdtx := lt (G.A.dtx, dT w G.A σ) (.tail _ (.tail _ (.tail _ (.tail _ (.tail _ (.tail _ (.tail _ (.head _))))))))
  intro p hp
  simp only [List.mem_cons, List.not_mem_nil, or_false] at hp
  rcases hp with rfl | rfl | rfl | rfl
  · exact h1
  · exact h2
  · exact ⟨Nat.ne_of_gt (Nat.lt_succ_of_lt hdt), Nat.ne_of_gt (Nat.lt_succ_of_lt hdx), Nat.ne_of_gt (Nat.lt_succ_of_lt hdtx)⟩
  · exact ⟨Nat.ne_of_gt hdt, Nat.ne_of_gt hdx, Nat.ne_of_gt hdtx⟩
section
variable {prog : Program} {w : World} {A' : Around} {h₀ : Heap} {L : Addr} {m : Str → Option Value} {s : Shared} {G : TA} {σ : SS} {D : Obj} {E : Value → Shared → Prop} {news : List (Addr × Obj)}
theorem dget_stream {expr : Bool} {Q : Value → Shared → Prop} (F : Fr h₀ L s.heap m) (X : (Mine.hd.heap_1 w.params).In h₀) (N : News h₀ L s.heap news) (h1 : (G.t, instObj 762 G.dt) ∈ news) (h2 : (G.dt, D) ∈ news) (hD : TokD w G D) (h : Q (.ref G.A.x) { s with toks := s.toks + 1 }) :
    wpAny (model prog w) A' (getAttr (.ref G.t) (Str.ofString "stream") expr) Q E s := by
  rcases hD with ⟨st, cur, rfl⟩ | ⟨q0, u0, g, rfl⟩
  · k_dflt (refine' get_own ?k1 ?k2 (InstAt.of_news N h1 h2) ?k4 ?k5 ?k6 ?k7 ?k8 ?k9 ?_; (case k1 => k_asm); (case k2 => k_asm); (case k4 => k_is); (case k5 => k_is); (case k6 => k_is); (case k7 => k_is); (case k8 => k_get); (case k9 => first | assumption | k_handed); k_whole)
    exact h
  · k_dflt (refine' get_own ?k1 ?k2 (InstAt.of_news N h1 h2) ?k4 ?k5 ?k6 ?k7 ?k8 ?k9 ?_; (case k1 => k_asm); (case k2 => k_asm); (case k4 => k_is); (case k5 => k_is); (case k6 => k_is); (case k7 => k_is); (case k8 => k_get); (case k9 => first | assumption | k_handed); k_whole)
    exact h
end
theorem lawpost_out {w : World} {h₀ : Heap} {L : Addr} {stored : List Str} {m₀ : Str → Option Value} {G : TA} {fr : List (Addr × Obj)} {r : List Nat} {s s' : Shared} (h : LPost w h₀ L stored m₀ G fr r s .next s') :
    ∃ (σ' : SS) (D' : Obj) (h' : Heap) (tk' : Nat) (m' : Str → Option Value), s' = { s with heap := h', toks := tk' } ∧ Fr h₀ L h' m' ∧ (∀ z, stored.contains z = false → m' z = m₀ z) ∧ News h₀ L h' (fr ++ prL w G σ' D' []) ∧ TokD w G D' ∧ Inv G.A σ' r := h
end
theorem main.tw10044588960856096794 : True := trivial
theorem main.tw10047389527955405517 : True := trivial
theorem main.tw10063615490667107986 : True := trivial
theorem main.tw10092017014551392330 : True := trivial
theorem main.tw10094358506670053839 : True := trivial
theorem main.tw10101900104965146230 : True := trivial
theorem main.tw10114013102757674387 : True := trivial
theorem main.tw10123989817122485451 : True := trivial
theorem main.tw10140136200207757160 : True := trivial
theorem main.tw10149618387772673413 : True := trivial
theorem main.tw10159738436595150677 : True := trivial
theorem main.tw10169072693733980587 : True := trivial
theorem main.tw10177057350305019805 : True := trivial
theorem main.tw10199874654664476236 : True := trivial
theorem main.tw10201359505653846880 : True := trivial
theorem main.tw10204856939554784155 : True := trivial
theorem main.tw10210597933619972095 : True := trivial
theorem main.tw10219080375879083632 : True := trivial
theorem main.tw10225356144477167704 : True := trivial
theorem main.tw10234815189450012239 : True := trivial
theorem main.tw10242657825688863476 : True := trivial
theorem main.tw10255180020182114038 : True := trivial
theorem main.tw1027651156746619712 : True := trivial
theorem main.tw10283388844273144081 : True := trivial
theorem main.tw10298723112805639129 : True := trivial
theorem main.tw10363585996791799541 : True := trivial
theorem main.tw10367043833027533253 : True := trivial
theorem main.tw10391951854915411234 : True := trivial
theorem main.tw1041082287264499562 : True := trivial
theorem main.tw10418042200766032776 : True := trivial
theorem main.tw10435530978670571659 : True := trivial
theorem main.tw104360540948158410 : True := trivial
theorem main.tw10450603732522932521 : True := trivial
theorem main.tw10452441009100146310 : True := trivial
theorem main.tw10453263994017694363 : True := trivial
theorem main.tw10455743928339290457 : True := trivial
theorem main.tw10463206416058312583 : True := trivial
theorem main.tw1046443281632482020 : True := trivial
theorem main.tw10474107093616326617 : True := trivial
theorem main.tw10483362588635715401 : True := trivial
theorem main.tw1050151122526681168 : True := trivial
theorem main.tw10542905334921785414 : True := trivial
theorem main.tw1054321117371714560 : True := trivial
theorem main.tw10543740743216835930 : True := trivial
theorem main.tw10554957952762445534 : True := trivial
theorem main.tw10564528347858357063 : True := trivial
theorem main.tw10567084921333377638 : True := trivial
theorem main.tw10625486282989778954 : True := trivial
theorem main.tw10652611922669240339 : True := trivial
theorem main.tw10663580350406149668 : True := trivial
theorem main.tw10665089971535097683 : True := trivial
theorem main.tw10669944970481658594 : True := trivial
theorem main.tw10707853282979444102 : True := trivial
theorem main.tw10717781254789130011 : True := trivial
theorem main.tw10733187975300939785 : True := trivial
theorem main.tw10737556833816505880 : True := trivial
theorem main.tw10750994468655217958 : True := trivial
theorem main.tw10813080517026676716 : True := trivial
theorem main.tw10821422270917381399 : True := trivial
theorem main.tw10825349956297869744 : True := trivial
theorem main.tw10825838108423173272 : True := trivial
theorem main.tw1084220662915027778 : True := trivial
theorem main.tw10864377008497418100 : True := trivial
theorem main.tw10876229203375891673 : True := trivial
theorem main.tw10876375607700338302 : True := trivial
theorem main.tw10877679251791092727 : True := trivial
theorem main.tw10896356407431480244 : True := trivial
theorem main.tw10939538800803721631 : True := trivial
theorem main.tw10953687544409504101 : True := trivial
theorem main.tw1098248734344127483 : True := trivial
theorem main.tw10987386120367425466 : True := trivial
theorem main.tw10992214633131536827 : True := trivial
theorem main.tw1099256609624015869 : True := trivial
theorem main.tw11001617756164336837 : True := trivial
theorem main.tw11003572833241299968 : True := trivial
theorem main.tw11019096307435631222 : True := trivial
theorem main.tw11020365191643786025 : True := trivial
theorem main.tw11026368017406528944 : True := trivial
theorem main.tw11028137302277699333 : True := trivial
theorem main.tw11041547156204584376 : True := trivial
theorem main.tw11041858737867550897 : True := trivial
theorem main.tw11049269918873537771 : True := trivial
theorem main.tw11086099901593105684 : True := trivial
theorem main.tw11092141859048813250 : True := trivial
theorem main.tw11101190512080308003 : True := trivial
theorem main.tw11119146913839337285 : True := trivial
theorem main.tw11120327062377616369 : True := trivial
theorem main.tw11125538497796368324 : True := trivial
theorem main.tw11135027115929721415 : True := trivial
theorem main.tw11156056980113079860 : True := trivial
theorem main.tw1118068078248606362 : True := trivial
theorem main.tw11181722664286889309 : True := trivial
theorem main.tw11183452524601008856 : True := trivial
theorem main.tw11213863890663495067 : True := trivial
theorem main.tw11218778669853930896 : True := trivial
theorem main.tw11225645599760410699 : True := trivial
theorem main.tw11239335112260394413 : True := trivial
theorem main.tw11251407683458634364 : True := trivial
theorem main.tw11261727412033496967 : True := trivial
theorem main.tw1130211791997205004 : True := trivial
theorem main.tw11349898740250378076 : True := trivial
theorem main.tw11387536720948717409 : True := trivial
theorem main.tw11388154006635350966 : True := trivial
theorem main.tw11390293659975261258 : True := trivial
theorem main.tw11399646045708457374 : True := trivial
theorem main.tw11403851563620829512 : True := trivial
theorem main.tw11403970630465759474 : True := trivial
theorem main.tw11405101455947879731 : True := trivial
theorem main.tw11409991511011244131 : True := trivial
theorem main.tw11410963132546700228 : True := trivial
theorem main.tw1142173933681417890 : True := trivial
theorem main.tw11463369355524808266 : True := trivial
theorem main.tw11476092923266045095 : True := trivial
theorem main.tw11487549891475536569 : True := trivial
theorem main.tw11490900464029743698 : True := trivial
theorem main.tw11501822485730972192 : True := trivial
theorem main.tw1150287232629052791 : True := trivial
theorem main.tw11544348965984651327 : True := trivial
theorem main.tw11548542833958708988 : True := trivial
theorem main.tw11554813239044494598 : True := trivial
theorem main.tw1156462466702112376 : True := trivial
theorem main.tw11569609123795461552 : True := trivial
theorem main.tw1157997071576566072 : True := trivial
theorem main.tw11595355409239048105 : True := trivial
theorem main.tw11614346279706655073 : True := trivial
theorem main.tw11646826074482590764 : True := trivial
theorem main.tw11670399090076514202 : True := trivial
theorem main.tw11676816360460091147 : True := trivial
theorem main.tw11689664321512496715 : True := trivial
theorem main.tw11707585526205722907 : True := trivial
theorem main.tw11710404883906591787 : True := trivial
theorem main.tw11712081513822626495 : True := trivial
theorem main.tw11716418206903941319 : True := trivial
theorem main.tw11725999154989108132 : True := trivial
theorem main.tw11728771520666845194 : True := trivial
theorem main.tw11735423636902730196 : True := trivial
theorem main.tw11774690029378154688 : True := trivial
theorem main.tw11785714552879321826 : True := trivial
theorem main.tw1178595665728414349 : True := trivial
theorem main.tw11789403723227289746 : True := trivial
theorem main.tw1179421589518002546 : True := trivial
theorem main.tw11814867827210800679 : True := trivial
theorem main.tw11815829001073249272 : True := trivial
theorem main.tw11904941031934877020 : True := trivial
theorem main.tw1191263595243908205 : True := trivial
theorem main.tw11916895729686876088 : True := trivial
theorem main.tw11923525502935528744 : True := trivial
theorem main.tw11933201153402537488 : True := trivial
theorem main.tw11962923498438245051 : True := trivial
theorem main.tw11967333016625521393 : True := trivial
theorem main.tw11982392923317675503 : True := trivial
theorem main.tw1198661942849946583 : True := trivial
theorem main.tw11987853993630220354 : True := trivial
theorem main.tw12027323910402764344 : True := trivial
theorem main.tw12077450504624328385 : True := trivial
theorem main.tw12093647306153771053 : True := trivial
theorem main.tw12106859168716417752 : True := trivial
theorem main.tw1211270941048087907 : True := trivial
theorem main.tw12130321265151566525 : True := trivial
theorem main.tw12134908399292295839 : True := trivial
theorem main.tw12139096438432415106 : True := trivial
theorem main.tw1216228984421328439 : True := trivial
theorem main.tw12205347405646519318 : True := trivial
theorem main.tw12222963475772708484 : True := trivial
theorem main.tw12245857906982125569 : True := trivial
theorem main.tw12247406853277913960 : True := trivial
theorem main.tw12252054271945606052 : True := trivial
theorem main.tw12273490649430754879 : True := trivial
theorem main.tw12298629886278197574 : True := trivial
theorem main.tw12304082900475741265 : True := trivial
theorem main.tw12332102779922042578 : True := trivial
theorem main.tw12338497608069007261 : True := trivial
theorem main.tw12346658559823942425 : True := trivial
theorem main.tw12361340156312767134 : True := trivial
theorem main.tw1242282695825638017 : True := trivial
theorem main.tw12429675835336498981 : True := trivial
theorem main.tw12431561837914552411 : True := trivial
theorem main.tw12431731261707249289 : True := trivial
theorem main.tw12450111651097656602 : True := trivial
theorem main.tw12455012482086183272 : True := trivial
theorem main.tw12463224122652932544 : True := trivial
theorem main.tw12483276189755474720 : True := trivial
theorem main.tw12518504611687188807 : True := trivial
theorem main.tw12519306246395310219 : True := trivial
theorem main.tw12543713266681445118 : True := trivial
theorem main.tw1255815211270559930 : True := trivial
theorem main.tw12564604832814323664 : True := trivial
theorem main.tw12570134572688502250 : True := trivial
theorem main.tw12574995316784493246 : True := trivial
theorem main.tw12582173479537470380 : True := trivial
theorem main.tw12590340796369385619 : True := trivial
theorem main.tw12594366453804578888 : True := trivial
theorem main.tw12608185968620612914 : True := trivial
theorem main.tw1261021989165538067 : True := trivial
theorem main.tw12623159325031504133 : True := trivial
theorem main.tw12646911602827044314 : True := trivial
theorem main.tw12653679108036650311 : True := trivial
theorem main.tw12667108692942931566 : True := trivial
theorem main.tw12675357926760492328 : True := trivial
theorem main.tw12681957500809781501 : True := trivial
theorem main.tw12692632004510240207 : True := trivial
theorem main.tw1269329923203890863 : True := trivial
theorem main.tw1270039299266317192 : True := trivial
theorem main.tw12702744160499308131 : True := trivial
theorem main.tw12732289081945773324 : True := trivial
theorem main.tw12741544251441588921 : True := trivial
theorem main.tw12747388180105724736 : True := trivial
theorem main.tw12748397558918655664 : True := trivial
theorem main.tw12751799325998411230 : True := trivial
theorem main.tw12755441557018050348 : True := trivial
theorem main.tw1277820614484962519 : True := trivial
theorem main.tw12800608258095302798 : True := trivial
theorem main.tw12839114828313443825 : True := trivial
theorem main.tw12867379429370454646 : True := trivial
theorem main.tw12870486517592710932 : True := trivial
theorem main.tw12885385263037960081 : True := trivial
theorem main.tw1289389943133740499 : True := trivial
theorem main.tw12900284412222446716 : True := trivial
theorem main.tw12909650291622432550 : True := trivial
theorem main.tw12915833801598196605 : True := trivial
theorem main.tw12922898485456448571 : True := trivial
theorem main.tw12927740378394474205 : True := trivial
theorem main.tw12941917028564957548 : True := trivial
theorem main.tw12942913107403878096 : True := trivial
theorem main.tw12959741745000181155 : True := trivial
theorem main.tw12969983923199422630 : True := trivial
theorem main.tw12974819211118642341 : True := trivial
theorem main.tw12986061983710234785 : True := trivial
theorem main.tw12987577155417789579 : True := trivial
theorem main.tw12992176717851604617 : True := trivial
theorem main.tw1306636233014830658 : True := trivial
theorem main.tw13077236301305049449 : True := trivial
theorem main.tw13110577991587790113 : True := trivial
theorem main.tw13110970153573199417 : True := trivial
theorem main.tw13113777628852026922 : True := trivial
theorem main.tw13116522157475607773 : True := trivial
theorem main.tw13132915859168520264 : True := trivial
theorem main.tw13148611719377898607 : True := trivial
theorem main.tw13154001654789283132 : True := trivial
theorem main.tw13157206579259725088 : True := trivial
theorem main.tw13180746182150919023 : True := trivial
theorem main.tw13187166440333854079 : True := trivial
theorem main.tw1318968915056948652 : True := trivial
theorem main.tw13194694976546938235 : True := trivial
theorem main.tw1319676515408343850 : True := trivial
theorem main.tw13227692790652741651 : True := trivial
theorem main.tw13255245976751338989 : True := trivial
theorem main.tw13260870731297125680 : True := trivial
theorem main.tw13270728482189477470 : True := trivial
theorem main.tw13293747886898857621 : True := trivial
theorem main.tw13306352142949925410 : True := trivial
theorem main.tw13313126695403321540 : True := trivial
theorem main.tw13348322127785295214 : True := trivial
theorem main.tw13350764725976880583 : True := trivial
theorem main.tw13355152605343272895 : True := trivial
theorem main.tw1336659820572712380 : True := trivial
theorem main.tw13406003279186336099 : True := trivial
theorem main.tw13429379312604010019 : True := trivial
theorem main.tw13447304073604360266 : True := trivial
theorem main.tw13503263706703578961 : True := trivial
theorem main.tw13514204307011423542 : True := trivial
theorem main.tw13532707612510029741 : True := trivial
theorem main.tw13547569757486424058 : True := trivial
theorem main.tw1355085073191494161 : True := trivial
theorem main.tw13565518394914824834 : True := trivial
theorem main.tw13572980719466306388 : True := trivial
theorem main.tw13590572293223372214 : True := trivial
theorem main.tw13591255225166038476 : True := trivial
theorem main.tw13597483153833180358 : True := trivial
theorem main.tw13626721169425172152 : True := trivial
theorem main.tw13642826006792871662 : True := trivial
theorem main.tw13667920496262714385 : True := trivial
theorem main.tw13676971244355772609 : True := trivial
theorem main.tw13689083923384677848 : True := trivial
theorem main.tw13713940216889387898 : True := trivial
theorem main.tw1372806426800153423 : True := trivial
theorem main.tw13738235750113832370 : True := trivial
theorem main.tw13777938177461255882 : True := trivial
theorem main.tw13797323745857372409 : True := trivial
theorem main.tw13803360072150633466 : True := trivial
theorem main.tw1390771862084280389 : True := trivial
theorem main.tw13914785722749861914 : True := trivial
theorem main.tw13934608090901567409 : True := trivial
theorem main.tw13962693860625380366 : True := trivial
theorem main.tw13965128551521907918 : True := trivial
theorem main.tw13972245371655741198 : True := trivial
theorem main.tw13974046611088194958 : True := trivial
theorem main.tw13978478705568000493 : True := trivial
theorem main.tw13980345723018547825 : True := trivial
theorem main.tw13989496423458381343 : True := trivial
theorem main.tw13995172100960836882 : True := trivial
theorem main.tw14009396871252706886 : True := trivial
theorem main.tw14011416340940902608 : True := trivial
theorem main.tw14020873708864708748 : True := trivial
theorem main.tw1402309974066972641 : True := trivial
theorem main.tw14027531716089632829 : True := trivial
theorem main.tw14027650596787315314 : True := trivial
theorem main.tw14060465935940456498 : True := trivial
theorem main.tw14064073609400967072 : True := trivial
theorem main.tw14080665800827857628 : True := trivial
theorem main.tw14097447854668400296 : True := trivial
theorem main.tw1409966394225722968 : True := trivial
theorem main.tw14106445559736802775 : True := trivial
theorem main.tw14136325212780177784 : True := trivial
theorem main.tw1415428593365352553 : True := trivial
theorem main.tw14161005256144132680 : True := trivial
theorem main.tw14161465996007527954 : True := trivial
theorem main.tw14168887731352723522 : True := trivial
theorem main.tw14189775397120135147 : True := trivial
theorem main.tw14216407083858561409 : True := trivial
theorem main.tw14235155234550121937 : True := trivial
theorem main.tw14286279103370969706 : True := trivial
theorem main.tw1429040668314091153 : True := trivial
theorem main.tw14313061170024940013 : True := trivial
theorem main.tw14313897822631088780 : True := trivial
theorem main.tw14327529596952217943 : True := trivial
theorem main.tw14336716466608126219 : True := trivial
theorem main.tw14364048958407549093 : True := trivial
theorem main.tw14368271195830560734 : True := trivial
theorem main.tw14377180257169084997 : True := trivial
theorem main.tw14390754486103292620 : True := trivial
theorem main.tw1439166485080882 : True := trivial
theorem main.tw14406990849044604362 : True := trivial
theorem main.tw14439473939278146460 : True := trivial
theorem main.tw14443092014599818573 : True := trivial
theorem main.tw14457758005677747962 : True := trivial
theorem main.tw14489535830319231195 : True := trivial
theorem main.tw14504180641510445567 : True := trivial
theorem main.tw1453356044741674121 : True := trivial
theorem main.tw14535484193269619989 : True := trivial
theorem main.tw14539993770535171780 : True := trivial
theorem main.tw1454224541498743561 : True := trivial
theorem main.tw14554314840745968623 : True := trivial
theorem main.tw14562738103837258888 : True := trivial
theorem main.tw14635473669698735251 : True := trivial
theorem main.tw14636892021812066514 : True := trivial
theorem main.tw14637806741061077295 : True := trivial
theorem main.tw14639212616227390028 : True := trivial
theorem main.tw14640416626631428029 : True := trivial
theorem main.tw14662554035588321541 : True := trivial
theorem main.tw14666387041718499266 : True := trivial
theorem main.tw14672674291997333471 : True := trivial
theorem main.tw14698241182937546978 : True := trivial
theorem main.tw14713023043418418522 : True := trivial
theorem main.tw14722489848711283861 : True := trivial
theorem main.tw14755733875199540201 : True := trivial
theorem main.tw14759895335926876869 : True := trivial
theorem main.tw14788915703135433725 : True := trivial
theorem main.tw14798791472264738832 : True := trivial
theorem main.tw14805756002866571830 : True := trivial
theorem main.tw14806125269305119590 : True := trivial
theorem main.tw14814594519894181452 : True := trivial
theorem main.tw14864636224205547913 : True := trivial
theorem main.tw14864641218109852296 : True := trivial
theorem main.tw14893090268090260817 : True := trivial
theorem main.tw14907226015203709474 : True := trivial
theorem main.tw14909365282108701170 : True := trivial
theorem main.tw14925635105145352654 : True := trivial
theorem main.tw14962632401376961426 : True := trivial
theorem main.tw1496695287857109588 : True := trivial
theorem main.tw14992222465124788362 : True := trivial
theorem main.tw15017983477296125989 : True := trivial
theorem main.tw15022946984557111684 : True := trivial
theorem main.tw15023316991559800185 : True := trivial
theorem main.tw1504049600530537962 : True := trivial
theorem main.tw15059693217772790739 : True := trivial
theorem main.tw15060185592220127646 : True := trivial
theorem main.tw15079240505294077160 : True := trivial
theorem main.tw15087427406127887449 : True := trivial
theorem main.tw15097543051748444868 : True := trivial
theorem main.tw15098031235356848795 : True := trivial
theorem main.tw15109750227778091905 : True := trivial
theorem main.tw15136431859952498927 : True := trivial
theorem main.tw15140838672463199983 : True := trivial
theorem main.tw1519927702969063271 : True := trivial
theorem main.tw1519992759497675636 : True := trivial
theorem main.tw15244097889725654702 : True := trivial
theorem main.tw15270170921892066516 : True := trivial
theorem main.tw15277975159832343749 : True := trivial
theorem main.tw15282798724139172088 : True := trivial
theorem main.tw15294211896409635767 : True := trivial
theorem main.tw15303317825217679618 : True := trivial
theorem main.tw15312040371321221727 : True := trivial
theorem main.tw15312394840280087653 : True := trivial
theorem main.tw15326346284793698685 : True := trivial
theorem main.tw15350898050860989542 : True := trivial
theorem main.tw15425874342098770709 : True := trivial
theorem main.tw15432235134303409840 : True := trivial
theorem main.tw15438212644395081984 : True := trivial
theorem main.tw1544020853599562407 : True := trivial
theorem main.tw15445229340043853549 : True := trivial
theorem main.tw15461212566085484399 : True := trivial
theorem main.tw15465920861327815835 : True := trivial
theorem main.tw1548279923187021627 : True := trivial
theorem main.tw15485851114877660061 : True := trivial
theorem main.tw15491723280356408159 : True := trivial
theorem main.tw15510692781650021527 : True := trivial
theorem main.tw1552421926411342777 : True := trivial
theorem main.tw15540984915698410164 : True := trivial
theorem main.tw15554039934745177238 : True := trivial
theorem main.tw15558288988949320067 : True := trivial
theorem main.tw15565075772751903193 : True := trivial
theorem main.tw15575723056732996420 : True := trivial
theorem main.tw15579395750891953841 : True := trivial
theorem main.tw15580989882048331800 : True := trivial
theorem main.tw15589955886551607785 : True := trivial
theorem main.tw15593309334025535782 : True := trivial
theorem main.tw15595112118272840620 : True := trivial
theorem main.tw15606653302220566414 : True := trivial
theorem main.tw15608450976537380609 : True := trivial
theorem main.tw15616401959046598769 : True := trivial
theorem main.tw15624239662980076321 : True := trivial
theorem main.tw15631942387314964779 : True := trivial
theorem main.tw15642941266545998023 : True := trivial
theorem main.tw15643365686152983790 : True := trivial
theorem main.tw15670109119070698982 : True := trivial
theorem main.tw15672986146971166658 : True := trivial
theorem main.tw15684375888932747349 : True := trivial
theorem main.tw15688281317961992914 : True := trivial
theorem main.tw15734660467963936456 : True := trivial
theorem main.tw15737690656516749961 : True := trivial
theorem main.tw15768048840197415361 : True := trivial
theorem main.tw15803610866087392283 : True := trivial
theorem main.tw15810667371194948217 : True := trivial
theorem main.tw1587290215689348708 : True := trivial
theorem main.tw1590763530083325563 : True := trivial
theorem main.tw15949526494057022110 : True := trivial
theorem main.tw15950006927108054178 : True := trivial
theorem main.tw15955573374722617477 : True := trivial
theorem main.tw15957597259013190341 : True := trivial
theorem main.tw15970538086172389420 : True := trivial
theorem main.tw15984706205718930553 : True := trivial
theorem main.tw16008252555379753968 : True := trivial
theorem main.tw16008457594558532635 : True := trivial
theorem main.tw16022572192331126682 : True := trivial
theorem main.tw16026775910206950810 : True := trivial
theorem main.tw16033097090804400913 : True := trivial
theorem main.tw16049902774474827687 : True := trivial
theorem main.tw16057503054469045564 : True := trivial
theorem main.tw1606137496264982490 : True := trivial
theorem main.tw16097269412956081036 : True := trivial
theorem main.tw1610520696219057239 : True := trivial
theorem main.tw16128220689672181975 : True := trivial
theorem main.tw16135426469972691074 : True := trivial
theorem main.tw16136984950599521427 : True := trivial
theorem main.tw16142765227538719955 : True := trivial
theorem main.tw1615045767204293396 : True := trivial
theorem main.tw16153351446899991344 : True := trivial
theorem main.tw16153842264607907944 : True := trivial
theorem main.tw16170375726192610265 : True := trivial
theorem main.tw16187894506366716058 : True := trivial
theorem main.tw161903638078081290 : True := trivial
theorem main.tw16193401482309157537 : True := trivial
theorem main.tw16218864148678617972 : True := trivial
theorem main.tw16235428439501865183 : True := trivial
theorem main.tw16251939892948500945 : True := trivial
theorem main.tw1628013610222277130 : True := trivial
theorem main.tw16292202817602668162 : True := trivial
theorem main.tw16320215318167395912 : True := trivial
theorem main.tw1632041292262086317 : True := trivial
theorem main.tw16320729459185622934 : True := trivial
theorem main.tw16332121612629036173 : True := trivial
theorem main.tw16338599768312175441 : True := trivial
theorem main.tw16355746345580011080 : True := trivial
theorem main.tw16357356043003861740 : True := trivial
theorem main.tw16396084126727719574 : True := trivial
theorem main.tw16411370214107742406 : True := trivial
theorem main.tw16451033083921036709 : True := trivial
theorem main.tw16452447596832230105 : True := trivial
theorem main.tw16480584520131690045 : True := trivial
theorem main.tw16501172079758305675 : True := trivial
theorem main.tw16508919721030705984 : True := trivial
theorem main.tw16544489699163171333 : True := trivial
theorem main.tw16629339528299215175 : True := trivial
theorem main.tw16651728564920304373 : True := trivial
theorem main.tw16676564476587882173 : True := trivial
theorem main.tw16688187236449151857 : True := trivial
theorem main.tw16689149305811164139 : True := trivial
theorem main.tw16721930046160240684 : True := trivial
theorem main.tw16723884430069596700 : True := trivial
theorem main.tw16757190730947197508 : True := trivial
theorem main.tw16765925921980633802 : True := trivial
theorem main.tw16778611742570070204 : True := trivial
theorem main.tw16784772322866675431 : True := trivial
theorem main.tw1678875084529416142 : True := trivial
theorem main.tw16790050636404226231 : True := trivial
theorem main.tw16798207577519904205 : True := trivial
theorem main.tw16806246253224384389 : True := trivial
theorem main.tw16817993663026736274 : True := trivial
theorem main.tw16819838333489098493 : True := trivial
theorem main.tw16826212616301561204 : True := trivial
theorem main.tw16832360635688203351 : True := trivial
theorem main.tw16863156106696720372 : True := trivial
theorem main.tw16891041157754790011 : True := trivial
theorem main.tw16922381011570985944 : True := trivial
theorem main.tw16923884221124529275 : True := trivial
theorem main.tw16932134980577923087 : True := trivial
theorem main.tw16950194794029067938 : True := trivial
theorem main.tw16952715711813285254 : True := trivial
theorem main.tw16959884160788844718 : True := trivial
theorem main.tw16965079339398995527 : True := trivial
theorem main.tw16989488325979979065 : True := trivial
theorem main.tw17016820405989369747 : True := trivial
theorem main.tw17025424565251489684 : True := trivial
theorem main.tw17028514697001254897 : True := trivial
theorem main.tw17035731627637430848 : True := trivial
theorem main.tw17052023290607921161 : True := trivial
theorem main.tw17057053908230417247 : True := trivial
theorem main.tw17067035981215421688 : True := trivial
theorem main.tw1707505545463187130 : True := trivial
theorem main.tw17096532924672817327 : True := trivial
theorem main.tw17110241357884498264 : True := trivial
theorem main.tw17118054049896295152 : True := trivial
theorem main.tw17128291446047057950 : True := trivial
theorem main.tw17128476026691140212 : True := trivial
theorem main.tw17144978775634262171 : True := trivial
theorem main.tw17147588175821073265 : True := trivial
theorem main.tw17185042187573640451 : True := trivial
theorem main.tw17201416709059790184 : True := trivial
theorem main.tw17223442867436993403 : True := trivial
theorem main.tw17227442419121036007 : True := trivial
theorem main.tw17236958762192778904 : True := trivial
theorem main.tw17262041522474090127 : True := trivial
theorem main.tw17268439761433841065 : True := trivial
theorem main.tw17272174723667511238 : True := trivial
theorem main.tw17275675667316583603 : True := trivial
theorem main.tw17290568124846718506 : True := trivial
theorem main.tw17292155258170135553 : True := trivial
theorem main.tw17297283025540448806 : True := trivial
theorem main.tw17298271098590275757 : True := trivial
theorem main.tw17298425922696826006 : True := trivial
theorem main.tw17353955331779342651 : True := trivial
theorem main.tw17403364634526059139 : True := trivial
theorem main.tw17413556829735388813 : True := trivial
theorem main.tw17413806152003534235 : True := trivial
theorem main.tw17431719831054627609 : True := trivial
theorem main.tw17445186720391901401 : True := trivial
theorem main.tw17450470499104002142 : True := trivial
theorem main.tw17453503289922162039 : True := trivial
theorem main.tw17456035664235451855 : True := trivial
theorem main.tw17477492558424962760 : True := trivial
theorem main.tw17495560712657236704 : True := trivial
theorem main.tw17563168436475441343 : True := trivial
theorem main.tw17600866488970185278 : True := trivial
theorem main.tw17644181745481072423 : True := trivial
theorem main.tw17647351573629430322 : True := trivial
theorem main.tw17659147809683748901 : True := trivial
theorem main.tw17679725944135375923 : True := trivial
theorem main.tw17699438841360665129 : True := trivial
theorem main.tw17708487481403421675 : True := trivial
theorem main.tw17715262827843222689 : True := trivial
theorem main.tw17726818538635551376 : True := trivial
theorem main.tw17734603463515337306 : True := trivial
theorem main.tw17737603089517620647 : True := trivial
theorem main.tw17749094844149355310 : True := trivial
theorem main.tw17767330081159143506 : True := trivial
theorem main.tw1777545030009416734 : True := trivial
theorem main.tw1781223760143429554 : True := trivial
theorem main.tw17864028415675338326 : True := trivial
theorem main.tw17871620999419790863 : True := trivial
theorem main.tw17904854198161793398 : True := trivial
theorem main.tw17906638245316424091 : True := trivial
theorem main.tw17920292393507637884 : True := trivial
theorem main.tw17958375852430007124 : True := trivial
theorem main.tw17974016328880235120 : True := trivial
theorem main.tw1800746815547063501 : True := trivial
theorem main.tw18029164874364165131 : True := trivial
theorem main.tw18031918436515192882 : True := trivial
theorem main.tw18046886581883190830 : True := trivial
theorem main.tw18063282731904131703 : True := trivial
theorem main.tw18120430973489738927 : True := trivial
theorem main.tw18134284020713443437 : True := trivial
theorem main.tw18162592725011693541 : True := trivial
theorem main.tw18165044119631177899 : True := trivial
theorem main.tw18178676814319149831 : True := trivial
theorem main.tw18190005008629794160 : True := trivial
theorem main.tw18238007617527299592 : True := trivial
theorem main.tw1826329307503635854 : True := trivial
theorem main.tw18284262389922463811 : True := trivial
theorem main.tw18288009448212308685 : True := trivial
theorem main.tw18314829044154829275 : True := trivial
theorem main.tw18315214858253571532 : True := trivial
theorem main.tw18317609476662902477 : True := trivial
theorem main.tw18325589031809861271 : True := trivial
theorem main.tw18328743936084910167 : True := trivial
theorem main.tw18331221812102454955 : True := trivial
theorem main.tw18342001204779339714 : True := trivial
theorem main.tw18344032359734412310 : True := trivial
theorem main.tw18385570937342765463 : True := trivial
theorem main.tw18392154025008590481 : True := trivial
theorem main.tw18403998269306519403 : True := trivial
theorem main.tw18421580907717582127 : True := trivial
theorem main.tw18431692314602308842 : True := trivial
theorem main.tw18442785490491869365 : True := trivial
theorem main.tw1850612553970854742 : True := trivial
theorem main.tw1886080085820668685 : True := trivial
theorem main.tw1980160206288974728 : True := trivial
theorem main.tw2007339730380871907 : True := trivial
theorem main.tw2019394398466159022 : True := trivial
theorem main.tw2021556316718937628 : True := trivial
theorem main.tw2033968301974640842 : True := trivial
theorem main.tw2039954845988140816 : True := trivial
theorem main.tw2058021452347087232 : True := trivial
theorem main.tw2085318621824738512 : True := trivial
theorem main.tw2110754180369666209 : True := trivial
theorem main.tw2127038452521536779 : True := trivial
theorem main.tw2136821422063795447 : True := trivial
theorem main.tw2156145737304315219 : True := trivial
theorem main.tw2173562974560187446 : True := trivial
theorem main.tw2190695567426971638 : True := trivial
theorem main.tw221909299271738847 : True := trivial
theorem main.tw2225892363528398861 : True := trivial
theorem main.tw223528310411579522 : True := trivial
theorem main.tw2278972029675796859 : True := trivial
theorem main.tw2279707942289718827 : True := trivial
theorem main.tw2287093442842179507 : True := trivial
theorem main.tw2287757881348798766 : True := trivial
theorem main.tw2341703837736514645 : True := trivial
theorem main.tw2343935838158425641 : True := trivial
theorem main.tw234599468654550697 : True := trivial
theorem main.tw2373237607127697691 : True := trivial
theorem main.tw2399826469436781019 : True := trivial
theorem main.tw2402762420636078793 : True := trivial
theorem main.tw2406621943657119228 : True := trivial
theorem main.tw2433702464844828792 : True := trivial
theorem main.tw2442773178527959075 : True := trivial
theorem main.tw244467455267321384 : True := trivial
theorem main.tw245345280340631454 : True := trivial
theorem main.tw2456247091588846565 : True := trivial
theorem main.tw2484414159333256978 : True := trivial
theorem main.tw2496676261509829067 : True := trivial
theorem main.tw2538046985915079169 : True := trivial
theorem main.tw2542808073141276813 : True := trivial
theorem main.tw2544328076492683441 : True := trivial
theorem main.tw2555861160798251974 : True := trivial
theorem main.tw2564707057010578714 : True := trivial
theorem main.tw2566753976717531306 : True := trivial
theorem main.tw2583023086579268501 : True := trivial
theorem main.tw2599750674813586877 : True := trivial
theorem main.tw2629084897520917108 : True := trivial
theorem main.tw2647654807098235363 : True := trivial
theorem main.tw2653321512126949328 : True := trivial
theorem main.tw2672093188730551128 : True := trivial
theorem main.tw2675658811408624930 : True := trivial
theorem main.tw2702614204127132176 : True := trivial
theorem main.tw2704602940660078815 : True := trivial
theorem main.tw270496394426124508 : True := trivial
theorem main.tw2709746457059553413 : True := trivial
theorem main.tw2714283472998740243 : True := trivial
theorem main.tw2724176850512262202 : True := trivial
theorem main.tw2729793432009153956 : True := trivial
theorem main.tw2744014450722944760 : True := trivial
theorem main.tw2759098988195820126 : True := trivial
theorem main.tw2794983428953441941 : True := trivial
theorem main.tw2821470743931037460 : True := trivial
theorem main.tw2847738043507502446 : True := trivial
theorem main.tw2855982326401850692 : True := trivial
theorem main.tw2895952525429962455 : True := trivial
theorem main.tw2900998541784483753 : True := trivial
theorem main.tw2906824675625879941 : True := trivial
theorem main.tw2921621734765799159 : True := trivial
theorem main.tw2921958311620399285 : True := trivial
theorem main.tw2923286348875671695 : True := trivial
theorem main.tw2923326968966308885 : True := trivial
theorem main.tw2965820268544440810 : True := trivial
theorem main.tw302440914744352476 : True := trivial
theorem main.tw3027586509356016917 : True := trivial
theorem main.tw3033261876257692807 : True := trivial
theorem main.tw3056878081241006185 : True := trivial
theorem main.tw3078062877239007290 : True := trivial
theorem main.tw3136416535801588117 : True := trivial
theorem main.tw3137596982192898869 : True := trivial
theorem main.tw3160845607165458772 : True := trivial
theorem main.tw31828345220925962 : True := trivial
theorem main.tw3197156666308221516 : True := trivial
theorem main.tw3203809635103463919 : True := trivial
theorem main.tw3220561703981169602 : True := trivial
theorem main.tw3222223853247747169 : True := trivial
theorem main.tw3234112476842188716 : True := trivial
theorem main.tw3288582142898991060 : True := trivial
theorem main.tw3298483428156984901 : True := trivial
theorem main.tw3299218664060906527 : True := trivial
theorem main.tw3305931106042330821 : True := trivial
theorem main.tw3314904115985164895 : True := trivial
theorem main.tw3342365933539840098 : True := trivial
theorem main.tw3343439749351644125 : True := trivial
theorem main.tw33456957511925785 : True := trivial
theorem main.tw3370190323706015969 : True := trivial
theorem main.tw3374421720907634814 : True := trivial
theorem main.tw3394367416137920725 : True := trivial
theorem main.tw3404965551341049163 : True := trivial
theorem main.tw341453280667917650 : True := trivial
theorem main.tw3422715526262721465 : True := trivial
theorem main.tw3464005467892915075 : True := trivial
theorem main.tw3466206800631347469 : True := trivial
theorem main.tw3485684062173492111 : True := trivial
theorem main.tw3491332818749588091 : True := trivial
theorem main.tw3544752959273917758 : True := trivial
theorem main.tw3549514262204291990 : True := trivial
theorem main.tw3562595001068472590 : True := trivial
theorem main.tw3583811862363856187 : True := trivial
theorem main.tw358491910552652209 : True := trivial
theorem main.tw3609762217373132089 : True := trivial
theorem main.tw3613476055612923068 : True := trivial
theorem main.tw3626430660855392483 : True := trivial
theorem main.tw3627144658338631552 : True := trivial
theorem main.tw3635900802997115186 : True := trivial
theorem main.tw3706830351922483016 : True := trivial
theorem main.tw3714520120236048840 : True := trivial
theorem main.tw3724484323120607773 : True := trivial
theorem main.tw372505627349444580 : True := trivial
theorem main.tw3731879374237491455 : True := trivial
theorem main.tw3748114642381145586 : True := trivial
theorem main.tw3750506576032048294 : True := trivial
theorem main.tw379899607457092286 : True := trivial
theorem main.tw3864431920445960829 : True := trivial
theorem main.tw3867218068155391060 : True := trivial
theorem main.tw387501639795913443 : True := trivial
theorem main.tw3881243767933311072 : True := trivial
theorem main.tw3905226178654972811 : True := trivial
theorem main.tw3911810758690780188 : True := trivial
theorem main.tw3985830497718990404 : True := trivial
theorem main.tw3994622017586750766 : True := trivial
theorem main.tw4034048572721927537 : True := trivial
theorem main.tw4036238207498611232 : True := trivial
theorem main.tw4039676971129161736 : True := trivial
theorem main.tw4044139247061151142 : True := trivial
theorem main.tw4046449949787424452 : True := trivial
theorem main.tw4047586217144654443 : True := trivial
theorem main.tw4088224383575840552 : True := trivial
theorem main.tw4124465007535222370 : True := trivial
theorem main.tw4139100593308808776 : True := trivial
theorem main.tw4156125974679941130 : True := trivial
theorem main.tw4156893749530806270 : True := trivial
theorem main.tw4189750870438640210 : True := trivial
theorem main.tw4193505271845495863 : True := trivial
theorem main.tw4210618832060959676 : True := trivial
theorem main.tw4216741518440994707 : True := trivial
theorem main.tw4244067443239231564 : True := trivial
theorem main.tw4297412468100583042 : True := trivial
theorem main.tw4310270188432123100 : True := trivial
theorem main.tw4324958949535026087 : True := trivial
theorem main.tw432790634136133436 : True := trivial
theorem main.tw4330594992337426955 : True := trivial
theorem main.tw4333880214566435006 : True := trivial
theorem main.tw4350604851675314991 : True := trivial
theorem main.tw4359638763739663684 : True := trivial
theorem main.tw4365514962571936147 : True := trivial
theorem main.tw4370134204219402791 : True := trivial
theorem main.tw4370652028205933106 : True := trivial
theorem main.tw4385281892830598654 : True := trivial
theorem main.tw4409510580461579534 : True := trivial
theorem main.tw4413345314126155841 : True := trivial
theorem main.tw4420394385881154636 : True := trivial
theorem main.tw4452170602077327944 : True := trivial
theorem main.tw4475767826048309731 : True := trivial
theorem main.tw4491334807805099456 : True := trivial
theorem main.tw4500915450034043215 : True := trivial
theorem main.tw4502447428920916452 : True := trivial
theorem main.tw451873465583785326 : True := trivial
theorem main.tw452746233719593009 : True := trivial
theorem main.tw453184122279072053 : True := trivial
theorem main.tw4540862073306924251 : True := trivial
theorem main.tw4561105241695004074 : True := trivial
theorem main.tw4585930131862741453 : True := trivial
theorem main.tw4587069139193485165 : True := trivial
theorem main.tw4630824681090250767 : True := trivial
theorem main.tw4637267157515435788 : True := trivial
theorem main.tw4638281056170512193 : True := trivial
theorem main.tw4650958065196391918 : True := trivial
theorem main.tw4651154628705390771 : True := trivial
theorem main.tw4681395471914393968 : True := trivial
theorem main.tw470481871638761223 : True := trivial
theorem main.tw471287901995484742 : True := trivial
theorem main.tw4719957520787936630 : True := trivial
theorem main.tw474381771622712015 : True := trivial
theorem main.tw4749052000479324790 : True := trivial
theorem main.tw4784553394551972577 : True := trivial
theorem main.tw480701840831765632 : True := trivial
theorem main.tw4812270449578504274 : True := trivial
theorem main.tw4817600198373253283 : True := trivial
theorem main.tw4838787530573997063 : True := trivial
theorem main.tw4839478117068044826 : True := trivial
theorem main.tw4871624949866520906 : True := trivial
theorem main.tw4887914996728235509 : True := trivial
theorem main.tw4900431672193113347 : True := trivial
theorem main.tw4908570168794737769 : True := trivial
theorem main.tw4917070330192852093 : True := trivial
theorem main.tw4924694640843408985 : True := trivial
theorem main.tw4926259647451002352 : True := trivial
theorem main.tw4946776927847147119 : True := trivial
theorem main.tw4948327476702027199 : True := trivial
theorem main.tw495442525896006271 : True := trivial
theorem main.tw4966469486753893531 : True := trivial
theorem main.tw49674306023711395 : True := trivial
theorem main.tw4967792270526972898 : True := trivial
theorem main.tw4977165927707633593 : True := trivial
theorem main.tw4990475226369331113 : True := trivial
theorem main.tw5004366561265856203 : True := trivial
theorem main.tw5010051100324977839 : True := trivial
theorem main.tw5061512775090418087 : True := trivial
theorem main.tw5084117380071580128 : True := trivial
theorem main.tw5102693214775723256 : True := trivial
theorem main.tw5102715291955495162 : True := trivial
theorem main.tw5104194264097766351 : True := trivial
theorem main.tw5160751907100791332 : True := trivial
theorem main.tw5181119749688162637 : True := trivial
theorem main.tw5203219222101121401 : True := trivial
theorem main.tw52199770228462824 : True := trivial
theorem main.tw5234446048077146213 : True := trivial
theorem main.tw5240536507193477226 : True := trivial
theorem main.tw5240779543111244032 : True := trivial
theorem main.tw526373878138232175 : True := trivial
theorem main.tw5287059835090251167 : True := trivial
theorem main.tw5289026146741335887 : True := trivial
theorem main.tw5303952258864922383 : True := trivial
theorem main.tw5309058905264134205 : True := trivial
theorem main.tw5343319030673445083 : True := trivial
theorem main.tw5352104535322881683 : True := trivial
theorem main.tw5363903885879670357 : True := trivial
theorem main.tw5372645768047454471 : True := trivial
theorem main.tw5378808338967829844 : True := trivial
theorem main.tw5396361742852586263 : True := trivial
theorem main.tw5400957986263281647 : True := trivial
theorem main.tw5401703158475992631 : True := trivial
theorem main.tw5418533224930618480 : True := trivial
theorem main.tw5435614590818080486 : True := trivial
theorem main.tw5436791530062809996 : True := trivial
theorem main.tw5451317232050628999 : True := trivial
theorem main.tw545269030811804461 : True := trivial
theorem main.tw5456330333991267789 : True := trivial
theorem main.tw5460091804258272057 : True := trivial
theorem main.tw5461779845614304980 : True := trivial
theorem main.tw5473700226181020891 : True := trivial
theorem main.tw5477019107358212144 : True := trivial
theorem main.tw54841869916938688 : True := trivial
theorem main.tw5502569546826302122 : True := trivial
theorem main.tw5517759331935216279 : True := trivial
theorem main.tw5518243967957118194 : True := trivial
theorem main.tw5527929279227188259 : True := trivial
theorem main.tw5534937755968359062 : True := trivial
theorem main.tw5567732340971880690 : True := trivial
theorem main.tw5613160597433933154 : True := trivial
theorem main.tw5616070069386785504 : True := trivial
theorem main.tw5623159541915647742 : True := trivial
theorem main.tw563973728909168745 : True := trivial
theorem main.tw5649967823195072380 : True := trivial
theorem main.tw5665406974723832613 : True := trivial
theorem main.tw5665735395497279834 : True := trivial
theorem main.tw5671064798259553346 : True := trivial
theorem main.tw5768018617931124328 : True := trivial
theorem main.tw5781596087445459943 : True := trivial
theorem main.tw5790326737455844299 : True := trivial
theorem main.tw5797031442667253490 : True := trivial
theorem main.tw5831584030425509755 : True := trivial
theorem main.tw5837888446457221635 : True := trivial
theorem main.tw5839530249802149432 : True := trivial
theorem main.tw5842977544298395883 : True := trivial
theorem main.tw5865035375444044283 : True := trivial
theorem main.tw5870225077901225703 : True := trivial
theorem main.tw5873463020976553958 : True := trivial
theorem main.tw588950844065142505 : True := trivial
theorem main.tw5900072995565114194 : True := trivial
theorem main.tw5995161000843957690 : True := trivial
theorem main.tw6044114016751833949 : True := trivial
theorem main.tw6053611964639427726 : True := trivial
theorem main.tw6056095068991171605 : True := trivial
theorem main.tw6072795283324543088 : True := trivial
theorem main.tw6087835443962453003 : True := trivial
theorem main.tw6106196091520820027 : True := trivial
theorem main.tw6117098260805541702 : True := trivial
theorem main.tw613567027398061577 : True := trivial
theorem main.tw6137908229700043457 : True := trivial
theorem main.tw6140287776057189764 : True := trivial
theorem main.tw6161133996638707016 : True := trivial
theorem main.tw6162249291895867263 : True := trivial
theorem main.tw6164561884633627433 : True := trivial
theorem main.tw6183352029847204284 : True := trivial
theorem main.tw6214117541549086881 : True := trivial
theorem main.tw6234934611588079204 : True := trivial
theorem main.tw6237627108579964202 : True := trivial
theorem main.tw6252391252262179987 : True := trivial
theorem main.tw6254453501864316152 : True := trivial
theorem main.tw6264281720289328834 : True := trivial
theorem main.tw6283666216762299864 : True := trivial
theorem main.tw6334894449686545209 : True := trivial
theorem main.tw6341409668436394099 : True := trivial
theorem main.tw6361450105264607166 : True := trivial
theorem main.tw6385024630547198690 : True := trivial
theorem main.tw6389877041954997217 : True := trivial
theorem main.tw6404898279339705064 : True := trivial
theorem main.tw6418098437765475518 : True := trivial
theorem main.tw6418202794160714309 : True := trivial
theorem main.tw6425626318312657004 : True := trivial
theorem main.tw6437645805973890128 : True := trivial
theorem main.tw6449824600675878752 : True := trivial
theorem main.tw645136716886899192 : True := trivial
theorem main.tw6483966928607899096 : True := trivial
theorem main.tw6511744376749373798 : True := trivial
theorem main.tw6516198228755648517 : True := trivial
theorem main.tw6519269512792494810 : True := trivial
theorem main.tw6535589618603614281 : True := trivial
theorem main.tw6541472054586571296 : True := trivial
theorem main.tw6542085627976250192 : True := trivial
theorem main.tw6545385358150927430 : True := trivial
theorem main.tw6559806142732475569 : True := trivial
theorem main.tw656089360051881306 : True := trivial
theorem main.tw65644731488775911 : True := trivial
theorem main.tw6565609875121592624 : True := trivial
theorem main.tw6570437773673931950 : True := trivial
theorem main.tw6584820252761975732 : True := trivial
theorem main.tw6590341273101898363 : True := trivial
theorem main.tw6596593509180878263 : True := trivial
theorem main.tw6605025701479795990 : True := trivial
theorem main.tw66260789543402106 : True := trivial
theorem main.tw6632538468102435922 : True := trivial
theorem main.tw6635558491612396129 : True := trivial
theorem main.tw6639522245352263942 : True := trivial
theorem main.tw6640438233256266117 : True := trivial
theorem main.tw6642858168728409138 : True := trivial
theorem main.tw6655696309031964122 : True := trivial
theorem main.tw6657087868060814 : True := trivial
theorem main.tw6660377722381337597 : True := trivial
theorem main.tw6663778134991626487 : True := trivial
theorem main.tw6674386428176565332 : True := trivial
theorem main.tw6674893403203295414 : True := trivial
theorem main.tw6690441779611380620 : True := trivial
theorem main.tw6697339332421208802 : True := trivial
theorem main.tw6702130215012162313 : True := trivial
theorem main.tw6741292078354696603 : True := trivial
theorem main.tw6768520987592691376 : True := trivial
theorem main.tw6785657489111691699 : True := trivial
theorem main.tw6801380410627298636 : True := trivial
theorem main.tw681127517646744459 : True := trivial
theorem main.tw6855474311058116810 : True := trivial
theorem main.tw6862268138105152660 : True := trivial
theorem main.tw6862492499505807319 : True := trivial
theorem main.tw6868236387235032019 : True := trivial
theorem main.tw6877560268529008848 : True := trivial
theorem main.tw6886502059237256666 : True := trivial
theorem main.tw6907636171062424033 : True := trivial
theorem main.tw6910295442248876197 : True := trivial
theorem main.tw6912675738884088206 : True := trivial
theorem main.tw6914184659022975773 : True := trivial
theorem main.tw6921685317656363116 : True := trivial
theorem main.tw6935676897619631941 : True := trivial
theorem main.tw6981580820607432535 : True := trivial
theorem main.tw6981815665589151136 : True := trivial
theorem main.tw7000664437366286474 : True := trivial
theorem main.tw7008153826215325649 : True := trivial
theorem main.tw7019240024125815769 : True := trivial
theorem main.tw7054876372555587774 : True := trivial
theorem main.tw7070123817558143148 : True := trivial
theorem main.tw7073996269223845280 : True := trivial
theorem main.tw7083192437325867461 : True := trivial
theorem main.tw7093617532817203218 : True := trivial
theorem main.tw7108953243070827183 : True := trivial
theorem main.tw7113585516715319716 : True := trivial
theorem main.tw7139307881021679148 : True := trivial
theorem main.tw7142256002058171272 : True := trivial
theorem main.tw7153082081811710619 : True := trivial
theorem main.tw716429049611869786 : True := trivial
theorem main.tw7165207203227711834 : True := trivial
theorem main.tw7186131708394509389 : True := trivial
theorem main.tw7214478077546791972 : True := trivial
theorem main.tw722433290690908527 : True := trivial
theorem main.tw7235775444256392728 : True := trivial
theorem main.tw7237411587787531456 : True := trivial
theorem main.tw7268301785047649679 : True := trivial
theorem main.tw7273056430967151046 : True := trivial
theorem main.tw7275503621480483011 : True := trivial
theorem main.tw7293704977770490947 : True := trivial
theorem main.tw7299474751278700455 : True := trivial
theorem main.tw7332552209862256014 : True := trivial
theorem main.tw734625210370093676 : True := trivial
theorem main.tw7350554884032477566 : True := trivial
theorem main.tw7358942708152152329 : True := trivial
theorem main.tw7374449385936029500 : True := trivial
theorem main.tw73751810991705359 : True := trivial
theorem main.tw7394006948641179287 : True := trivial
theorem main.tw7411558596216406370 : True := trivial
theorem main.tw7472237861779093752 : True := trivial
theorem main.tw7487416344156704005 : True := trivial
theorem main.tw7514964652732493775 : True := trivial
theorem main.tw7521444476212097132 : True := trivial
theorem main.tw7530017696762252536 : True := trivial
theorem main.tw7554534293552944094 : True := trivial
theorem main.tw7563215957194029611 : True := trivial
theorem main.tw7591743695986301205 : True := trivial
theorem main.tw7623509227018997848 : True := trivial
theorem main.tw7623511443260959870 : True := trivial
theorem main.tw7624122152786673341 : True := trivial
theorem main.tw7624293977416268664 : True := trivial
theorem main.tw7647378279178456250 : True := trivial
theorem main.tw765107192605250810 : True := trivial
theorem main.tw7668756792840097458 : True := trivial
theorem main.tw7675930258259734528 : True := trivial
theorem main.tw7691172733374981047 : True := trivial
theorem main.tw7697325545964645800 : True := trivial
theorem main.tw7697417962357392202 : True := trivial
theorem main.tw7699798408344515789 : True := trivial
theorem main.tw7742616358663508648 : True := trivial
theorem main.tw7751025194823839400 : True := trivial
theorem main.tw7761410557224570781 : True := trivial
theorem main.tw7780446386730421317 : True := trivial
theorem main.tw7788533954027902341 : True := trivial
theorem main.tw7860819179221955721 : True := trivial
theorem main.tw7883848961242879871 : True := trivial
theorem main.tw7884273913378172499 : True := trivial
theorem main.tw7884331609784382070 : True := trivial
theorem main.tw7901126011190779259 : True := trivial
theorem main.tw7929128423345735474 : True := trivial
theorem main.tw793299525264137939 : True := trivial
theorem main.tw7943094425149488825 : True := trivial
theorem main.tw7974275031393228247 : True := trivial
theorem main.tw799486724532869496 : True := trivial
theorem main.tw8046773169563483271 : True := trivial
theorem main.tw8060562821785662972 : True := trivial
theorem main.tw8068379698969174043 : True := trivial
theorem main.tw8079908401900000222 : True := trivial
theorem main.tw8096190563154859447 : True := trivial
theorem main.tw8102450764968551371 : True := trivial
theorem main.tw8118072479153026202 : True := trivial
theorem main.tw8125125469695226666 : True := trivial
theorem main.tw8127475511531132179 : True := trivial
theorem main.tw820145642477177705 : True := trivial
theorem main.tw8228058824784995430 : True := trivial
theorem main.tw8231103150381890471 : True := trivial
theorem main.tw8249873531624179374 : True := trivial
theorem main.tw8260724100714396741 : True := trivial
theorem main.tw8265370782698574782 : True := trivial
theorem main.tw8281396171620568247 : True := trivial
theorem main.tw8312829660672013939 : True := trivial
theorem main.tw833945537157984683 : True := trivial
theorem main.tw8344989883159853150 : True := trivial
theorem main.tw834873547066669988 : True := trivial
theorem main.tw8394416109485655870 : True := trivial
theorem main.tw8402242094647718915 : True := trivial
theorem main.tw8404659333953806752 : True := trivial
theorem main.tw8419495778230234659 : True := trivial
theorem main.tw8436210846270712021 : True := trivial
theorem main.tw8440099810896429113 : True := trivial
theorem main.tw8460393628821922486 : True := trivial
theorem main.tw8466321980469482115 : True := trivial
theorem main.tw8475525182357872103 : True := trivial
theorem main.tw8478376212529829071 : True := trivial
theorem main.tw8484041278411425421 : True := trivial
theorem main.tw8496349624203035976 : True := trivial
theorem main.tw8528285597010949478 : True := trivial
theorem main.tw8546124895413445307 : True := trivial
theorem main.tw8548823596671561066 : True := trivial
theorem main.tw854977524454699277 : True := trivial
theorem main.tw8557395850702784662 : True := trivial
theorem main.tw8567518541235275850 : True := trivial
theorem main.tw861011362418597151 : True := trivial
theorem main.tw8624498521744291746 : True := trivial
theorem main.tw8627561154394265716 : True := trivial
theorem main.tw8634654232796393261 : True := trivial
theorem main.tw8643928048826747898 : True := trivial
theorem main.tw8651587035891514320 : True := trivial
theorem main.tw8652556701797213591 : True := trivial
theorem main.tw8663697691656813868 : True := trivial
theorem main.tw8681388529863501421 : True := trivial
theorem main.tw8707812797481193996 : True := trivial
theorem main.tw8708525158762292434 : True := trivial
theorem main.tw8729708805864041840 : True := trivial
theorem main.tw8748973510418095054 : True := trivial
theorem main.tw8756518407330761489 : True := trivial
theorem main.tw8809968196449919288 : True := trivial
theorem main.tw8828626079734051433 : True := trivial
theorem main.tw8834365191522931223 : True := trivial
theorem main.tw8844999433837080629 : True := trivial
theorem main.tw8883465813499100731 : True := trivial
theorem main.tw8903568455446660058 : True := trivial
theorem main.tw8905992674379837232 : True := trivial
theorem main.tw892681787802806017 : True := trivial
theorem main.tw8928990268580360915 : True := trivial
theorem main.tw8934699018898702947 : True := trivial
theorem main.tw8947760058931562597 : True := trivial
theorem main.tw8952462522180670554 : True := trivial
theorem main.tw8984930932524396370 : True := trivial
theorem main.tw8989776476301544223 : True := trivial
theorem main.tw9006321595064636914 : True := trivial
theorem main.tw9069182735580402390 : True := trivial
theorem main.tw9071729483887776986 : True := trivial
theorem main.tw9121559901702372667 : True := trivial
theorem main.tw9131807755668617818 : True := trivial
theorem main.tw917386388269078853 : True := trivial
theorem main.tw9175052073728820173 : True := trivial
theorem main.tw9184045479044318644 : True := trivial
theorem main.tw918671981122897330 : True := trivial
theorem main.tw9189880136782149556 : True := trivial
theorem main.tw9190990891756207365 : True := trivial
theorem main.tw9211707205177423737 : True := trivial
theorem main.tw9247501659233101145 : True := trivial
theorem main.tw9253799994812790149 : True := trivial
theorem main.tw9265829497004654079 : True := trivial
theorem main.tw9272984997812220495 : True := trivial
theorem main.tw9274054859765456524 : True := trivial
theorem main.tw9287587430799945685 : True := trivial
theorem main.tw9293455121233016472 : True := trivial
theorem main.tw9302470337196694018 : True := trivial
theorem main.tw9303439499767911484 : True := trivial
theorem main.tw9321267617633783869 : True := trivial
theorem main.tw9325587581009544774 : True := trivial
theorem main.tw9360745474812902239 : True := trivial
theorem main.tw9361300454564663673 : True := trivial
theorem main.tw9368617206455126095 : True := trivial
theorem main.tw9376575566392132001 : True := trivial
theorem main.tw9381277316556691805 : True := trivial
theorem main.tw9381886862466946253 : True := trivial
theorem main.tw9392487213469676918 : True := trivial
theorem main.tw9394770849952503311 : True := trivial
theorem main.tw9406782406253462049 : True := trivial
theorem main.tw9417822746687237092 : True := trivial
theorem main.tw9432497158254318119 : True := trivial
theorem main.tw9458421452666605423 : True := trivial
theorem main.tw9483120023164983764 : True := trivial
theorem main.tw9483696857397876608 : True := trivial
theorem main.tw9498315638749924794 : True := trivial
theorem main.tw9508770018378322450 : True := trivial
theorem main.tw9512817274939609580 : True := trivial
theorem main.tw9515011664573035354 : True := trivial
theorem main.tw9557352009045844224 : True := trivial
theorem main.tw9558744834307401277 : True := trivial
theorem main.tw955993832684835811 : True := trivial
theorem main.tw9561784451562097942 : True := trivial
theorem main.tw9563168847844234846 : True := trivial
theorem main.tw9581019380814227218 : True := trivial
theorem main.tw961187720498965250 : True := trivial
theorem main.tw962032349192862916 : True := trivial
theorem main.tw962193829226610041 : True := trivial
theorem main.tw9626384672669237482 : True := trivial
theorem main.tw9656510801202774680 : True := trivial
theorem main.tw9681375758050803366 : True := trivial
theorem main.tw9682133043923132273 : True := trivial
theorem main.tw9693634834776466397 : True := trivial
theorem main.tw9703084557020090508 : True := trivial
theorem main.tw9716624006974247489 : True := trivial
theorem main.tw9747897558166968733 : True := trivial
theorem main.tw9756827057097773860 : True := trivial
theorem main.tw9805168224760091760 : True := trivial
theorem main.tw9808303207383738048 : True := trivial
theorem main.tw9811667543942387436 : True := trivial
theorem main.tw983542388872702638 : True := trivial
theorem main.tw9840939614602229412 : True := trivial
theorem main.tw9880953963774564861 : True := trivial
theorem main.tw9897820754763898449 : True := trivial
theorem main.tw9903775340124721222 : True := trivial
theorem main.tw9925469786538053656 : True := trivial
theorem main.tw9939699701984659387 : True := trivial
theorem main.tw9942282790977331292 : True := trivial
theorem main.tw9957550378297406723 : True := trivial
theorem main.tw9964214247947446159 : True := trivial
theorem main.tw9994787619460420439 : True := trivial
section
open PySem.Spec PySem.Calls
set_option Elab.async true in
theorem main : PySem.Challenge.rw_qy0004_06.Holds := by
  w_on
  o_law
  k_head
  (case hw => w_witness2)
  k_with_none
  (k_with "callWith ref" => (k_here; (with_reducible refine' callWith_K0 ?k1₉ ?k2₉ ?_); (case k1₉ => exact Frag.In.keeps (by with_reducible assumption) (Fr.keep (by with_reducible assumption))); k_dflt ((case k2₉ => k_is); k_whole)))
  (k_with "tp" => ((try dsimp only); with_reducible (first | assumption | exact TP.succ | exact TP.add2 | exact TP.add3 | exact TP.add4 | exact ⟨by omega⟩)))
  (k_with "forall" => ((with_reducible show (TP _ → _)); intro hT₉; dsimp only at hT₉))
  (k_with "execs nil" => (k_here; (with_reducible refine execsNG (by walk_at "tp") ?_); intro tk₉ htk₉; (try dsimp only)))
  (k_with "execs cons" => (k_here; (with_reducible refine execsQ (by walk_at "tp") ?_); intro Q9₉ hQ9₉ tk9₉ htk9₉; (try dsimp only)))
  (k_with "call builtin:str.replace" => (with_reducible (first | (refine replace1 (by walk_at "tp") (by walk_at "tp") (by first | exact Nat.ne_of_lt (Nat.lt_succ_self _) | omega) (by omega) (by walk_at "tp") ?_; intro y'₉ t'₉ k'₉ hk'₉ e'₉ l'₉; (try dsimp only)) | (refine replace2 (by walk_at "tp") (by walk_at "tp") (by first | exact Nat.ne_of_lt (Nat.lt_succ_self _) | omega) (by omega) (by walk_at "tp") ?_; intro y'₉ t'₉ k'₉ hk'₉ e'₉ l'₉; (try dsimp only)))))
  (k_with "exec Assign" => ((with_reducible show wpAny _ _ (exec (Stmt.Assign _ (Expr.IfExp _ _ _ _) _) _) _ _ _); (fail_if_success (have fl'₉ : FlagV := by assumption)); (with_reducible refine Hold.mk ?_)))
  (k_with "HeadP" => (with_reducible refine Hold.mk ?_))
  (k_with "CompSrc" => (k_here; k_dflt ((show LCg.CompSrc _ _ _ _ _ _ _ (Expr.Subscript _ _ _) _ _ _ _ _ _)); k_dflt ((refine LCg.CompSrc.ledger (by rfl) (by k_asm) (by k_asm) (by k_mem) (by kcf_size) ?_)); intro g'₉; k_dflt ((refine' kct_list (fun k => [Str.ofString ">", Str.ofString "-", Str.ofString "d", Str.ofString "octype", Str.ofString "--", Str.ofString "\x00", Str.ofString "D", Str.ofString "?", Str.ofString "oC", Str.ofString "a", Str.ofString ">", Str.ofString "!", Str.ofString "tyPE", Str.ofString "/", Str.ofString "\x0d", Str.ofString "e", Str.ofString "DOCTYPE", Str.ofString " ", Str.ofString "é", Str.ofString ">", Str.ofString "\n", Str.ofString "<", Str.ofString "docTyp"].getD (k.fmod 23).toNat Str.empty) (by assumption) (fun k' t' I' oI' C' oC' D' m' ys' h' tk' E' hk' hC' hx' F' N' off' ne' => ?_) ?_)); (all_goals (try (simp only [LCg.Off3, and_true] at off'))); (all_goals (try ((show KPfMark → _); intro hMark'₉)))))
  (k_with "call builtin:str.join" => (k_here; (with_reducible rename CarriedAll _ (List.map _ _) => ktC₉); (with_reducible refine' join_ints ?N₉ ?M₉ ktC₉ ?Z₉ ?_); (case N₉ => k_asm); (case M₉ => k_mem); (case Z₉ => exact txt_small (by kcf_bnd)); intro y'₉ t'₉ k'₉ e'₉; (have hTO'₉ := text_ok (by kcf_bnd) e'₉); (have hTl'₉ := hTO'₉.len); (try dsimp only)))
  (k_with "call ref" => (k_here; (with_reducible show wpAny _ _ (call (Value.ref 762) [_]) _ _ _); (with_reducible refine Hold.mk ?_)))
  (k_with "my_args" => ((case B₉ => k_asm); (case F₉ => k_asm); (case X₉ => k_asm); (case T₉ => k_asm); (case hk₉ => first | exact rfl | assumption); (case hd₉ => ktr_room); (case hu₉ => ktr_units)))
  (k_with "exec Assign" => ((with_reducible show wpAny _ _ (exec (Stmt.Assign [Expr.Name (Str.ofString "text") _] _ _) _) _ _ _); (fail_if_success (have fl9 : TFlag := by assumption)); (with_reducible refine Hold.mk ?_)))
  (k_with "my_steps" => (repeat' (first | (with_reducible refine GoOn.go (by with_reducible assumption) ?_; (try dsimp only)) | (k_unfold; (try dsimp only)) | (with_reducible refine' good_true ?F₉ ?e₉ ?g₉ ?o₉; (case F₉ => with_reducible assumption); (case e₉ => exact rfl); (case g₉ => with_reducible assumption); (case o₉ => exact rfl)) | (k_end; wrow_close) | walk1 | (dsimp only; walk1) | (leave1; (try dsimp only)) | fail "no step")))
  k_go0
  all_goals try k_fold
  walk_at "my_steps"
  rename Fr _ _ _ _ => F1
  refine Hold.of ?_
  with_reducible refine' head_cut ?F₉ ?_ ?_
  case F₉ => exact F1
  · have fl : FlagV := ⟨trivial⟩
    walk_at "my_steps"
    all_goals (rename Fr _ _ _ _ => F2)
    all_goals (refine Hold.of ?_)
    all_goals (refine ⟨_, _, _, _, rfl, by walk_at "tp", by with_reducible assumption, by with_reducible assumption⟩)
  rintro s' ⟨hd, t, h', tk', rfl, hT, F2, N2⟩
  clear F1
  walk_at "my_steps"
  refine Hold.of ?_
  rename IntsAre _ (List.map _ _ ++ [0]) => hWs
  rename News _ _ _ _ => N1
  have N2 := news_ws hWs N1 (by k_mem)
  clear N1
  have fl9 : TFlag := ⟨trivial⟩
  repeat (rename (_ < _ ∧ _) => q9; clear q9)
  repeat (rename (_ ≠ _) => q9; clear q9)
  walk_at "my_steps"
  refine Hold.of ?_
  rename News _ _ _ _ => N1
  repeat (rename (_ < _ ∧ _) => q9; clear q9)
  repeat (rename (_ ≠ _ ∧ _) => q9; clear q9)
  repeat (rename (_ ≠ _) => q9; clear q9)
  rename TextOk _ _ => TO
  rename (List.map _ _ = Txt.split _ _) => eSp
  rename (_ = cr _) => eCr
  rename (_ = rn _) => eRn
  rename (∀ a ∈ List.map _ _, Str.length a ≤ _) => hAl
  k_dflt (refine' init_t TO.len TO.ok ?tp₉ ?B₉ ?F₉ ?X₉ ?N₉ ?T₉ ?hk₉ ?hd₉ ?hu₉ ?_)
  case N₉ => exact news_pw hWs N1 (by k_mem) (by k_mem)
  case tp₉ => walk_at "tp"
  walk_at "my_args"
  intro G D σ0 h0 tk0 hSB hTx I0 hb0 hD hOb hT0 F0 N0
  have N3 : News _ _ _ (_ :: _ :: prL _ G σ0 D []) := N0
  clear N1 N0
  rename Frag.In _ _ => kX1
  have kX2 : (Mine.hd.heap_1 _).In _ := kX1
  clear kX1
  k_with_none
  (k_with "callWith ref" => (k_here; (with_reducible refine' callWith_K0 ?k1₉ ?k2₉ ?_); (case k1₉ => exact Frag.In.keeps (by with_reducible assumption) (Fr.keep (by with_reducible assumption))); k_dflt ((case k2₉ => k_is); k_whole)))
  (k_with "my_args" => ((case B₉ => k_asm); (case F₉ => k_asm); (case X₉ => k_asm); (case T₉ => k_asm); (case hk₉ => first | exact rfl | assumption); (case hd₉ => ktr_room); (case hu₉ => ktr_units)))
  (k_with "tp" => ((try dsimp only); with_reducible (first | assumption | exact TP.succ | exact TP.add2 | exact TP.add3 | exact TP.add4 | exact ⟨by omega⟩)))
  (k_with "forall" => ((with_reducible show (TP _ → _)); intro hT₉; dsimp only at hT₉))
  (k_with "execs nil" => (k_here; (with_reducible refine execsNG (by walk_at "tp") ?_); intro tk₉ htk₉; (try dsimp only)))
  (k_with "execs cons" => (k_here; (with_reducible refine execsQ (by walk_at "tp") ?_); intro Q9₉ hQ9₉ tk9₉ htk9₉; (try dsimp only)))
  (k_with "getAttr ref" => (k_here; (with_reducible show wpAny _ _ (getAttr _ (Str.ofString "stream") _) _ _ _); k_dflt (refine' dget_stream ?F₉ ?X₉ ?N₉ ?a₉ ?b₉ ?D₉ ?_; (case F₉ => k_asm); (case X₉ => k_asm); (case N₉ => k_asm); (case a₉ => exact .tail _ (.tail _ (.head _))); (case b₉ => exact .tail _ (.tail _ (.tail _ (.head _)))); (case D₉ => assumption); k_whole); (try dsimp only)))
  (k_with "getMethod ref" => (k_here; k_dflt (refine' meth_readChunk ?F₉ ?X₉ ?N₉ ?_; (case F₉ => k_asm); (case X₉ => k_asm); (case N₉ => exact nd4 (by k_asm)); k_whole)))
  (k_with "call ref" => (k_here; (try dsimp only [List.append_nil, List.cons_append, List.nil_append]); (with_reducible show wpAny _ _ (call (Value.ref 141) [_, _]) _ _ _); (with_reducible refine Hold.mk ?_)))
  (k_with "exec For Tuple Call" => (with_reducible refine Hold.mk ?_))
  (k_with "my_steps" => (repeat' (first | (with_reducible refine GoOn.go (by with_reducible assumption) ?_; (try dsimp only)) | (k_unfold; (try dsimp only)) | (with_reducible refine' good_true ?F₉ ?e₉ ?g₉ ?o₉; (case F₉ => with_reducible assumption); (case e₉ => exact rfl); (case g₉ => with_reducible assumption); (case o₉ => exact rfl)) | (k_end; wrow_close) | walk1 | (dsimp only; walk1) | (leave1; (try dsimp only)) | fail "no step")))
  walk_at "my_steps"
  refine Hold.of ?_
  rename News _ _ _ _ => N3
  k_dflt (refine' readFn_t ?hs₉ ?ht₉ ?I₉ ?hb₉ ?hn₉ ?hn2₉ ?B₉ ?F₉ ?X₉ ?N₉ ?off₉ ?T₉ ?hk₉ ?hd₉ ?hu₉ ?_)
  case N₉ => exact law_st N3
  case hs₉ => exact hSB.s
  case ht₉ => exact hTx
  case I₉ => exact I0
  case hb₉ => exact hb0.1
  case hn₉ => exact (two_fmod _).1
  case hn2₉ => exact (two_fmod _).2
  case off₉ => exact law_off hOb hSB
  walk_at "my_args"
  intro σ1 b1 h1 tk1 hT1 I1 o1 hf1 ht1 F1 N1'
  rw [hb0.2] at I1
  have N4 := law_ts N1'
  clear N3 N1' hf1 ht1 o1
  (try dsimp only)
  walk_at "my_steps"
  refine Hold.of ?_
  with_unfolding_all refine' For_turns F1 ?_
  k_whole
  k_with_none
  (k_with "callWith ref" => (k_here; (with_reducible refine' callWith_K0 ?k1₉ ?k2₉ ?_); (case k1₉ => exact Frag.In.keeps (by with_reducible assumption) (Fr.keep (by with_reducible assumption))); k_dflt ((case k2₉ => k_is); k_whole)))
  (k_with "my_args" => ((case B₉ => k_asm); (case F₉ => k_asm); (case X₉ => k_asm); (case T₉ => k_asm); (case hk₉ => first | exact rfl | assumption); (case hd₉ => ktr_room); (case hu₉ => ktr_units)))
  (k_with "tp" => ((try dsimp only); with_reducible (first | assumption | exact TP.succ | exact TP.add2 | exact TP.add3 | exact TP.add4 | exact ⟨by omega⟩)))
  (k_with "forall" => ((with_reducible show (TP _ → _)); intro hT₉; dsimp only at hT₉))
  (k_with "execs nil" => (k_here; (with_reducible refine execsNG (by walk_at "tp") ?_); intro tk₉ htk₉; (try dsimp only)))
  (k_with "execs cons" => (k_here; (with_reducible refine execsQ (by walk_at "tp") ?_); intro Q9₉ hQ9₉ tk9₉ htk9₉; (try dsimp only)))
  (k_with "getAttr ref" => (k_here; (with_reducible show wpAny _ _ (getAttr _ (Str.ofString "stream") _) _ _ _); k_dflt (refine' dget_stream ?F₉ ?X₉ ?N₉ ?a₉ ?b₉ ?D₉ ?_; (case F₉ => k_asm); (case X₉ => k_asm); (case N₉ => k_asm); (case a₉ => exact .tail _ (.tail _ (.head _))); (case b₉ => exact .tail _ (.tail _ (.tail _ (.head _)))); (case D₉ => assumption); k_whole); (try dsimp only)))
  (k_with "call type:enumerate" => (with_reducible refine Hold.mk ?_))
  (k_with "my_steps" => (repeat' (first | (with_reducible refine GoOn.go (by with_reducible assumption) ?_; (try dsimp only)) | (k_unfold; (try dsimp only)) | (with_reducible refine' good_true ?F₉ ?e₉ ?g₉ ?o₉; (case F₉ => with_reducible assumption); (case e₉ => exact rfl); (case g₉ => with_reducible assumption); (case o₉ => exact rfl)) | (k_end; wrow_close) | walk1 | (dsimp only; walk1) | (leave1; (try dsimp only)) | fail "no step")))
  walk_at "my_steps"
  refine Hold.of ?_
  have hWl := IntsAre.length hWs
  obtain ⟨I2, hFree, hXl, hRl, hLn⟩ := parts_inv TO eRn eCr eSp hAl I1
  simp only [List.length_append, List.length_map, List.length_take, List.length_drop, List.length_cons, List.length_nil] at hWl hLn
  have hb9 := law_bounds hWl hLn
  obtain ⟨hlw, hwz, hlz⟩ := hb9
  clear hWl hLn
  repeat (rename (List.length (List.take _ _) = _) => q9; clear q9)
  repeat (rename (List.length (List.take _ _) ≤ _) => q9; clear q9)
  repeat (rename (List.length _ = List.length (List.take _ _)) => q9; clear q9)
  have hOp := hOb _ (.head _)
  have hOw := hOb _ (.tail _ (.head _))
  dsimp only at hOp hOw
  rename Fr _ _ _ _ => F3
  rename News _ _ _ _ => N4
  with_unfolding_all refine for_law (G := G) (D := D) (stored := [Str.ofString "count", Str.ofString "part", Str.ofString "last", Str.ofString "due", Str.ofString "token", Str.ofString "rest", Str.ofString "fine", Str.ofString "note"]) ?hh₉ F3 N4 hD I2 ?turn₉ ?done₉
  case hh₉ => rfl
  case turn₉ =>
    k_with_none
    (k_with "callWith ref" => (k_here; (with_reducible refine' callWith_K0 ?k1₉ ?k2₉ ?_); (case k1₉ => exact Frag.In.keeps (by with_reducible assumption) (Fr.keep (by with_reducible assumption))); k_dflt ((case k2₉ => k_is); k_whole)))
    (k_with "my_args" => ((case B₉ => k_asm); (case F₉ => k_asm); (case X₉ => k_asm); (case T₉ => k_asm); (case hk₉ => first | exact rfl | assumption); (case hd₉ => ktr_room); (case hu₉ => ktr_units)))
    (k_with "tp" => ((try dsimp only); with_reducible (first | assumption | exact TP.succ | exact TP.add2 | exact TP.add3 | exact TP.add4 | exact ⟨by omega⟩)))
    (k_with "forall" => ((with_reducible show (TP _ → _)); intro hT₉; dsimp only at hT₉))
    (k_with "execs nil" => (k_here; (with_reducible refine execsNG (by walk_at "tp") ?_); intro tk₉ htk₉; (try dsimp only)))
    (k_with "execs cons" => (k_here; (with_reducible refine execsQ (by walk_at "tp") ?_); intro Q9₉ hQ9₉ tk9₉ htk9₉; (try dsimp only)))
    (k_with "newList" => (k_here; k_dflt (refine' newList_K ?k1₉ ?k2₉ ?_; (case k1₉ => k_asm); (case k2₉ => k_asm); k_whole); intro l'₉ h'₉ F'₉ N'₉ l1₉; (try k_sweep)))
    (k_with "fslot" => first | exact FSlot.here (by with_reducible assumption) | (refine' FSlot.skip ?za₉ ?zc₉; (case za₉ => with_reducible assumption); (case zc₉ => walk_at "fslot")))
    (k_with "setAttr ref" => (k_here; with_reducible (first | (refine' eset_state ?t₉ ?F₉ ?X₉ ?N₉ ?S₉ ?G₉ ?_) | (refine' eset_currentToken ?t₉ ?F₉ ?X₉ ?N₉ ?S₉ ?G₉ ?_)); (case F₉ => k_asm); (case X₉ => k_asm); (case N₉ => k_asm); (case S₉ => walk_at "fslot"); (case t₉ => k_dflt (exact rfl)); (case G₉ => assumption); k_whole; intro h'₉ F'₉ N'₉; (try dsimp only at N'₉); (try k_sweep)))
    (k_with "setAttr ref" => (k_here; (with_reducible show wpAny _ _ (setAttr _ (Str.ofString "tokenQueue") (Value.ref _)) _ _ _); k_dflt (refine' set_queueD (fr := [_, _, _, _]) ?F₉ ?X₉ ?N₉ ?D₉ ?B₉ ?O₉ ?l₉ ?_; (case F₉ => k_asm); (case X₉ => k_asm); (case N₉ => k_asm); (case D₉ => assumption); (case B₉ => assumption); (case O₉ => assumption); (case l₉ => assumption)); k_whole; intro h'₉ u7'₉ st'₉ cur'₉ hG'₉ oR'₉ F'₉ N'₉; (try k_sweep)))
    (k_with "exec If" => ((with_reducible show wpAny _ _ (exec (Stmt.If _ _ (_ :: _) _) _) _ _ _); (with_reducible refine Hold.mk ?_)))
    (k_with "call builtin:len" => (k_here; (with_reducible show wpAny _ _ (call (Value.builtin "len") [Value.ref _]) _ _ _); k_dflt (refine' len_mem ?N₉ ?m₉ ?z₉ ?_; (case N₉ => k_asm); (case m₉ => exact List.Mem.head _); (case z₉ => assumption)); (try dsimp only)))
    (k_with "my_steps" => (repeat' (first | (with_reducible refine GoOn.go (by with_reducible assumption) ?_; (try dsimp only)) | (k_unfold; (try dsimp only)) | (with_reducible refine' good_true ?F₉ ?e₉ ?g₉ ?o₉; (case F₉ => with_reducible assumption); (case e₉ => exact rfl); (case g₉ => with_reducible assumption); (case o₉ => exact rfl)) | (k_end; wrow_close) | walk1 | (dsimp only; walk1) | (leave1; (try dsimp only)) | fail "no step")))
    clear F3 N4 hD I2 I1 I0
    intro i x tx ti T It oe oi σ2 D2 u h2 tk2 hi hD2 I2 hT2 lt2 F2 N2
    have hO2 := offBs4 (oe := oe) (oi := oi) lt2 hOp hOw
    walk_at "my_steps"
    refine Hold.of ?_
    rename Fr _ _ _ _ => F1
    rename News _ _ _ _ => N1
    rename SepG _ => hG
    rename OffR _ _ => oR
    rename Inv _ _ (restOf _ _) => I1
    obtain ⟨tl, er, ht, hfr, hla, hr, hx, hil⟩ := turn_all hi hFree hXl hRl
    rw [er] at I1
    have hiw := Nat.lt_of_lt_of_le hil hlw
    refine way_cut F1 N1 ht ?walk₉ ?go₉
    case walk₉ =>
      clear hi hFree hXl hRl er
      have fl : FlagV := ⟨trivial⟩
      k_with_none
      (k_with "callWith ref" => (k_here; (with_reducible refine' callWith_K0 ?k1₉ ?k2₉ ?_); (case k1₉ => exact Frag.In.keeps (by with_reducible assumption) (Fr.keep (by with_reducible assumption))); k_dflt ((case k2₉ => k_is); k_whole)))
      (k_with "my_args" => ((case B₉ => k_asm); (case F₉ => k_asm); (case X₉ => k_asm); (case T₉ => k_asm); (case hk₉ => first | exact rfl | assumption); (case hd₉ => ktr_room); (case hu₉ => ktr_units)))
      (k_with "tp" => ((try dsimp only); with_reducible (first | assumption | exact TP.succ | exact TP.add2 | exact TP.add3 | exact TP.add4 | exact ⟨by omega⟩)))
      (k_with "forall" => ((with_reducible show (TP _ → _)); intro hT₉; dsimp only at hT₉))
      (k_with "execs nil" => (k_here; (with_reducible refine execsNG (by walk_at "tp") ?_); intro tk₉ htk₉; (try dsimp only)))
      (k_with "execs cons" => (k_here; (with_reducible refine execsQ (by walk_at "tp") ?_); intro Q9₉ hQ9₉ tk9₉ htk9₉; (try dsimp only)))
      (k_with "fslot" => first | exact FSlot.here (by with_reducible assumption) | (refine' FSlot.skip ?za₉ ?zc₉; (case za₉ => with_reducible assumption); (case zc₉ => walk_at "fslot")) | exact FSlot.front (FSlot.here (by with_reducible assumption)) _ (by with_reducible assumption))
      (k_with "subscriptTail" => (k_here; (with_reducible show wpAny _ _ (subscriptTail _ _ (Value.ref _) (Value.int _ _)) _ _ _); k_dflt (refine' way_at ?N₉ ?m₉ ?I₉ ?i₉ ?z₉ ?_; (case N₉ => k_asm); (case m₉ => exact tkL_mem _ (.tail _ (.head _))); (case I₉ => assumption); (case i₉ => assumption); (case z₉ => assumption)); intro k'₉ t'₉; (try dsimp only)))
      (k_with "call ref" => (k_here; (with_reducible show wpAny _ _ (call (Value.ref 793) [Value.str _ _]) _ _ _); k_dflt (refine' declared_t ?hx₉ ?B₉ ?F₉ ?X₉ ?N₉ ?T₉ ?hk₉ ?hd₉ ?hu₉ ?_; walk_at "my_args"; (case hx₉ => assumption); (case N₉ => k_asm)); intro Tp'₉ D'₉ vt'₉ vx'₉ own'₉ ds'₉ n'₉ h'₉ tk'₉ rv'₉ q2'₉ c2'₉ l1'₉ l2'₉ l3'₉ F'₉ N'₉; (have o1'₉ := FSlot.off (FSlot.here (by with_reducible assumption)) l1'₉); (have o2'₉ := FSlot.off (FSlot.here (by with_reducible assumption)) l2'₉); (have o3'₉ := OffR.of_lt (by with_reducible assumption) l3'₉); (try dsimp only); (try k_sweep)))
      (k_with "call ref" => (k_here; (with_reducible show wpAny _ _ (call (Value.ref 800) [Value.str _ _, Value.bool _]) _ _ _); k_dflt (refine' closed_t ?hx₉ ?B₉ ?F₉ ?X₉ ?N₉ ?T₉ ?hk₉ ?hd₉ ?hu₉ ?_; walk_at "my_args"; (case hx₉ => assumption); (case N₉ => k_asm)); intro Tp'₉ D'₉ vt'₉ vx'₉ own'₉ ds'₉ n'₉ h'₉ tk'₉ rv'₉ q2'₉ c2'₉ l1'₉ l2'₉ l3'₉ F'₉ N'₉; (have o1'₉ := FSlot.off (FSlot.here (by with_reducible assumption)) l1'₉); (have o2'₉ := FSlot.off (FSlot.here (by with_reducible assumption)) l2'₉); (have o3'₉ := OffR.of_lt (by with_reducible assumption) l3'₉); (try dsimp only); (try k_sweep)))
      (k_with "call ref" => (k_here; (with_reducible show wpAny _ _ (call (Value.ref 807) [Value.str _ _, Value.bool _]) _ _ _); k_dflt (refine' opened_t ?hx₉ ?B₉ ?F₉ ?X₉ ?N₉ ?T₉ ?hk₉ ?hd₉ ?hu₉ ?_; walk_at "my_args"; (case hx₉ => assumption); (case N₉ => k_asm)); intro Tp'₉ D'₉ vt'₉ vx'₉ own'₉ ds'₉ n'₉ h'₉ tk'₉ rv'₉ q2'₉ c2'₉ l1'₉ l2'₉ l3'₉ F'₉ N'₉; (have o1'₉ := FSlot.off (FSlot.here (by with_reducible assumption)) l1'₉); (have o2'₉ := FSlot.off (FSlot.here (by with_reducible assumption)) l2'₉); (have o3'₉ := OffR.of_lt (by with_reducible assumption) l3'₉); (try dsimp only); (try k_sweep)))
      (k_with "getMethod ref" => (k_here; with_reducible (refine' emeth_markupDeclarationOpenState ?t₉ ?F₉ ?X₉ ?N₉ ?S₉ ?_; (case F₉ => k_asm); (case X₉ => k_asm); (case N₉ => k_asm); (case S₉ => walk_at "fslot"); (case t₉ => k_dflt (exact rfl)); k_whole)))
      (k_with "call ref" => (k_here; (try dsimp only [List.append_nil, List.cons_append, List.nil_append]); (with_reducible show wpAny _ _ (call (Value.ref 605) [_]) _ _ _); k_dflt (refine' emark_t ?t₉ ?hG₉ ?tx₉ ?I₉ ?hr₉ ?B₉ ?F₉ ?X₉ ?N₉ ?off₉ ?T₉ ?hk₉ ?hd₉ ?hu₉ ?_; (case N₉ => k_asm); (case t₉ => exact rfl); (case hG₉ => with_reducible assumption); (case tx₉ => assumption); (case I₉ => assumption); (case hr₉ => assumption); (case off₉ => exact OffR.app (OffR.cons (by assumption) (OffR.cons (by assumption) (by assumption))) (by assumption)); walk_at "my_args"); intro σ'₉ sa'₉ own2'₉ qs'₉ cur'₉ qn'₉ h'₉ tk'₉ I'₉ oo'₉ q1'₉ c1'₉ F'₉ N'₉; (try dsimp only); (try k_sweep)))
      (k_with "getMethod ref" => (k_here; with_reducible (refine' emeth_closeTagOpenState ?t₉ ?F₉ ?X₉ ?N₉ ?S₉ ?_; (case F₉ => k_asm); (case X₉ => k_asm); (case N₉ => k_asm); (case S₉ => walk_at "fslot"); (case t₉ => k_dflt (exact rfl)); k_whole)))
      (k_with "call ref" => (k_here; (try dsimp only [List.append_nil, List.cons_append, List.nil_append]); (with_reducible show wpAny _ _ (call (Value.ref 360) [_]) _ _ _); k_dflt (refine' eclose_t ?t₉ ?hG₉ ?tx₉ ?I₉ ?hr₉ ?B₉ ?F₉ ?X₉ ?N₉ ?off₉ ?T₉ ?hk₉ ?hd₉ ?hu₉ ?_; (case N₉ => k_asm); (case t₉ => exact rfl); (case hG₉ => with_reducible assumption); (case tx₉ => assumption); (case I₉ => assumption); (case hr₉ => assumption); (case off₉ => exact OffR.app (OffR.cons (by assumption) (OffR.cons (by assumption) (by assumption))) (by assumption)); walk_at "my_args"); intro σ'₉ sa'₉ own2'₉ qs'₉ cur'₉ qn'₉ h'₉ tk'₉ I'₉ oo'₉ q1'₉ c1'₉ F'₉ N'₉; (try dsimp only); (try k_sweep)))
      (k_with "getMethod ref" => (k_here; with_reducible (refine' emeth_tagOpenState ?t₉ ?F₉ ?X₉ ?N₉ ?S₉ ?_; (case F₉ => k_asm); (case X₉ => k_asm); (case N₉ => k_asm); (case S₉ => walk_at "fslot"); (case t₉ => k_dflt (exact rfl)); k_whole)))
      (k_with "call ref" => (k_here; (try dsimp only [List.append_nil, List.cons_append, List.nil_append]); (with_reducible show wpAny _ _ (call (Value.ref 353) [_]) _ _ _); k_dflt (refine' eopen_t ?t₉ ?hG₉ ?tx₉ ?I₉ ?hr₉ ?B₉ ?F₉ ?X₉ ?N₉ ?off₉ ?T₉ ?hk₉ ?hd₉ ?hu₉ ?_; (case N₉ => k_asm); (case t₉ => exact rfl); (case hG₉ => with_reducible assumption); (case tx₉ => assumption); (case I₉ => assumption); (case hr₉ => assumption); (case off₉ => exact OffR.app (OffR.cons (by assumption) (OffR.cons (by assumption) (by assumption))) (by assumption)); walk_at "my_args"); intro σ'₉ sa'₉ own2'₉ qs'₉ cur'₉ qn'₉ h'₉ tk'₉ I'₉ oo'₉ q1'₉ c1'₉ F'₉ N'₉; (try dsimp only); (try k_sweep)))
      (k_with "WayP" => (with_reducible refine Hold.mk ?_))
      (k_with "my_way" => ((case N₉ => k_asm); (case F₉ => k_asm); (case o₉ => exact OffR.app (OffR.cons (by assumption) (OffR.cons (by assumption) (by assumption))) (by assumption)); (case o2₉ => assumption); (case q1₉ => assumption); (case c1₉ => assumption); (case q2₉ => assumption); (case c2₉ => assumption); (case rv₉ => assumption); (case I₉ => assumption)))
      (k_with "my_steps" => (repeat' (first | (with_reducible refine GoOn.go (by with_reducible assumption) ?_; (try dsimp only)) | (k_unfold; (try dsimp only)) | (with_reducible refine' good_true ?F₉ ?e₉ ?g₉ ?o₉; (case F₉ => with_reducible assumption); (case e₉ => exact rfl); (case g₉ => with_reducible assumption); (case o₉ => exact rfl)) | (k_end; wrow_close) | walk1 | (dsimp only; walk1) | (leave1; (try dsimp only)) | fail "no step")))
      walk_at "my_steps"
      all_goals (refine Hold.of ?_)
      · (refine' way_intro (mark_agree hfr ht) ?F₉ ?N₉ ?o₉ ?o2₉ ?q1₉ ?c1₉ ?q2₉ ?c2₉ ?rv₉ ?I₉; walk_at "my_way")
      · (refine' way_intro (close_agree hfr ht hla) ?F₉ ?N₉ ?o₉ ?o2₉ ?q1₉ ?c1₉ ?q2₉ ?c2₉ ?rv₉ ?I₉; walk_at "my_way")
      · (refine' way_intro (open_agree hfr ht hla) ?F₉ ?N₉ ?o₉ ?o2₉ ?q1₉ ?c1₉ ?q2₉ ?c2₉ ?rv₉ ?I₉; walk_at "my_way")
    case go₉ =>
      clear hr hx hla I1 N1 F1
      rintro s' ⟨o, lo, σ', sa, own, D, vt, vx, ds, n, qs, cur', qn', h', tk', rfl, ag, F1, N1, oO, hfr1, hDm, q1, c1, q2, c2, rv, I1⟩
      k_with_none
      (k_with "callWith ref" => (k_here; (with_reducible refine' callWith_K0 ?k1₉ ?k2₉ ?_); (case k1₉ => exact Frag.In.keeps (by with_reducible assumption) (Fr.keep (by with_reducible assumption))); k_dflt ((case k2₉ => k_is); k_whole)))
      (k_with "my_args" => ((case B₉ => k_asm); (case F₉ => k_asm); (case X₉ => k_asm); (case T₉ => k_asm); (case hk₉ => first | exact rfl | assumption); (case hd₉ => ktr_room); (case hu₉ => ktr_units)))
      (k_with "tp" => ((try dsimp only); with_reducible (first | assumption | exact TP.succ | exact TP.add2 | exact TP.add3 | exact TP.add4 | exact ⟨by omega⟩)))
      (k_with "forall" => ((with_reducible show (TP _ → _)); intro hT₉; dsimp only at hT₉))
      (k_with "execs nil" => (k_here; (with_reducible refine execsNG (by walk_at "tp") ?_); intro tk₉ htk₉; (try dsimp only)))
      (k_with "execs cons" => (k_here; (with_reducible refine execsQ (by walk_at "tp") ?_); intro Q9₉ hQ9₉ tk9₉ htk9₉; (try dsimp only)))
      (k_with "fslot" => first | exact FSlot.here (by with_reducible assumption) | (refine' FSlot.skip ?za₉ ?zc₉; (case za₉ => with_reducible assumption); (case zc₉ => walk_at "fslot")) | exact FSlot.front (FSlot.here OffR.nil) _ (by with_reducible assumption))
      (k_with "getAttr ref" => (k_here; with_reducible (first | (refine' eget_tokenQueue ?t₉ ?F₉ ?X₉ ?N₉ ?S₉ ?_) | (refine' eget_state ?t₉ ?F₉ ?X₉ ?N₉ ?S₉ ?h₉ ?_) | (refine' eget_currentToken ?t₉ ?F₉ ?X₉ ?N₉ ?S₉ ?h₉ ?_)); (case F₉ => k_asm); (case X₉ => k_asm); (case N₉ => k_asm); (case S₉ => walk_at "fslot"); (case t₉ => k_dflt (exact rfl)); (try (case h₉ => first | assumption | k_dflt (exact rfl))); k_whole; (try dsimp only)))
      (k_with "sub_own" => (intro p₉ hp₉; first | exact List.mem_append_left _ hp₉ | exact List.Mem.tail _ (List.Mem.tail _ (List.mem_append_left _ hp₉)) | exact List.Mem.tail _ (List.Mem.tail _ (List.mem_append_left _ (List.mem_append_right _ hp₉))) | (rw [List.mem_singleton.mp hp₉]; exact List.Mem.tail _ (List.Mem.head _))))
      (k_with "my_room" => first | units_room | ktr_units)
      (k_with "compareOp NotEq" => (k_here; (with_reducible show wpAny _ _ (compareOp CmpOp.NotEq _ _) _ _ _); k_dflt (refine' wne_cur ?N₉ ?s₉ ?u₉ ?a₉ ?b₉ ?_; (case N₉ => k_asm); (case a₉ => assumption); (case b₉ => assumption); (case s₉ => walk_at "sub_own"); (case u₉ => walk_at "my_room")); (try dsimp only)))
      (k_with "compareOp NotEq ref ref" => (k_here; (with_reducible show wpAny _ _ (compareOp CmpOp.NotEq (Value.ref _) (Value.ref _)) _ _ _); k_dflt (refine' wne_queue ?N₉ ?s1₉ ?s2₉ ?m1₉ ?m2₉ ?u₉ ?a₉ ?b₉ ?_; (case N₉ => k_asm); (case m1₉ => first | exact List.mem_append_right _ (.tail _ (.tail _ (.head _))) | exact .tail _ (.tail _ (List.mem_append_right _ (.tail _ (.tail _ (.head _)))))); (case m2₉ => first | exact .head _ | exact List.mem_append_left _ (by assumption)); (case a₉ => first | assumption | exact All2.cons (by assumption) All2.nil); (case b₉ => first | assumption | exact All2.cons (by assumption) All2.nil); (case s1₉ => walk_at "sub_own"); (case s2₉ => walk_at "sub_own"); (case u₉ => walk_at "my_room")); (try dsimp only)))
      (k_with "LPost" => (with_reducible refine Hold.mk ?_))
      (k_with "my_hz8" => (intro z₉ hz₉; obtain ⟨z1₉, z2₉, z3₉, z4₉, z5₉, z6₉, z7₉, z8₉⟩ := not8 hz₉; simp only [if_neg z1₉, if_neg z2₉, if_neg z3₉, if_neg z4₉, if_neg z5₉, if_neg z6₉, if_neg z7₉, if_neg z8₉, hz₉, Bool.false_eq_true, if_false]))
      (k_with "my_end" => ((case N₉ => k_asm); (case F₉ => k_asm); (case hz₉ => walk_at "my_hz8"); (case hf₉ => assumption); (case I₉ => assumption)))
      (k_with "newList" => (k_here; k_dflt (refine' newList_K ?k1₉ ?k2₉ ?_; (case k1₉ => k_asm); (case k2₉ => k_asm); k_whole); intro l'₉ h'₉ F'₉ N'₉ l1₉; (try (have of'₉ := FSlot.off (by walk_at "fslot") l1₉)); (try k_sweep)))
      (k_with "setAttr ref" => (k_here; with_reducible (refine' eset_state ?t₉ ?F₉ ?X₉ ?N₉ ?S₉ ?G₉ ?_; (case F₉ => k_asm); (case X₉ => k_asm); (case N₉ => k_asm); (case S₉ => walk_at "fslot"); (case t₉ => k_dflt (exact rfl)); (case G₉ => assumption); k_whole; intro h'₉ F'₉ N'₉; (try dsimp only at N'₉); (try k_sweep))))
      (k_with "setAttr ref" => (k_here; (with_reducible show wpAny _ _ (setAttr _ (Str.ofString "tokenQueue") (Value.ref _)) _ _ _); k_dflt (refine' set_queueT ?F₉ ?X₉ ?N₉ ?G₉ ?O₉ ?l₉ ?_; (case F₉ => k_asm); (case X₉ => k_asm); (case N₉ => k_asm); (case G₉ => assumption); (case O₉ => assumption); (case l₉ => assumption)); k_whole; intro h'₉ u7'₉ hG'₉ oR'₉ F'₉ N'₉; (try dsimp only at N'₉); (try k_sweep)))
      (k_with "getMethod ref" => (k_here; with_reducible (refine' emeth_bogusCommentState ?t₉ ?F₉ ?X₉ ?N₉ ?S₉ ?_; (case F₉ => k_asm); (case X₉ => k_asm); (case N₉ => k_asm); (case S₉ => walk_at "fslot"); (case t₉ => k_dflt (exact rfl)); k_whole)))
      (k_with "call ref" => (k_here; (try dsimp only [List.append_nil, List.cons_append, List.nil_append]); (with_reducible show wpAny _ _ (call (Value.ref 598) [_]) _ _ _); k_dflt (refine' lbogus_t ?t₉ ?hG₉ ?tx₉ ?I₉ ?hf₉ ?hT₉ ?B₉ ?F₉ ?X₉ ?N₉ ?off₉ ?T₉ ?hk₉ ?hd₉ ?hu₉ ?_; (case N₉ => k_asm); (case t₉ => exact rfl); (case hG₉ => with_reducible assumption); (case tx₉ => assumption); (case I₉ => assumption); (case hf₉ => assumption); (case hT₉ => assumption); (case off₉ => assumption); walk_at "my_args"); intro σ'₉ sa'₉ own3'₉ v'₉ h'₉ tk'₉ I'₉ oo'₉ r'₉ F'₉ N'₉; (try dsimp only); (try k_sweep)))
      (k_with "call ref" => (k_here; (with_reducible show wpAny _ _ (call (Value.ref 786) [Value.str _ _, Value.str _ _]) _ _ _); k_dflt (refine' given6_t ?B₉ ?F₉ ?X₉ ?N₉ ?T₉ ?hk₉ ?hd₉ ?hu₉ ?_; walk_at "my_args"; (case N₉ => k_asm)); intro d'₉ o'₉ h'₉ tk'₉ l1₉ rp'₉ F'₉ N'₉; (have of'₉ := FSlot.off (by walk_at "fslot") l1₉); (try dsimp only); (try k_sweep)))
      (k_with "call builtin:str.replace" => ((refine replaceT (by walk_at "tp") (by walk_at "tp") (by first | exact Nat.ne_of_lt (Nat.lt_succ_self _) | omega) (by decide +kernel) (by omega) (by decide) (by walk_at "tp") ?_); intro t'₉ k'₉ hk'₉; (try dsimp only)))
      (k_with "my_end2" => ((case N₉ => exact nd2 (by k_asm)); (case F₉ => k_asm); (case hz₉ => walk_at "my_hz8"); (case hf₉ => exact sub_right (by assumption)); (case I₉ => assumption)))
      (k_with "my_steps" => (repeat' (first | (with_reducible refine GoOn.go (by with_reducible assumption) ?_; (try dsimp only)) | (k_unfold; (try dsimp only)) | (with_reducible refine' good_true ?F₉ ?e₉ ?g₉ ?o₉; (case F₉ => with_reducible assumption); (case e₉ => exact rfl); (case g₉ => with_reducible assumption); (case o₉ => exact rfl)) | (k_end; wrow_close) | walk1 | (dsimp only; walk1) | (leave1; (try dsimp only)) | fail "no step")))
      obtain ⟨ao, ac, ar⟩ := ag
      rw [ao] at q1
      rw [ac] at c1
      have hc := repC_handed c1
      obtain ⟨l1, l2, l3⟩ := lo
      dsimp only at q1 q2 c1 c2 rv ar
      cases l3 with
      | none =>
        dsimp only at ar
        rw [ar] at I1
        have rv : _ = Value.none := rv
        subst rv
        walk_at "my_steps"
        refine Hold.of ?_
        (refine' law_end ?F₉ ?hz₉ ?N₉ ?hf₉ ?I₉; walk_at "my_end")
      | some rest =>
        dsimp only at ar
        obtain ⟨ar, hfr⟩ := ar
        rw [ar] at I1
        obtain ⟨x9, t9, rv, rw9⟩ := rv
        subst rv
        subst rw9
        have hx9 : x9.length ≤ 3001 := by
          have h9 := (I1.rlen hTx).1
          rw [List.length_append, toL_length] at h9
          omega
        walk_at "my_steps"
        refine Hold.of ?_
        (refine' law_end ?F₉ ?hz₉ ?N₉ ?hf₉ ?I₉; walk_at "my_end2")
  case done₉ =>
    k_with_none
    (k_with "callWith ref" => (k_here; (with_reducible refine' callWith_K0 ?k1₉ ?k2₉ ?_); (case k1₉ => exact Frag.In.keeps (by with_reducible assumption) (Fr.keep (by with_reducible assumption))); k_dflt ((case k2₉ => k_is); k_whole)))
    (k_with "my_args" => ((case B₉ => k_asm); (case F₉ => k_asm); (case X₉ => k_asm); (case T₉ => k_asm); (case hk₉ => first | exact rfl | assumption); (case hd₉ => ktr_room); (case hu₉ => ktr_units)))
    (k_with "tp" => ((try dsimp only); with_reducible (first | assumption | exact TP.succ | exact TP.add2 | exact TP.add3 | exact TP.add4 | exact ⟨by omega⟩)))
    (k_with "forall" => ((with_reducible show (TP _ → _)); intro hT₉; dsimp only at hT₉))
    (k_with "execs nil" => (k_here; (with_reducible refine execsNG (by walk_at "tp") ?_); intro tk₉ htk₉; (try dsimp only)))
    (k_with "execs cons" => (k_here; (with_reducible refine execsQ (by walk_at "tp") ?_); intro Q9₉ hQ9₉ tk9₉ htk9₉; (try dsimp only)))
    (k_with "getAttr ref" => (k_here; (with_reducible show wpAny _ _ (getAttr _ (Str.ofString "stream") _) _ _ _); k_dflt (refine' dget_stream ?F₉ ?X₉ ?N₉ ?a₉ ?b₉ ?D₉ ?_; (case F₉ => k_asm); (case X₉ => k_asm); (case N₉ => k_asm); (case a₉ => exact .tail _ (.tail _ (.head _))); (case b₉ => exact .tail _ (.tail _ (.tail _ (.head _)))); (case D₉ => assumption); k_whole); (try dsimp only)))
    (k_with "getMethod ref" => (k_here; k_dflt (refine' meth_char ?F₉ ?X₉ ?N₉ ?_; (case F₉ => k_asm); (case X₉ => k_asm); (case N₉ => exact nd4 (by k_asm)); k_whole)))
    (k_with "call ref" => (k_here; (try dsimp only [List.append_nil, List.cons_append, List.nil_append]); (with_reducible show wpAny _ _ (call (Value.ref 133) [_]) _ _ _); k_dflt (refine' charS_t ?hs₉ ?tx₉ ?I₉ ?B₉ ?F₉ ?X₉ ?N₉ ?off₉ ?T₉ ?hk₉ ?hd₉ ?hu₉ ?_; (case N₉ => exact nd4 (by k_asm)); (case hs₉ => exact SepB.s (by assumption)); (case tx₉ => assumption); (case I₉ => assumption); (case off₉ => exact own_nil); walk_at "my_args"); intro σ'₉ v'₉ h'₉ tk'₉ hT'₉ P'₉ F'₉ N'₉; (obtain ⟨ev'₉, P'₉⟩ := CharPost.nil P'₉; subst ev'₉); (try dsimp only); (try k_sweep)))
    (k_with "my_steps" => (repeat' (first | (with_reducible refine GoOn.go (by with_reducible assumption) ?_; (try dsimp only)) | (k_unfold; (try dsimp only)) | (with_reducible refine' good_true ?F₉ ?e₉ ?g₉ ?o₉; (case F₉ => with_reducible assumption); (case e₉ => exact rfl); (case g₉ => with_reducible assumption); (case o₉ => exact rfl)) | (k_end; wrow_close) | walk1 | (dsimp only; walk1) | (leave1; (try dsimp only)) | fail "no step")))
    intro s' hL
    obtain ⟨σ9, D9, h9, tk9, m9, rfl, F9, hz9, N9, hD9, I9⟩ := lawpost_out hL
    rw [restOf_end _ (Nat.le_refl _)] at I9
    have F10 := fr_stored _ F9 hz9
    clear F9 hz9
    walk_at "my_steps"
end
end Mine
theorem PySem.Challenge.cw_qy0004_06_holds : PySem.Challenge.rw_qy0004_06.Holds :=
  Mine.main
