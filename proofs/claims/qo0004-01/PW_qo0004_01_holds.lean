import PyProof.Rows.All
import Wide.All
import OpenK.AllK
import Wide.FinOn
import PySem.Challenge.RW_qo0004_01
open PySem PySem.W PyProof.Rows
set_option Elab.async false
set_option autoImplicit true
set_option linter.unusedVariables false
namespace Mine
/-- where a bound of a slice falls -/
def clipN (n : Nat) (d : Nat) : Option Int → Nat
  | none => d
  | some i => if i < 0 then (i + n).toNat else min i.toNat n
/-- a slice by ones -/
def sl {α : Type} (x : List α) (l u : Option Int) : List α := (x.drop (clipN x.length 0 l)).take (clipN x.length x.length u - clipN x.length 0 l)
theorem clip_le (n d : Nat) (hd : d ≤ n) (l : Option Int) : clipN n d l ≤ n := by
  cases l with
  | none => exact hd
  | some i => simp only [clipN]; split <;> omega
theorem clipZ (n d : Nat) (l : Option Int) : (match l with | none => (d : Int) | some i => max 0 (min (if i < 0 then i + (n : Int) else i) n)) = (clipN n d l : Int) := by
  cases l with
  | none => rfl
  | some i => simp only [clipN]; split <;> omega
theorem sliceRange_one (a b : Nat) : sliceRange a b 1 = (List.range (b - a)).map (a + ·) := by
  unfold sliceRange
  simp only [show (1 : Int) > 0 by decide, if_true]
  have : (if (a : Int) < b then ((b : Int) - a + 1 - 1) / 1 else 0).toNat = b - a := by split <;> simp <;> omega
  rw [this]
  refine List.map_congr_left fun k _ => ?_
  omega
theorem pick_range {α : Type} (x : List α) (a b : Nat) (hb : b ≤ x.length) : ((List.range (b - a)).map (a + ·)).filterMap (x[·]?) = (x.drop a).take (b - a) := by
  generalize hn : b - a = n
  induction n generalizing b with
  | zero => simp
  | succ n ih =>
    have h1 : a + n < x.length := by omega
    rw [List.range_succ, List.map_append, List.filterMap_append, ih (b - 1) (by omega) (by omega)]
    simp only [List.map_cons, List.map_nil, List.filterMap_cons, List.filterMap_nil, List.getElem?_eq_getElem h1]
    rw [List.take_add_one, List.getElem?_drop, List.getElem?_eq_getElem h1]; rfl
theorem strIdx (l u : Option Int) (n : Nat) : Builtin.Str.strSliceIndices l u 1 n = (List.range (clipN n n u - clipN n 0 l)).map (clipN n 0 l + ·) := by
  unfold Builtin.Str.strSliceIndices
  simp only [show (1 : Int) > 0 by decide, if_true]
  rw [← sliceRange_one]
  congr 1
  · have := clipZ n 0 l; cases l <;> simpa using this
  · have := clipZ n n u; cases u <;> simpa using this
theorem txt_slice (x : List Nat) (l u : Option Int) : Txt.slice ⟨x.toArray⟩ l u = ⟨(sl x l u).toArray⟩ := by
  have hlen : (⟨x.toArray⟩ : Str).length = x.length := by simp [Str.length]
  have e : ((Builtin.Str.strSliceIndices l u 1 x.length).filterMap ((⟨x.toArray⟩ : Str).cps[·]?)) = sl x l u := by
    rw [strIdx]
    have := pick_range x (clipN x.length 0 l) (clipN x.length x.length u) (clip_le _ _ (Nat.le_refl _) _)
    simpa [sl] using this
  unfold Txt.slice
  rw [hlen]
  split
  · rename_i h
    simp only [beq_self_eq_true, Bool.true_and, beq_iff_eq] at h
    rw [strIdx] at h
    simp at h
    have h1 := clip_le x.length 0 (Nat.zero_le _) l
    have h2 := clip_le x.length x.length (Nat.le_refl _) u
    have : sl x l u = x := by
      unfold sl
      by_cases hx : x.length = 0
      · have : x = [] := by simpa using hx
        subst this; simp
      · have h3 : clipN x.length 0 l = 0 := by omega
        have h4 : clipN x.length x.length u = x.length := by omega
        rw [h3, h4]; simp
    rw [this]
  · rw [e]
theorem sl_len {α : Type} (x : List α) (l u : Option Int) : (sl x l u).length ≤ x.length := by unfold sl; simp; omega
theorem sl_to {α : Type} (x : List α) {j : Int} (h : 0 ≤ j) : sl x none (some j) = x.take j.toNat := by
  unfold sl; simp only [clipN, List.drop_zero, Nat.sub_zero]; rw [if_neg (by omega)]
  by_cases hj : j.toNat ≤ x.length
  · rw [Nat.min_eq_left hj]
  · rw [Nat.min_eq_right (by omega), List.take_of_length_le (Nat.le_refl _), List.take_of_length_le (by omega)]
theorem sl_from {α : Type} (x : List α) {i : Int} (h : 0 ≤ i) : sl x (some i) none = x.drop i.toNat := by
  unfold sl; simp only [clipN]; rw [if_neg (by omega)]
  by_cases hj : i.toNat ≤ x.length
  · rw [Nat.min_eq_left hj]; exact List.take_of_length_le (by simp)
  · rw [Nat.min_eq_right (by omega), List.drop_of_length_le (Nat.le_refl _), List.drop_of_length_le (by omega)]; simp
theorem sl_mid {α : Type} (x : List α) {i j : Int} (h : 0 ≤ i) (hj : 0 ≤ j) : sl x (some i) (some j) = (x.drop i.toNat).take (j.toNat - i.toNat) := by
  unfold sl; simp only [clipN]; rw [if_neg (by omega), if_neg (by omega)]
  by_cases h1 : i.toNat ≤ x.length
  · rw [Nat.min_eq_left h1]
    by_cases h2 : j.toNat ≤ x.length
    · rw [Nat.min_eq_left h2]
    · rw [Nat.min_eq_right (by omega), List.take_of_length_le (by simp), List.take_of_length_le (by simp; omega)]
  · rw [List.drop_of_length_le (l := x) (i := i.toNat) (by omega), List.drop_of_length_le (l := x) (i := min i.toNat x.length) (by omega)]; simp
theorem sl_init {α : Type} (x : List α) : sl x none (some (-1)) = x.dropLast := by
  unfold sl; simp only [clipN, List.drop_zero, Nat.sub_zero]
  rw [if_pos (by decide), List.dropLast_eq_take]; congr 1; omega
open PySem Builtin Builtin.Str StrLaws
set_option Elab.async false
set_option autoImplicit true
set_option linter.unusedVariables false
def scan (ok : Nat → Bool) (w : Nat) : List Nat → Nat → List Nat
  | [], _ => []
  | i :: l, free => if free ≤ i && ok i then i :: scan ok w l (i + w) else scan ok w l free
def okAt (s sub : Str) (hi : Nat) (i : Nat) : Bool := decide (i + sub.length ≤ hi) && subAt s sub i
theorem occ_run (s sub : Str) (hi limit : Nat) : ∀ (l : List Nat) (st : Array Nat × Nat), st.1.size + l.length ≤ limit →
    (forIn l st (occBody s sub hi limit)).run.fst.toList = st.1.toList ++ scan (okAt s sub hi) sub.length l st.2
  | [], st, _ => by simp [scan]
  | i :: l, st, h => by
    simp only [List.length_cons] at h
    rw [List.forIn_cons]
    unfold occBody
    by_cases hc : ((st.fst.size < limit ∧ st.snd ≤ i) ∧ i + sub.length ≤ hi) ∧ subAt s sub i = true
    · rw [if_pos hc]
      have ih := occ_run s sub hi limit l (st.fst.push i, i + sub.length) (by simp; omega)
      have hsc : scan (okAt s sub hi) sub.length (i :: l) st.2 = i :: scan (okAt s sub hi) sub.length l (i + sub.length) := by
        simp [scan, okAt, hc.1.1.2, hc.1.2, hc.2]
      rw [hsc]
      show (forIn l (st.fst.push i, i + sub.length) (occBody s sub hi limit)).run.fst.toList = _
      rw [ih]; simp
    · rw [if_neg hc]
      have ih := occ_run s sub hi limit l st (by omega)
      have hsc : scan (okAt s sub hi) sub.length (i :: l) st.2 = scan (okAt s sub hi) sub.length l st.2 := by
        have : (decide (st.2 ≤ i) && okAt s sub hi i) = false := by
          rw [Bool.and_eq_false_iff]
          by_cases h1 : st.2 ≤ i
          · right
            unfold okAt
            rw [Bool.and_eq_false_iff]
            by_cases h2 : i + sub.length ≤ hi
            · right
              cases h3 : subAt s sub i with
              | false => rfl
              | true => exact absurd ⟨⟨⟨by omega, h1⟩, h2⟩, h3⟩ hc
            · left; simpa using h2
          · left; simpa using h1
        simp [scan, this]
      rw [hsc]
      show (forIn l (st.fst, st.snd) (occBody s sub hi limit)).run.fst.toList = _
      exact ih
theorem scan_filter (ok : Nat → Bool) (w : Nat) (hw : ∀ i, ok i = true → w ≤ 1 ∨ (w = 2 ∧ ok (i + 1) = false)) : ∀ (n a free : Nat), (free ≤ a ∨ (free = a + 1 ∧ ok a = false)) → scan ok w (List.range' a n) free = (List.range' a n).filter ok
  | 0, a, free, _ => rfl
  | n + 1, a, free, h => by
    rw [List.range'_succ]
    simp only [scan, List.filter_cons]
    by_cases ha : ok a = true
    · have hf : free ≤ a := h.elim id fun q => by rw [q.2] at ha; cases ha
      simp only [ha, hf, decide_true, Bool.and_self, if_true]
      rw [scan_filter ok w hw n (a + 1) (a + w)]
      rcases hw a ha with q | q
      · left; omega
      · right; exact ⟨by omega, q.2⟩
    · have ha' : ok a = false := by simpa using ha
      simp only [ha', Bool.and_false, Bool.false_eq_true, if_false]
      exact scan_filter ok w hw n (a + 1) free (by left; rcases h with h | h <;> omega)
theorem occ_filter (s sub : Str) (hi limit : Nat) (hl : hi + 1 ≤ limit) (hw : ∀ i, okAt s sub hi i = true → sub.length ≤ 1 ∨ (sub.length = 2 ∧ okAt s sub hi (i + 1) = false)) :
    occurrences s sub 0 hi limit = (List.range (hi + 1)).filter (okAt s sub hi) := by
  rw [occ_eq, occ_run _ _ _ _ _ _ (by simp; omega)]
  simp only [List.nil_append, Nat.sub_zero]
  rw [scan_filter _ _ hw _ _ _ (.inl (Nat.le_refl _)), List.range_eq_range']
theorem okAt_one (x : List Nat) (ch hi i : Nat) : okAt ⟨x.toArray⟩ ⟨#[ch]⟩ hi i = (decide (i < hi) && decide (x[i]? = some ch)) := by
  have h1 := subAt_one ⟨x.toArray⟩ ch i
  have hl : (⟨#[ch]⟩ : Str).length = 1 := rfl
  have hx : (⟨x.toArray⟩ : Str).length = x.length := by simp [Str.length]
  rw [hl, hx] at h1
  unfold okAt
  rw [hl]
  have e1 : decide (i + 1 ≤ hi) = decide (i < hi) := rfl
  rw [e1]
  congr 1
  by_cases h : x[i]? = some ch
  · rw [decide_eq_true h]; exact (h1.mpr (by simpa using h)).2
  · rw [decide_eq_false h, Bool.eq_false_iff]
    intro hs
    have := subAt_size hs
    rw [hl, hx] at this
    exact h (by simpa using h1.mp ⟨by omega, hs⟩)
theorem okAt_two (x : List Nat) (a b hi i : Nat) (hh : hi ≤ x.length) : okAt ⟨x.toArray⟩ ⟨#[a, b]⟩ hi i = (decide (i + 1 < hi) && (decide (x[i]? = some a) && decide (x[i + 1]? = some b))) := by
  unfold okAt
  have hl : (⟨#[a, b]⟩ : Str).length = 2 := rfl
  rw [hl, subAt_eq, hl]
  by_cases h : i + 2 ≤ hi
  · have e1 : decide (i + 2 ≤ hi) = decide (i + 1 < hi) := rfl
    rw [e1]
    congr 1
    have h1 : i < x.length := by omega
    have h2 : i + 1 < x.length := by omega
    have : (List.take 2 (List.drop i x)) = [x[i], x[i + 1]] := by
      rw [List.drop_eq_getElem_cons h1, List.drop_eq_getElem_cons h2]; rfl
    show (List.take 2 (List.drop i x) == [a, b]) = _
    rw [this, List.getElem?_eq_getElem h1, List.getElem?_eq_getElem h2]
    simp only [Option.some.injEq]
    by_cases q1 : x[i] = a <;> by_cases q2 : x[i + 1] = b <;> simp [q1, q2]
  · have e1 : decide (i + 2 ≤ hi) = false := by simpa using h
    have e2 : decide (i + 1 < hi) = false := by simp; omega
    rw [e1, e2]; rfl
theorem filter_count (x : List Nat) (ch : Nat) : ∀ hi, hi ≤ x.length → ((List.range (hi + 1)).filter (fun i => decide (i < hi) && decide (x[i]? = some ch))).length = (x.take hi).count ch := by
  have key : ∀ n hi, n ≤ hi → hi ≤ x.length → ((List.range n).filter (fun i => decide (i < hi) && decide (x[i]? = some ch))).length = (x.take n).count ch := by
    intro n
    induction n with
    | zero => intro hi _ _; simp
    | succ n ih =>
      intro hi h1 h2
      have hn : n < x.length := by omega
      rw [List.range_succ, List.filter_append, List.length_append, ih hi (by omega) h2, List.take_add_one, List.count_append, List.getElem?_eq_getElem hn]
      congr 1
      simp only [List.filter_cons, List.filter_nil, List.getElem?_eq_getElem hn, Option.toList_some, List.count_singleton]
      have : decide (n < hi) = true := by simp; omega
      rw [this]
      by_cases q : x[n] = ch <;> simp [q]
  intro hi h
  rw [List.range_succ, List.filter_append, List.length_append, key hi hi (Nat.le_refl _) h]
  simp
theorem cnt_spec (x : List Nat) (ch k : Nat) (hk : k ≤ x.length) : (occurrences ⟨x.toArray⟩ ⟨#[ch]⟩ 0 k (x.length + 1)).length = (x.take k).count ch := by
  rw [occ_filter _ _ _ _ (by omega) (fun i _ => .inl (Nat.le_refl _))]
  have : okAt ⟨x.toArray⟩ ⟨#[ch]⟩ k = fun i => decide (i < k) && decide (x[i]? = some ch) := funext fun i => okAt_one x ch k i
  rw [this, filter_count x ch k hk]
/-- the last place of a sign -/
def lastIx (ch : Nat) : List Nat → Option Nat
  | [] => none
  | c :: r => match lastIx ch r with
    | some i => some (i + 1)
    | none => if c = ch then some 0 else none
theorem lastIx_snoc (ch a : Nat) : ∀ l : List Nat, lastIx ch (l ++ [a]) = if a = ch then some l.length else lastIx ch l
  | [] => by simp [lastIx]
  | c :: r => by
    simp only [List.cons_append, lastIx, lastIx_snoc ch a r]
    by_cases h : a = ch
    · simp [h]
    · simp [h]
theorem forIn_fold {α β : Type} (f : β → α → β) : ∀ (l : List α) (st : β), (forIn l st (fun i st => pure (ForInStep.yield (f st i))) : Id β).run = l.foldl f st
  | [], _ => rfl
  | i :: l, st => by rw [List.forIn_cons]; exact forIn_fold f l (f st i)
theorem rfind_spec (x : List Nat) (ch k : Nat) (hk : k ≤ x.length) : lastOccurrence ⟨x.toArray⟩ ⟨#[ch]⟩ 0 k = lastIx ch (x.take k) := by
  rw [last_eq]
  have hb : lastBody ⟨x.toArray⟩ ⟨#[ch]⟩ k = fun n st => pure (ForInStep.yield (if okAt ⟨x.toArray⟩ ⟨#[ch]⟩ k n = true then some n else st)) := by
    funext n st
    unfold lastBody okAt
    by_cases hc : n + (⟨#[ch]⟩ : Str).length ≤ k ∧ subAt ⟨x.toArray⟩ ⟨#[ch]⟩ n = true
    · rw [if_pos hc, if_pos (by simp [hc.1, hc.2])]
    · rw [if_neg hc, if_neg (by simp only [Bool.and_eq_true, decide_eq_true_eq]; exact hc)]
  rw [hb, forIn_fold (fun st n => if okAt ⟨x.toArray⟩ ⟨#[ch]⟩ k n = true then some n else st)]
  have key : ∀ n, n ≤ k + 1 → (List.range n).foldl (fun st n => if okAt ⟨x.toArray⟩ ⟨#[ch]⟩ k n = true then some n else st) none = lastIx ch (x.take (min n k)) := by
    intro n
    induction n with
    | zero => intro _; simp [lastIx]
    | succ n ih =>
      intro hn
      rw [List.range_succ, List.foldl_append, ih (by omega)]
      simp only [List.foldl_cons, List.foldl_nil]
      rw [okAt_one]
      by_cases hnk : n < k
      · have hn' : n < x.length := by omega
        rw [Nat.min_eq_left (by omega), Nat.min_eq_left (by omega), List.take_add_one, List.getElem?_eq_getElem hn', Option.toList_some, lastIx_snoc]
        have hl : (List.take n x).length = n := by simp; omega
        rw [hl]
        by_cases q : x[n] = ch <;> simp [q, hnk]
      · rw [Nat.min_eq_right (by omega), Nat.min_eq_right (by omega)]
        simp [hnk]
  have := key (k + 1) (Nat.le_refl _)
  rw [Nat.min_eq_right (by omega)] at this
  rw [← this, List.range_eq_range']; rfl
/-- a CR with its LF is one LF -/
def crlf : List Nat → List Nat
  | 13 :: 10 :: r => 10 :: crlf r
  | a :: r => a :: crlf r
  | [] => []
def cr (l : List Nat) : List Nat := l.map fun a => if a = 13 then 10 else a
/-- the mended text -/
def nrm (l : List Nat) : List Nat := cr (crlf l)
open PySem Builtin Builtin.Str StrLaws
set_option Elab.async false
set_option autoImplicit true
set_option linter.unusedVariables false
def gl (l z : List Nat) (w : Nat) : Nat → List Nat → List Nat
  | a, [] => l.drop a
  | a, c :: cs => (l.drop a).take (c - a) ++ z ++ gl l z w (c + w) cs
theorem str_ext {a b : Str} (h : a.cps.toList = b.cps.toList) : a = b := by
  obtain ⟨x⟩ := a; obtain ⟨y⟩ := b; simp at h; rw [h]
theorem strSub_mk (l : List Nat) (a b : Nat) : strSub ⟨l.toArray⟩ a b = ⟨((l.drop a).take (b - a)).toArray⟩ := str_ext (by rw [strSub_toList])
theorem app_mk (x y : List Nat) : (⟨x.toArray⟩ : Str) ++ ⟨y.toArray⟩ = ⟨(x ++ y).toArray⟩ := by
  show (⟨x.toArray ++ y.toArray⟩ : Str) = _; simp
theorem join_parts (l z : List Nat) (w : Nat) : ∀ (cuts : List Nat) (a : Nat), Str.join ⟨z.toArray⟩ (partsFrom ⟨l.toArray⟩ w a cuts) = ⟨(gl l z w a cuts).toArray⟩
  | [], a => by
    show strSub ⟨l.toArray⟩ a (⟨l.toArray⟩ : Str).length = _
    rw [strSub_mk]
    have : (⟨l.toArray⟩ : Str).length = l.length := by simp [Str.length]
    rw [this, List.take_of_length_le (by simp)]; rfl
  | c :: cs, a => by
    have ih := join_parts l z w cs (c + w)
    obtain ⟨p, r, hp⟩ : ∃ p r, partsFrom ⟨l.toArray⟩ w (c + w) cs = p :: r := by cases cs <;> exact ⟨_, _, rfl⟩
    show Str.join ⟨z.toArray⟩ (strSub ⟨l.toArray⟩ a c :: partsFrom ⟨l.toArray⟩ w (c + w) cs) = _
    rw [hp] at ih ⊢
    show strSub ⟨l.toArray⟩ a c ++ ⟨z.toArray⟩ ++ Str.join ⟨z.toArray⟩ (p :: r) = _
    rw [ih, strSub_mk, app_mk, app_mk]; rfl
theorem replace_gl (l y z : List Nat) (hy : y ≠ []) : Txt.replace ⟨l.toArray⟩ ⟨y.toArray⟩ ⟨z.toArray⟩ = ⟨(gl l z y.length 0 (occurrences ⟨l.toArray⟩ ⟨y.toArray⟩ 0 l.length (l.length + 1))).toArray⟩ := by
  have hl : (⟨l.toArray⟩ : Str).length = l.length := by simp [Str.length]
  have hyl : (⟨y.toArray⟩ : Str).length = y.length := by simp [Str.length]
  unfold Txt.replace
  rw [hl, hyl]
  generalize occurrences ⟨l.toArray⟩ ⟨y.toArray⟩ 0 l.length (l.length + 1) = cuts
  have hy0 : (y.length == 0) = false := by cases y with | nil => exact absurd rfl hy | cons _ _ => rfl
  split
  · rename_i h
    rw [hy0] at h
    simp only [Bool.false_and, Bool.or_false] at h
    have : cuts = [] := List.isEmpty_iff.mp h
    subst this; simp [gl]
  · rw [glued_eq_join]
    unfold partsBetween
    rw [hl]
    have := zip_parts ⟨l.toArray⟩ y.length cuts 0
    rw [hl] at this
    show Str.join _ (((0 :: cuts.map (· + y.length)).zip (cuts ++ [l.length])).map fun p => strSub ⟨l.toArray⟩ p.1 p.2) = _
    rw [this, join_parts]
theorem gl_step (l z : List Nat) (w a : Nat) (ha : a < l.length) (cuts : List Nat) (h : ∀ c ∈ cuts, a + 1 ≤ c) : gl l z w a cuts = l[a] :: gl l z w (a + 1) cuts := by
  cases cuts with
  | nil => show l.drop a = _; rw [List.drop_eq_getElem_cons ha]; rfl
  | cons c cs =>
    have hc := h c (.head _)
    show (l.drop a).take (c - a) ++ z ++ _ = l[a] :: ((l.drop (a + 1)).take (c - (a + 1)) ++ z ++ _)
    rw [List.drop_eq_getElem_cons ha, show c - a = (c - (a + 1)) + 1 by omega]; rfl
theorem crlf_cons {a : Nat} {r : List Nat} (h : ¬ (a = 13 ∧ r.head? = some 10)) : crlf (a :: r) = a :: crlf r := by
  rw [crlf.eq_2]
  rintro r' rfl rfl
  exact h ⟨rfl, rfl⟩
theorem crlf_gl (l : List Nat) (ok : Nat → Bool) (hok : ∀ i, ok i = (decide (i + 1 < l.length) && (decide (l[i]? = some 13) && decide (l[i + 1]? = some 10)))) : ∀ n a, l.length + 1 - a = n →
    gl l [10] 2 a ((List.range' a n).filter ok) = crlf (l.drop a) := by
  intro n
  induction n using Nat.strongRecOn with
  | ind n ih =>
    intro a hn
    have out : ∀ i, l.length ≤ i → ok i = false := fun i hi => by rw [hok]; simp; omega
    by_cases ha : a < l.length
    · obtain ⟨m, rfl⟩ : ∃ m, n = m + 1 := ⟨n - 1, by omega⟩
      rw [List.range'_succ, List.filter_cons]
      by_cases hk : ok a = true
      · rw [if_pos hk]
        have hk' := hk
        rw [hok] at hk'
        simp only [Bool.and_eq_true, decide_eq_true_eq] at hk'
        obtain ⟨h1, h2, h3⟩ := hk'
        have e1 : l[a] = 13 := by simpa [ha] using h2
        have e2 : l[a + 1] = 10 := by simpa [h1] using h3
        have hno : ok (a + 1) = false := by rw [hok]; simp [h1, e2]
        obtain ⟨m', rfl⟩ : ∃ m', m = m' + 1 := ⟨m - 1, by omega⟩
        rw [List.range'_succ, List.filter_cons, if_neg (by simp [hno])]
        show (l.drop a).take (a - a) ++ [10] ++ gl l [10] 2 (a + 2) _ = _
        have := ih m' (by omega) (a + 2) (by omega)
        rw [this, List.drop_eq_getElem_cons ha, List.drop_eq_getElem_cons h1, e1, e2]
        simp [crlf]
      · have hk' : ok a = false := by simpa using hk
        rw [if_neg hk, gl_step _ _ _ _ ha _ (fun c hc => by
          have := List.mem_range'.mp (List.mem_filter.mp hc).1; omega), ih m (by omega) (a + 1) (by omega), List.drop_eq_getElem_cons ha]
        rw [hok] at hk'
        refine (crlf_cons fun q => ?_).symm
        obtain ⟨q1, q2⟩ := q
        rw [List.head?_drop] at q2
        have h1 : a + 1 < l.length := (List.getElem?_eq_some_iff.mp q2).1
        simp [h1, ha, q1] at hk'
        exact hk' (by simpa [h1] using q2)
    · have : (List.range' a n).filter ok = [] := by
        rw [List.filter_eq_nil_iff]
        intro i hi
        have := List.mem_range'.mp hi
        rw [out i (by omega)]; simp
      rw [this]
      show l.drop a = _
      rw [List.drop_of_length_le (by omega)]; rfl
theorem cr_gl (l : List Nat) (ok : Nat → Bool) (hok : ∀ i, ok i = (decide (i < l.length) && decide (l[i]? = some 13))) : ∀ n a, l.length + 1 - a = n →
    gl l [10] 1 a ((List.range' a n).filter ok) = cr (l.drop a) := by
  intro n
  induction n with
  | zero => intro a h; rw [List.drop_of_length_le (by omega)]; show l.drop a = _; rw [List.drop_of_length_le (by omega)]; rfl
  | succ n ih =>
    intro a h
    rw [List.range'_succ, List.filter_cons]
    by_cases ha : a < l.length
    · by_cases hk : ok a = true
      · rw [if_pos hk]
        rw [hok] at hk
        have e1 : l[a] = 13 := by simpa [ha] using hk
        show (l.drop a).take (a - a) ++ [10] ++ gl l [10] 1 (a + 1) _ = _
        rw [ih (a + 1) (by omega), List.drop_eq_getElem_cons ha, e1]
        simp [cr]
      · rw [if_neg hk, gl_step _ _ _ _ ha _ (fun c hc => by
          have := List.mem_range'.mp (List.mem_filter.mp hc).1; omega), ih (a + 1) (by omega), List.drop_eq_getElem_cons ha]
        rw [hok] at hk
        have e1 : l[a] ≠ 13 := by intro e; simp [ha, e] at hk
        show _ = cr (l[a] :: l.drop (a + 1))
        unfold cr
        rw [List.map_cons, if_neg e1]
    · have h0 : n = 0 := by omega
      subst h0
      have hk : ok a = false := by rw [hok]; simp; omega
      rw [if_neg (by simp [hk])]
      show l.drop a = _
      rw [List.drop_of_length_le (by omega)]; rfl
theorem replace_crlf (l : List Nat) : Txt.replace ⟨l.toArray⟩ ⟨#[13, 10]⟩ ⟨#[10]⟩ = ⟨(crlf l).toArray⟩ := by
  have h := replace_gl l [13, 10] [10] (by simp)
  have hw : ∀ i, okAt ⟨l.toArray⟩ ⟨#[13, 10]⟩ l.length i = true → (⟨#[13, 10]⟩ : Str).length ≤ 1 ∨ ((⟨#[13, 10]⟩ : Str).length = 2 ∧ okAt ⟨l.toArray⟩ ⟨#[13, 10]⟩ l.length (i + 1) = false) := by
    intro i hi
    refine .inr ⟨rfl, ?_⟩
    rw [okAt_two _ _ _ _ _ (Nat.le_refl _)] at hi ⊢
    simp only [Bool.and_eq_true, decide_eq_true_eq] at hi
    simp [hi.2.2]
  show Txt.replace ⟨l.toArray⟩ ⟨[13, 10].toArray⟩ ⟨[10].toArray⟩ = _
  rw [h]
  have e := occ_filter ⟨l.toArray⟩ ⟨[13, 10].toArray⟩ l.length (l.length + 1) (Nat.le_refl _) hw
  rw [e, List.range_eq_range']
  have := crlf_gl l (okAt ⟨l.toArray⟩ ⟨[13, 10].toArray⟩ l.length) (fun i => okAt_two l 13 10 l.length i (Nat.le_refl _)) (l.length + 1) 0 (by omega)
  rw [List.drop_zero] at this
  exact congrArg (fun x : List Nat => (⟨x.toArray⟩ : Str)) this
theorem replace_cr (l : List Nat) : Txt.replace ⟨l.toArray⟩ ⟨#[13]⟩ ⟨#[10]⟩ = ⟨(cr l).toArray⟩ := by
  have h := replace_gl l [13] [10] (by simp)
  show Txt.replace ⟨l.toArray⟩ ⟨[13].toArray⟩ ⟨[10].toArray⟩ = _
  rw [h]
  have e := occ_filter ⟨l.toArray⟩ ⟨[13].toArray⟩ l.length (l.length + 1) (Nat.le_refl _) (fun i _ => .inl (Nat.le_refl _))
  rw [e, List.range_eq_range']
  have := cr_gl l (okAt ⟨l.toArray⟩ ⟨[13].toArray⟩ l.length) (fun i => okAt_one l 13 l.length i) (l.length + 1) 0 (by omega)
  rw [List.drop_zero] at this
  exact congrArg (fun x : List Nat => (⟨x.toArray⟩ : Str)) this
/-- how many CRs stand with their LF -/
def nCRLF : List Nat → Nat
  | 13 :: 10 :: r => nCRLF r + 1
  | _ :: r => nCRLF r
  | [] => 0
theorem crlf_len (l : List Nat) : (crlf l).length + nCRLF l = l.length := by
  fun_induction crlf l with
  | case1 r ih => simp [nCRLF]; omega
  | case2 a r h ih => rw [nCRLF.eq_2 _ _ h]; simp; omega
  | case3 => rfl
set_option Elab.async false
set_option autoImplicit true
set_option linter.unusedVariables false
/-- pure data -/
inductive D where
  | none
  | bool (b : Bool)
  | int (i : Int)
  | str (s : List Nat)
  | tup (vs : List D)
/-- what a name may hold -/
inductive V where
  | d (x : D)
  | obj (k : Nat)
  | meth (f : Addr) (k : Nat)
  | val (v : Value)
  | cel (k : Nat)
/-- an object of the call's own -/
inductive O where
  | list (xs : List D)
  | inst (C : Addr) (ks : List Str) (vs : List V)
  | cell (v : Option V)
structure St where
  loc : List (Option V)
  objs : List O
inductive DR (h : Heap) : D → Value → Prop where
  | none : DR h .none .none
  | bool (b : Bool) : DR h (.bool b) (.bool b)
  | int (i : Int) (t : Tok) : DR h (.int i) (.int i t)
  | str (x : List Nat) (t : Tok) : DR h (.str x) (.str ⟨x.toArray⟩ t)
  | tup {a : Addr} {o : Obj} {n : Nat} {vs : List D} {items : List Value} : h.get? a = some o → o.cls = .type "tuple" → o.data = .seq items.toArray n → vs.length = items.length →
      (∀ (i : Nat) (d : D) (v : Value), vs[i]? = some d → items[i]? = some v → DR h d v) → DR h (.tup vs) (.ref a)
def DRs (h : Heap) (xs : List D) (items : List Value) : Prop := xs.length = items.length ∧ ∀ (i : Nat) (d : D) (v : Value), xs[i]? = some d → items[i]? = some v → DR h d v
abbrev Io := List (Addr × Addr)
def VR (ι : Io) (h : Heap) : V → Value → Prop
  | .d x, v => DR h x v
  | .obj k, v => ∃ p, ι[k]? = some p ∧ v = .ref p.1
  | .meth f k, v => ∃ p q, ι[k]? = some p ∧ v = .ref q ∧ h.get? q = some (methodObj (.ref f) (.ref p.1))
  | .val x, v => v = x
  | .cel k, v => ∃ p, ι[k]? = some p ∧ v = .ref p.1
/-- the entries of an object's dict -/
structure ER (ι : Io) (h : Heap) (ks : List Str) (vs : List V) (ds : List DictEntry) : Prop where
  nd : ks.Nodup
  lk : ks.length = ds.length
  lv : vs.length = ds.length
  key : ∀ (i : Nat) (k : Str) (d : DictEntry), ks[i]? = some k → ds[i]? = some d → ∃ t, d.key = .str k t
  val : ∀ (i : Nat) (v : V) (d : DictEntry), vs[i]? = some v → ds[i]? = some d → VR ι h v d.val
def RO (ι : Io) (h : Heap) : O → Addr × Addr → Prop
  | .list xs, p => p.2 = p.1 ∧ ∃ items n, h.get? p.1 = some { cls := .type "list", data := .seq (List.toArray items) n } ∧ DRs h xs items
  | .cell v, p => p.2 = p.1 ∧ ∃ ov, h.IsCell p.1 ov ∧ ∀ u, v = some u → ∃ val, ov = some val ∧ VR ι h u val
  | .inst C ks vs, p => h.get? p.1 = some (instObj C p.2) ∧ ∃ ds n, h.get? p.2 = some { cls := .type "dict", data := .dict (List.toArray ds) n } ∧ ER ι h ks vs ds
structure Cfg where
  prog : Program
  w : World
  K : Frag
  H : Heap
  mb : Str → Option Value
  X : K.In H
  b : H.Ns builtinsNs mb
  hmb : ∀ x : Str, x ≠ "__name__" → mb x = bootBuiltins x
  nolimit : H.NoLimit
/-- where a stretch of code runs: how deep it may call, how many objects are the caller's, its block's names -/
structure Cx where
  G : Cfg
  n : Nat
  n₀ : Nat
  scope : Scope
  names : List Str
  globs : List Str
structure Cx.Good (c : Cx) : Prop where
  kind : c.scope.kind = .function
  nd : c.names.Nodup
  loc : ∀ x ∈ c.names, c.scope.names.lookup x = some .local ∨ c.scope.names.lookup x = some .cell
  glob : ∀ x ∈ c.globs, c.scope.names.lookup x = some .globalImplicit
  dbg : ("__debug__" : Str) ∉ c.names ∧ ("__debug__" : Str) ∉ c.globs
def isCel : V → Bool
  | .cel _ => true
  | _ => false
/-- how a name stands: in the frame's dict, or as a cell -/
def NameIs (c : Cx) (env : Env) (m : Str → Option Value) (x : Str) (v : V) (val : Value) : Prop := (c.scope.names.lookup x = some .local ∧ m x = some val) ∨ (isCel v = true ∧ c.scope.names.lookup x = some .cell ∧ ∃ a, env.cells.lookup x = some a ∧ val = .ref a)
def own (ι : Io) (a : Addr) : Prop := ∃ p ∈ ι, a = p.1 ∨ a = p.2
def Apart (ι : Io) : Prop := ι.Pairwise fun p q => p.1 ≠ q.1 ∧ p.1 ≠ q.2 ∧ p.2 ≠ q.1 ∧ p.2 ≠ q.2
structure Rep0 (c : Cx) (ι : Io) (σ : St) (env : Env) (s : Shared) : Prop where
  scope : env.scope = c.scope
  good : c.Good
  globals : env.globals = mainGlobals
  builtins : env.builtins = builtinsNs
  keep : ∀ b o, c.G.H.get? b = some o → s.heap.get? b = some o
  above : ∀ a, own ι a → c.G.H.get? a = none
  aboveL : c.G.H.get? env.locals = none
  notL : ¬ own ι env.locals
  apart : Apart ι
  len : ι.length = σ.objs.length
  base : c.n₀ ≤ ι.length
  objs : ∀ (k : Nat) (o : O) (p : Addr × Addr), σ.objs[k]? = some o → ι[k]? = some p → RO ι s.heap o p
  cel : ∀ (i : Nat) (x : Str), c.names[i]? = some x → c.scope.names.lookup x = some .cell → ∃ k, σ.loc[i]? = some (some (.cel k))
  ns : ∃ m, s.heap.Ns env.locals m ∧ ∀ (i : Nat) (x : Str) (v : V), c.names[i]? = some x → σ.loc[i]? = some (some v) → ∃ val, NameIs c env m x v val ∧ VR ι s.heap v val
structure Ext (L : Addr) (n : Nat) (ι : Io) (s : Shared) (ι' : Io) (s' : Shared) : Prop where
  pre : ι'.take n = ι.take n
  owns : ∀ a, own ι' a → own ι a ∨ (s.heap.get? a = none ∧ a ≠ L)
  keep : ∀ b o, s.heap.get? b = some o → ¬ own ι b → b ≠ L → s'.heap.get? b = some o
  os : s'.os = s.os
  gens : s'.gens = s.gens
theorem Ext.refl (L n ι s) : Ext L n ι s ι s := ⟨rfl, fun _ h => .inl h, fun _ _ e _ _ => e, rfl, rfl⟩
theorem Ext.trans {L n ι s ι₁ s₁ ι₂ s₂} (x : Ext L n ι s ι₁ s₁) (y : Ext L n ι₁ s₁ ι₂ s₂) : Ext L n ι s ι₂ s₂ := by
  refine ⟨y.pre.trans x.pre, fun a h => ?_, fun b o e h1 h2 => ?_, y.os.trans x.os, y.gens.trans x.gens⟩
  · rcases y.owns a h with q | ⟨q, hL⟩
    · exact x.owns a q
    · by_cases ho : own ι a
      · exact .inl ho
      · refine .inr ⟨?_, hL⟩
        cases e : s.heap.get? a with
        | none => rfl
        | some o => rw [x.keep a o e ho hL] at q; cases q
  · refine y.keep b o (x.keep b o e h1 h2) (fun q => ?_) h2
    rcases x.owns b q with z | ⟨z, _⟩
    · exact h1 z
    · rw [e] at z; cases z
theorem take_le {α} {l l' : List α} {n m : Nat} (h : l'.take n = l.take n) (hm : m ≤ n) : l'.take m = l.take m := by
  have := congrArg (List.take m) h
  rwa [List.take_take, List.take_take, Nat.min_eq_left hm] at this
theorem Ext.less {L n m ι s ι' s'} (x : Ext L n ι s ι' s') (h : m ≤ n) : Ext L m ι s ι' s' := ⟨take_le x.pre h, x.owns, x.keep, x.os, x.gens⟩
theorem getElem?_of_pre {α} {l l' : List α} {n k : Nat} {p : α} (h : l'.take n = l.take n) (hk : k < n) (e : l[k]? = some p) : l'[k]? = some p := by
  have h1 : (l'.take n)[k]? = l'[k]? := by rw [List.getElem?_take]; simp [hk]
  have h2 : (l.take n)[k]? = l[k]? := by rw [List.getElem?_take]; simp [hk]
  rw [← h1, h, h2, e]
theorem own_get {ι : Io} {k : Nat} {p : Addr × Addr} (e : ι[k]? = some p) : own ι p.1 ∧ own ι p.2 :=
  ⟨⟨p, List.mem_of_getElem? e, .inl rfl⟩, ⟨p, List.mem_of_getElem? e, .inr rfl⟩⟩
/-- a tuple or a bound method, as laid -/
def StillAt (o : Obj) : Prop := (o.cls = .type "tuple" ∧ ∃ items n, o.data = .seq items n) ∨ (∃ f x, o = methodObj f x)
theorem Rep0.owned {c ι σ env s} (R : Rep0 c ι σ env s) {a : Addr} (h : own ι a) : ∃ o, s.heap.get? a = some o ∧ ¬ StillAt o := by
  obtain ⟨p, hp, ha⟩ := h
  obtain ⟨k, hk, rfl⟩ := List.getElem_of_mem hp
  have hk' : ι[k]? = some ι[k] := List.getElem?_eq_getElem hk
  have ho : k < σ.objs.length := R.len ▸ hk
  have := R.objs k σ.objs[k] ι[k] (List.getElem?_eq_getElem ho) hk'
  cases hO : σ.objs[k] with
  | list xs =>
    rw [hO] at this
    obtain ⟨e, items, n, hg, _⟩ := this
    have : a = ι[k].1 := ha.elim id fun q => q.trans e
    exact ⟨_, this ▸ hg, fun h => by simp [StillAt, methodObj] at h⟩
  | cell v =>
    rw [hO] at this
    obtain ⟨e, ov, ⟨o, hg, hd⟩, _⟩ := this
    have : a = ι[k].1 := ha.elim id fun q => q.trans e
    exact ⟨_, this ▸ hg, fun h => by
      rcases h with ⟨_, _, _, h⟩ | ⟨_, _, rfl⟩
      · rw [hd] at h; cases h
      · cases hd⟩
  | inst C ks vs =>
    rw [hO] at this
    obtain ⟨hg, ds, n, hd, _⟩ := this
    rcases ha with rfl | rfl
    · exact ⟨_, hg, fun h => by simp [StillAt, methodObj] at h⟩
    · exact ⟨_, hd, fun h => by simp [StillAt, methodObj] at h⟩
theorem Heap.Ns.notStill {h : Heap} {a : Addr} {m} (n : h.Ns a m) : ∃ o, h.get? a = some o ∧ (∃ es k, o.data = .dict es k) := let ⟨o, es, ep, h1, h2, _⟩ := n; ⟨o, h1, es, ep, h2⟩
theorem StillAt.noDict {o : Obj} (h : StillAt o) {es k} (hd : o.data = .dict es k) : False := by
  rcases h with ⟨_, _, _, e⟩ | ⟨_, _, rfl⟩
  · rw [e] at hd; cases hd
  · cases hd
theorem Rep0.stillKept {c ι σ env s L n ι' s'} (R : Rep0 c ι σ env s) (hL : L = env.locals) (x : Ext L n ι s ι' s') {b : Addr} {o : Obj} (e : s.heap.get? b = some o) (h : StillAt o) : s'.heap.get? b = some o := by
  refine x.keep b o e (fun q => ?_) (fun q => ?_)
  · obtain ⟨o', e', n⟩ := R.owned q
    rw [e] at e'; cases e'; exact n h
  · subst hL; subst q
    obtain ⟨m, hn, _⟩ := R.ns
    obtain ⟨o', e', es, k, hd⟩ := Heap.Ns.notStill hn
    rw [e] at e'; cases e'
    exact h.noDict hd
theorem DR.mono {h h' : Heap} (k : ∀ b o, h.get? b = some o → StillAt o → h'.get? b = some o) {d : D} {v : Value} (x : DR h d v) : DR h' d v := by
  induction x with
  | none => exact .none
  | bool b => exact .bool b
  | int i t => exact .int i t
  | str x t => exact .str x t
  | tup e hc hd hl _ ih => exact .tup (k _ _ e (.inl ⟨hc, _, _, hd⟩)) hc hd hl ih
theorem DRs.mono {h h' : Heap} (k : ∀ b o, h.get? b = some o → StillAt o → h'.get? b = some o) {xs : List D} {vs : List Value} (x : DRs h xs vs) : DRs h' xs vs :=
  ⟨x.1, fun i d v e1 e2 => (x.2 i d v e1 e2).mono k⟩
theorem VR.mono {ι ι' : Io} {h h' : Heap} (k : ∀ b o, h.get? b = some o → StillAt o → h'.get? b = some o) (hι : ι'.take ι.length = ι) {x : V} {v : Value} (r : VR ι h x v) : VR ι' h' x v := by
  have up : ∀ (j : Nat) p, ι[j]? = some p → ι'[j]? = some p := fun j p e =>
    getElem?_of_pre (n := ι.length) (by rw [hι, List.take_length]) (List.getElem?_eq_some_iff.mp e).1 e
  cases x with
  | d x => exact DR.mono k r
  | obj j => obtain ⟨p, e, rfl⟩ := r; exact ⟨p, up _ _ e, rfl⟩
  | meth f j => obtain ⟨p, q, e, rfl, hq⟩ := r; exact ⟨p, q, up _ _ e, rfl, k _ _ hq (.inr ⟨_, _, rfl⟩)⟩
  | val x => exact r
  | cel j => obtain ⟨p, e, rfl⟩ := r; exact ⟨p, up _ _ e, rfl⟩
theorem Rep0.vr {c ι σ env s n ι' s'} (R : Rep0 c ι σ env s) (x : Ext env.locals n ι s ι' s') (hn : ι.length ≤ n) {a : V} {v : Value} (r : VR ι s.heap a v) : VR ι' s'.heap a v :=
  r.mono (fun _ _ e h => R.stillKept rfl x e h) (by have := take_le x.pre hn; rw [this, List.take_length])
/-- the same, and an object's mark is never nought -/
structure Rep (c : Cx) (ι : Io) (σ : St) (env : Env) (s : Shared) : Prop extends Rep0 c ι σ env s where
  tk : 0 < s.toks
theorem Rep0.up {c ι σ env s} (R : Rep0 c ι σ env s) (h : 0 < s.toks) : Rep c ι σ env s := { R with tk := h }
def Ok (A : Around) (n : Nat) : Prop := A.handled = none ∧ A.depth + 4 * n ≤ 900 ∧ A.units + 20 * n ≤ 9000
/-- behind an expression -/
def PV (c : Cx) (env : Env) (ι : Io) (s : Shared) (Q : V → St → Prop) (val : Value) (s' : Shared) : Prop :=
  ∃ ι' v σ', Ext env.locals ι.length ι s ι' s' ∧ Rep c ι' σ' env s' ∧ VR ι' s'.heap v val ∧ Q v σ'
/-- the same, the marks not told -/
def PV0 (c : Cx) (env : Env) (ι : Io) (s : Shared) (Q : V → St → Prop) (val : Value) (s' : Shared) : Prop :=
  ∃ ι' v σ', Ext env.locals ι.length ι s ι' s' ∧ Rep0 c ι' σ' env s' ∧ VR ι' s'.heap v val ∧ Q v σ'
def PB0 (c : Cx) (env : Env) (ι : Io) (s : Shared) (Q : Bool → St → Prop) (b : Bool) (s' : Shared) : Prop :=
  ∃ ι' σ', Ext env.locals ι.length ι s ι' s' ∧ Rep0 c ι' σ' env s' ∧ Q b σ'
/-- behind a test -/
def PB (c : Cx) (env : Env) (ι : Io) (s : Shared) (Q : Bool → St → Prop) (b : Bool) (s' : Shared) : Prop :=
  ∃ ι' σ', Ext env.locals ι.length ι s ι' s' ∧ Rep c ι' σ' env s' ∧ Q b σ'
theorem take_pre {ι ι₁ : Io} {n} (h : ι₁.take ι.length = ι.take ι.length) (hn : n ≤ ι.length) : n ≤ ι₁.length := by
  have := congrArg List.length h
  simp only [List.length_take] at this
  omega
theorem PV.trans {c env ι s ι₁ s₁ Q val s'} (x : Ext env.locals ι.length ι s ι₁ s₁) (p : PV c env ι₁ s₁ Q val s') : PV c env ι s Q val s' :=
  let ⟨ι', v, σ', y, R, r, q⟩ := p
  ⟨ι', v, σ', x.trans (y.less (take_pre x.pre (Nat.le_refl _))), R, r, q⟩
theorem PB.trans {c env ι s ι₁ s₁ Q b s'} (x : Ext env.locals ι.length ι s ι₁ s₁) (p : PB c env ι₁ s₁ Q b s') : PB c env ι s Q b s' :=
  let ⟨ι', σ', y, R, q⟩ := p
  ⟨ι', σ', x.trans (y.less (take_pre x.pre (Nat.le_refl _))), R, q⟩
abbrev Cx.M (c : Cx) : Model := model c.G.prog c.G.w
abbrev NoE : Value → Shared → Prop := fun _ _ => False
def TE (c : Cx) (e : Expr) (σ : St) (Q : V → St → Prop) : Prop :=
  ∀ A env ι s, Ok A c.n → Rep c ι σ env s → wpAny c.M A (eval e env) (PV c env ι s Q) NoE s
/-- a test -/
def TT (c : Cx) (e : Expr) (σ : St) (Q : Bool → St → Prop) : Prop :=
  ∀ A env ι s, Ok A c.n → Rep c ι σ env s → wpAny c.M A (isTrue e env (eval e env)) (PB c env ι s Q) NoE s
inductive Fl where
  | next | brk | cont
  | ret (v : V)
def FR (ι : Io) (h : Heap) : Fl → Flow → Prop
  | .next, .next => True
  | .brk, .brk => True
  | .cont, .cont => True
  | .ret v, .ret x => VR ι h v x
  | _, _ => False
/-- behind a statement -/
def PS (c : Cx) (env : Env) (ι : Io) (s : Shared) (Q : Fl → St → Prop) (f : Flow) (s' : Shared) : Prop :=
  ∃ ι' fl σ', Ext env.locals c.n₀ ι s ι' s' ∧ Rep c ι' σ' env s' ∧ FR ι' s'.heap fl f ∧ Q fl σ'
theorem PS.trans {c env ι s ι₁ s₁ Q f s'} (x : Ext env.locals c.n₀ ι s ι₁ s₁) (p : PS c env ι₁ s₁ Q f s') : PS c env ι s Q f s' :=
  let ⟨ι', v, σ', y, R, r, q⟩ := p
  ⟨ι', v, σ', x.trans y, R, r, q⟩
def TS (c : Cx) (st : Stmt) (σ : St) (Q : Fl → St → Prop) : Prop :=
  ∀ A env ι s, Ok A c.n → Rep c ι σ env s → wpAny c.M A (exec st env) (PS c env ι s Q) NoE s
def TB (c : Cx) (st : List Stmt) (σ : St) (Q : Fl → St → Prop) : Prop :=
  ∀ A env ι s, Ok A c.n → Rep c ι σ env s → wpAny c.M A (execs st env) (PS c env ι s Q) NoE s
theorem RO.mono {ι ι' : Io} {h h' : Heap} (k : ∀ b o, h.get? b = some o → StillAt o → h'.get? b = some o) (hι : ι'.take ι.length = ι) {o : O} {p : Addr × Addr}
    (k1 : ∀ o, h.get? p.1 = some o → h'.get? p.1 = some o) (k2 : ∀ o, h.get? p.2 = some o → h'.get? p.2 = some o) (r : RO ι h o p) : RO ι' h' o p := by
  cases o with
  | list xs => obtain ⟨e, items, n, hg, hd⟩ := r; exact ⟨e, items, n, k1 _ hg, hd.mono k⟩
  | cell v =>
    obtain ⟨e, ov, ⟨o, hg, hd⟩, hv⟩ := r
    exact ⟨e, ov, ⟨o, k1 _ hg, hd⟩, fun u e => let ⟨val, e1, r⟩ := hv u e; ⟨val, e1, r.mono k hι⟩⟩
  | inst C ks vs =>
    obtain ⟨hg, ds, n, hd, he⟩ := r
    exact ⟨k1 _ hg, ds, n, k2 _ hd, { he with val := fun i v d e1 e2 => (he.val i v d e1 e2).mono k hι }⟩
/-- what a stretch may write besides: W, nothing of the state's own, nothing of the base, no tuple and no method -/
theorem Rep0.keepBut {c ι σ env s s'} (W : Addr → Prop) (R : Rep0 c ι σ env s) (hk : ∀ b o, s.heap.get? b = some o → ¬ W b → s'.heap.get? b = some o)
    (h1 : ∀ b, W b → ¬ own ι b) (h2 : ∀ m, s.heap.Ns env.locals m → s'.heap.Ns env.locals m) (h3 : ∀ b, W b → c.G.H.get? b = none) (h4 : ∀ b o, W b → s.heap.get? b = some o → ¬ StillAt o) : Rep0 c ι σ env s' := by
  have kS : ∀ b o, s.heap.get? b = some o → StillAt o → s'.heap.get? b = some o := fun b o e h => hk b o e fun w => h4 b o w e h
  have kO : ∀ b o, own ι b → s.heap.get? b = some o → s'.heap.get? b = some o := fun b o h e => hk b o e fun w => h1 b w h
  refine { R with keep := ?_, objs := ?_, ns := ?_ }
  · exact fun b o e => hk b o (R.keep b o e) fun w => by rw [h3 b w] at e; cases e
  · intro k o p e1 e2
    exact (R.objs k o p e1 e2).mono kS (List.take_length ..) (fun o h => kO _ o (own_get e2).1 h) (fun o h => kO _ o (own_get e2).2 h)
  · obtain ⟨m, hn, hm⟩ := R.ns
    exact ⟨m, h2 m hn, fun i x v e1 e2 => let ⟨val, e, r⟩ := hm i x v e1 e2; ⟨val, e, r.mono kS (List.take_length ..)⟩⟩
theorem Rep0.grow {c ι σ env s s'} (R : Rep0 c ι σ env s) (hk : ∀ b o, s.heap.get? b = some o → s'.heap.get? b = some o) : Rep0 c ι σ env s' :=
  R.keepBut (fun _ => False) (fun b o e _ => hk b o e) (fun _ h => h.elim) (fun _ n => n.keeps hk) (fun _ h => h.elim) (fun _ _ h => h.elim)
theorem Ext.grow {L n ι s s'} (hk : ∀ b o, s.heap.get? b = some o → s'.heap.get? b = some o) (ho : s'.os = s.os) (hg : s'.gens = s.gens) : Ext L n ι s ι s' :=
  ⟨rfl, fun _ h => .inl h, fun b o e _ _ => hk b o e, ho, hg⟩
/-- a value that is come by without a change of the heap -/
theorem PV0.same {c ι σ env s Q} {v : V} {val : Value} {tk : Nat} (R : Rep c ι σ env s) (r : VR ι s.heap v val) (q : Q v σ) : PV0 c env ι s Q val { s with toks := tk } :=
  ⟨ι, v, σ, Ext.grow (fun _ _ e => e) rfl rfl, R.grow fun _ _ e => e, r, q⟩
theorem PV.same {c ι σ env s Q} {v : V} {val : Value} {tk : Nat} (R : Rep c ι σ env s) (r : VR ι s.heap v val) (q : Q v σ) (ht : 0 < tk := by exact Nat.succ_pos _) : PV c env ι s Q val { s with toks := tk } :=
  ⟨ι, v, σ, Ext.grow (fun _ _ e => e) rfl rfl, Rep0.up (s := { s with toks := tk }) (R.grow fun _ _ e => e) ht, r, q⟩
theorem PV.here {c ι σ env s Q} {v : V} {val : Value} (R : Rep c ι σ env s) (r : VR ι s.heap v val) (q : Q v σ) : PV c env ι s Q val s :=
  ⟨ι, v, σ, Ext.refl .., R, r, q⟩
theorem PB.here {c ι σ env s Q} {b : Bool} (R : Rep c ι σ env s) (q : Q b σ) : PB c env ι s Q b s := ⟨ι, σ, Ext.refl .., R, q⟩
theorem PB0.same {c ι σ env s Q} {b : Bool} {tk : Nat} (R : Rep c ι σ env s) (q : Q b σ) : PB0 c env ι s Q b { s with toks := tk } := ⟨ι, σ, Ext.grow (fun _ _ e => e) rfl rfl, R.grow fun _ _ e => e, q⟩
/-- the marks only grow -/
theorem liftV {c : Cx} {A env ι σ s Q} {t : Sem Value} (R : Rep c ι σ env s) (h : wpAny c.M A t (PV0 c env ι s Q) NoE s) : wpAny c.M A t (PV c env ι s Q) NoE s :=
  wpAny_mono (wpAny_toks_of (n := 1) R.tk h) (fun _ _ ⟨h1, ι', v, σ', x, R', r, q⟩ => ⟨ι', v, σ', x, R'.up h1, r, q⟩) fun _ _ x => x.2
theorem liftB {c : Cx} {A env ι σ s Q} {t : Sem Bool} (R : Rep c ι σ env s) (h : wpAny c.M A t (PB0 c env ι s Q) NoE s) : wpAny c.M A t (PB c env ι s Q) NoE s :=
  wpAny_mono (wpAny_toks_of (n := 1) R.tk h) (fun _ _ ⟨h1, ι', σ', x, R', q⟩ => ⟨ι', σ', x, R'.up h1, q⟩) fun _ _ x => x.2
/-- a new object that is not the state's: a tuple, an iterator, a slice -/
theorem Rep0.push {c ι σ env s} (R : Rep0 c ι σ env s) (o : Obj) : Rep0 c ι σ env { s with heap := s.heap.push o } := R.grow fun _ _ e => Heap.get?_push_of_some _ e
theorem Ext.push {L n ι s} (o : Obj) : Ext L n ι s ι { s with heap := s.heap.push o } := Ext.grow (fun _ _ e => Heap.get?_push_of_some _ e) rfl rfl
theorem own_append {ι : Io} {p : Addr × Addr} {a : Addr} : own (ι ++ [p]) a ↔ own ι a ∨ a = p.1 ∨ a = p.2 := by
  simp only [own, List.mem_append, List.mem_singleton]
  constructor
  · rintro ⟨q, h | rfl, e⟩
    · exact .inl ⟨q, h, e⟩
    · exact .inr e
  · rintro (⟨q, h, e⟩ | e)
    · exact ⟨q, .inl h, e⟩
    · exact ⟨p, .inr rfl, e⟩
theorem Rep0.ltSize {c ι σ env s} (R : Rep0 c ι σ env s) {a : Addr} (h : own ι a) : a < s.heap.objs.size := let ⟨_, e, _⟩ := R.owned h; Heap.lt_size e
theorem Rep0.ltL {c ι σ env s} (R : Rep0 c ι σ env s) : env.locals < s.heap.objs.size := let ⟨_, hn, _⟩ := R.ns; hn.lt
theorem Rep0.freshH {c ι σ env s} (R : Rep0 c ι σ env s) {a : Addr} (h : s.heap.get? a = none) : c.G.H.get? a = none := by
  cases e : c.G.H.get? a with
  | none => rfl
  | some o => rw [R.keep a o e] at h; cases h
theorem Rep0.freshO {c ι σ env s} (R : Rep0 c ι σ env s) {a : Addr} (h : s.heap.get? a = none) : ¬ own ι a := fun q => by obtain ⟨o, e, _⟩ := R.owned q; rw [h] at e; cases e
theorem Rep0.freshL {c ι σ env s} (R : Rep0 c ι σ env s) {a : Addr} (h : s.heap.get? a = none) : a ≠ env.locals := by
  rintro rfl
  obtain ⟨m, ⟨o, _, _, e, _⟩, _⟩ := R.ns
  rw [h] at e; cases e
theorem fresh_size (h : Heap) : h.get? h.objs.size = none := by
  cases e : h.get? h.objs.size with
  | none => rfl
  | some o => exact absurd (Heap.lt_size e) (Nat.lt_irrefl _)
theorem fresh_ge {h : Heap} {a : Addr} (hs : h.objs.size ≤ a) : h.get? a = none := by
  cases e : h.get? a with
  | none => rfl
  | some o => exact absurd (Heap.lt_size e) (Nat.not_lt.mpr hs)
/-- an object onto the state -/
theorem Rep0.alloc {c ι σ env s s'} {o : O} {p : Addr × Addr} (R : Rep0 c ι σ env s) (hk : ∀ b o, s.heap.get? b = some o → s'.heap.get? b = some o)
    (h1 : s.heap.get? p.1 = none) (h2 : s.heap.get? p.2 = none) (ho : RO (ι ++ [p]) s'.heap o p) : Rep0 c (ι ++ [p]) ⟨σ.loc, σ.objs ++ [o]⟩ env s' := by
  have R' := R.grow hk
  have hι : (ι ++ [p]).take ι.length = ι := by simp
  have kk : ∀ b o, s'.heap.get? b = some o → StillAt o → s'.heap.get? b = some o := fun _ _ e _ => e
  refine { R' with above := ?_, notL := ?_, apart := ?_, len := ?_, base := ?_, objs := ?_, ns := ?_ }
  · intro a h
    rcases own_append.mp h with h | rfl | rfl
    · exact R.above a h
    · exact R.freshH h1
    · exact R.freshH h2
  · intro h
    rcases own_append.mp h with h | e | e
    · exact R.notL h
    · exact R.freshL h1 e.symm
    · exact R.freshL h2 e.symm
  · refine List.pairwise_append.mpr ⟨R.apart, List.pairwise_singleton _ _, fun q hq r hr => ?_⟩
    obtain rfl := List.mem_singleton.mp hr
    have a1 : own ι q.1 := ⟨q, hq, .inl rfl⟩
    have a2 : own ι q.2 := ⟨q, hq, .inr rfl⟩
    exact ⟨fun e => R.freshO h1 (e ▸ a1), fun e => R.freshO h2 (e ▸ a1), fun e => R.freshO h1 (e ▸ a2), fun e => R.freshO h2 (e ▸ a2)⟩
  · simp [R.len]
  · have := R.base; simp; omega
  · intro k o' q e1 e2
    by_cases hk : k < ι.length
    · rw [List.getElem?_append_left hk] at e2
      have e1' : σ.objs[k]? = some o' := by
        have : k < σ.objs.length := R.len ▸ hk
        rwa [List.getElem?_append_left this] at e1
      exact (R'.objs k o' q e1' e2).mono kk hι (fun _ e => e) (fun _ e => e)
    · have hk' : k = ι.length := by
        have := (List.getElem?_eq_some_iff.mp e2).1
        simp at this; omega
      subst hk'
      rw [List.getElem?_append_right (Nat.le_refl _)] at e2
      rw [List.getElem?_append_right (by rw [R.len]; exact Nat.le_refl _), R.len] at e1
      simp at e1 e2
      subst e1 e2
      exact ho
  · obtain ⟨m, hn, hm⟩ := R'.ns
    exact ⟨m, hn, fun i x v e1 e2 => let ⟨val, e, r⟩ := hm i x v e1 e2; ⟨val, e, r.mono kk hι⟩⟩
theorem Ext.alloc {c ι σ env s s'} {p : Addr × Addr} (R : Rep0 c ι σ env s) (hk : ∀ b o, s.heap.get? b = some o → s'.heap.get? b = some o) (ho : s'.os = s.os) (hg : s'.gens = s.gens)
    (h1 : s.heap.get? p.1 = none) (h2 : s.heap.get? p.2 = none) : Ext env.locals ι.length ι s (ι ++ [p]) s' :=
  ⟨by simp, fun a h => by
    rcases own_append.mp h with h | rfl | rfl
    · exact .inl h
    · exact .inr ⟨h1, R.freshL h1⟩
    · exact .inr ⟨h2, R.freshL h2⟩, fun b o e _ _ => hk b o e, ho, hg⟩
theorem apart_of {ι : Io} (h : Apart ι) {j k : Nat} {p q : Addr × Addr} (hj : ι[j]? = some p) (hk : ι[k]? = some q) (hne : j ≠ k) : p.1 ≠ q.1 ∧ p.1 ≠ q.2 ∧ p.2 ≠ q.1 ∧ p.2 ≠ q.2 := by
  obtain ⟨hj', rfl⟩ := List.getElem?_eq_some_iff.mp hj
  obtain ⟨hk', rfl⟩ := List.getElem?_eq_some_iff.mp hk
  rcases Nat.lt_or_gt_of_ne hne with h1 | h1
  · exact List.pairwise_iff_getElem.mp h _ _ hj' hk' h1
  · have := List.pairwise_iff_getElem.mp h _ _ hk' hj' h1
    exact ⟨this.1.symm, this.2.2.1.symm, this.2.1.symm, this.2.2.2.symm⟩
/-- one object of the state's is changed: at its first or at its second place -/
theorem Rep0.change {c ι σ env s s'} {k : Nat} {o₀ o : O} {p : Addr × Addr} (R : Rep0 c ι σ env s) (ho₀ : σ.objs[k]? = some o₀) (hp : ι[k]? = some p)
    (hk : ∀ b o, s.heap.get? b = some o → b ≠ p.1 → b ≠ p.2 → b ≠ env.locals → s'.heap.get? b = some o) (hns : ∀ m, s.heap.Ns env.locals m → s'.heap.Ns env.locals m)
    (ho : (∀ b o, s.heap.get? b = some o → StillAt o → s'.heap.get? b = some o) → RO ι s'.heap o p) : Rep0 c ι ⟨σ.loc, σ.objs.set k o⟩ env s' := by
  have hO := own_get hp
  have kS : ∀ b o, s.heap.get? b = some o → StillAt o → s'.heap.get? b = some o := by
    intro b o e h
    refine hk b o e ?_ ?_ ?_
    · rintro rfl; obtain ⟨o', e', n⟩ := R.owned hO.1; rw [e] at e'; cases e'; exact n h
    · rintro rfl; obtain ⟨o', e', n⟩ := R.owned hO.2; rw [e] at e'; cases e'; exact n h
    · rintro rfl
      obtain ⟨m, hn, _⟩ := R.ns
      obtain ⟨o', e', es, k, hd⟩ := Heap.Ns.notStill hn
      rw [e] at e'; cases e'
      exact h.noDict hd
  refine { R with keep := ?_, len := ?_, objs := ?_, ns := ?_ }
  · intro b o e
    have g1 := R.above _ hO.1
    have g2 := R.above _ hO.2
    have g3 := R.aboveL
    refine hk b o (R.keep b o e) ?_ ?_ ?_
    · rintro rfl; rw [e] at g1; cases g1
    · rintro rfl; rw [e] at g2; cases g2
    · rintro rfl; rw [e] at g3; cases g3
  · simp [R.len]
  · intro j o' q e1 e2
    by_cases hj : j = k
    · subst hj
      rw [hp] at e2; cases e2
      have hlt := (List.getElem?_eq_some_iff.mp ho₀).1
      rw [List.getElem?_set_self hlt] at e1; cases e1
      exact ho kS
    · rw [List.getElem?_set_ne (Ne.symm hj)] at e1
      obtain ⟨a1, a2, a3, a4⟩ := apart_of R.apart e2 hp hj
      exact (R.objs j o' q e1 e2).mono kS (List.take_length ..) (fun o e => hk _ o e a1 a2 fun q => R.notL (q ▸ (own_get e2).1)) (fun o e => hk _ o e a3 a4 fun q => R.notL (q ▸ (own_get e2).2))
  · obtain ⟨m, hn, hm⟩ := R.ns
    exact ⟨m, hns m hn, fun i x v e1 e2 => let ⟨val, e, r⟩ := hm i x v e1 e2; ⟨val, e, r.mono kS (List.take_length ..)⟩⟩
theorem Ext.change {L n ι s s'} {k : Nat} {p : Addr × Addr} (hp : ι[k]? = some p) (hk : ∀ b o, s.heap.get? b = some o → b ≠ p.1 → b ≠ p.2 → b ≠ L → s'.heap.get? b = some o)
    (ho : s'.os = s.os) (hg : s'.gens = s.gens) : Ext L n ι s ι s' :=
  ⟨rfl, fun _ h => .inl h, fun b o e h hL => hk b o e (fun q => h (q ▸ (own_get hp).1)) (fun q => h (q ▸ (own_get hp).2)) hL, ho, hg⟩
/-- a name is bound -/
theorem Rep0.store {c ι σ env s h' m} {i : Nat} {x : Str} {v : V} {val : Value} {tk : Nat} (R : Rep0 c ι σ env s) (hx : c.names[i]? = some x) (hxl : c.scope.names.lookup x = some .local)
    (r : VR ι s.heap v val) (hn : s.heap.Ns env.locals m) (hm : ∀ (i : Nat) (x : Str) (v : V), c.names[i]? = some x → σ.loc[i]? = some (some v) → ∃ val, NameIs c env m x v val ∧ VR ι s.heap v val)
    (hn' : h'.Ns env.locals (fun y => if y = x then some val else m y)) (hs : Heap.SameBut env.locals s.heap h') :
    Rep0 c ι ⟨σ.loc.set i (some v), σ.objs⟩ env { s with heap := h', toks := tk } := by
  have kL : ∀ b o, s.heap.get? b = some o → b ≠ env.locals → h'.get? b = some o := fun b o e hb => (hs.2 b hb).trans e
  have kS : ∀ b o, s.heap.get? b = some o → StillAt o → h'.get? b = some o := by
    intro b o e h
    refine kL b o e ?_
    rintro rfl
    obtain ⟨o', e', es, k, hd⟩ := Heap.Ns.notStill hn
    rw [e] at e'; cases e'
    exact h.noDict hd
  have kO : ∀ b o, own ι b → s.heap.get? b = some o → h'.get? b = some o := fun b o h e => kL b o e fun q => R.notL (q ▸ h)
  refine { R with keep := ?_, objs := ?_, cel := ?_, ns := ?_ }
  · intro b o e
    have := R.aboveL
    exact kL b o (R.keep b o e) (by rintro rfl; rw [e] at this; cases this)
  · intro k o p e1 e2
    exact (R.objs k o p e1 e2).mono kS (List.take_length ..) (fun o h => kO _ o (own_get e2).1 h) (fun o h => kO _ o (own_get e2).2 h)
  · intro j y e1 e2
    obtain ⟨k, hk⟩ := R.cel j y e1 e2
    refine ⟨k, ?_⟩
    have hj : j ≠ i := by
      rintro rfl
      rw [hx] at e1; cases e1
      rw [hxl] at e2; cases e2
    show (σ.loc.set i (some v))[j]? = _
    rw [List.getElem?_set_ne (Ne.symm hj)]; exact hk
  · refine ⟨_, hn', fun j y u e1 e2 => ?_⟩
    by_cases hj : j = i
    · subst hj
      rw [hx] at e1; cases e1
      have hlt : j < σ.loc.length := by
        have := (List.getElem?_eq_some_iff.mp e2).1; simpa using this
      rw [List.getElem?_set_self hlt] at e2; cases e2
      exact ⟨val, .inl ⟨hxl, by simp⟩, r.mono kS (List.take_length ..)⟩
    · rw [List.getElem?_set_ne (Ne.symm hj)] at e2
      obtain ⟨w, e, r'⟩ := hm j y u e1 e2
      have hne : y ≠ x := by
        rintro rfl
        obtain ⟨h1, h2⟩ := List.getElem?_eq_some_iff.mp e1
        obtain ⟨h3, h4⟩ := List.getElem?_eq_some_iff.mp hx
        exact hj ((List.getElem_inj R.good.nd).mp (h2.trans h4.symm))
      exact ⟨w, e.imp (fun h => ⟨h.1, by simp [hne, h.2]⟩) id, r'.mono kS (List.take_length ..)⟩
theorem Ext.store {n ι s h'} {env : Env} {tk : Nat} (hs : Heap.SameBut env.locals s.heap h') : Ext env.locals n ι s ι { s with heap := h', toks := tk } :=
  ⟨rfl, fun _ h => .inl h, fun b o e _ hb => (hs.2 b hb).trans e, rfl, rfl⟩
/-! the library's rules speak of a frame and a ledger: here the ledger is all that the heap holds -/
def noHeap : Heap := ⟨#[], {}⟩
theorem noHeap_get (a : Addr) : noHeap.get? a = none := by simp [noHeap, Heap.get?]
def allBut (h : Heap) (xs : List Addr) : List (Addr × Obj) := (List.range h.objs.size).filterMap fun b => if b ∈ xs then none else (h.get? b).map (b, ·)
theorem mem_allBut {h : Heap} {xs : List Addr} {b : Addr} {o : Obj} : (b, o) ∈ allBut h xs ↔ h.get? b = some o ∧ b ∉ xs := by
  simp only [allBut, List.mem_filterMap, List.mem_range]
  constructor
  · rintro ⟨a, ha, e⟩
    split at e
    · cases e
    · rename_i hx
      obtain ⟨o', ho, e'⟩ := Option.map_eq_some_iff.mp e
      cases e'; exact ⟨ho, hx⟩
  · rintro ⟨e, hx⟩
    exact ⟨b, Heap.lt_size e, by rw [if_neg hx, e]; rfl⟩
theorem allBut_ne {h : Heap} {xs : List Addr} {a : Addr} (ha : a ∈ xs) : ∀ p ∈ allBut h xs, p.1 ≠ a := fun p hp e => (mem_allBut.mp (show (p.1, p.2) ∈ allBut h xs from hp)).2 (e ▸ ha)
theorem fr_of {h : Heap} {L : Addr} {m} (hn : h.Ns L m) : Fr noHeap L h m := ⟨hn, fun b o e => (by rw [noHeap_get] at e; cases e), Nat.zero_le _⟩
theorem news_of {h : Heap} {L : Addr} {xs : List Addr} (hL : L ∈ xs) : News noHeap L h (allBut h xs) := fun p hp =>
  let ⟨a, b⟩ := mem_allBut.mp (show (p.1, p.2) ∈ allBut h xs from hp)
  ⟨a, fun e => b (e ▸ hL), noHeap_get _⟩
theorem news_cons {h : Heap} {L a : Addr} {o : Obj} {news : List (Addr × Obj)} (N : News noHeap L h news) (ho : h.get? a = some o) (hL : a ≠ L) : News noHeap L h ((a, o) :: news) := fun p hp => by
  rcases List.mem_cons.mp hp with rfl | hp
  · exact ⟨ho, hL, noHeap_get _⟩
  · exact N p hp
theorem kept_of {h h' : Heap} {L : Addr} {xs : List Addr} {news : List (Addr × Obj)} (N : News noHeap L h' news) (hs : ∀ p ∈ allBut h xs, p ∈ news) : ∀ b o, h.get? b = some o → b ∉ xs → h'.get? b = some o :=
  fun b o e hb => (N (b, o) (hs _ (mem_allBut.mpr ⟨e, hb⟩))).1
/-- a stretch that the ledger tells: nothing but the frame's dict may have been laid anew -/
theorem Rep0.ledger {c ι σ env s s' m} (R : Rep0 c ι σ env s) (hn : s.heap.Ns env.locals m) (F' : Fr noHeap env.locals s'.heap m) {news : List (Addr × Obj)} (N' : News noHeap env.locals s'.heap news)
    (hs : ∀ p ∈ allBut s.heap [env.locals], p ∈ news) : (∀ b o, s.heap.get? b = some o → b ≠ env.locals → s'.heap.get? b = some o) ∧ Rep0 c ι σ env s' := by
  have hk : ∀ b o, s.heap.get? b = some o → b ≠ env.locals → s'.heap.get? b = some o := fun b o e h => kept_of N' hs b o e (by simpa using h)
  refine ⟨hk, R.keepBut (fun b => b = env.locals) hk (fun b e h => R.notL (e ▸ h)) (fun m' hn' => ?_) (fun b e => e ▸ R.aboveL) (fun b o e h1 h2 => ?_)⟩
  · obtain ⟨o1, es1, k1, h1, d1, a1, b1⟩ := hn
    obtain ⟨o2, es2, k2, h2, d2, a2, b2⟩ := hn'
    rw [h1] at h2; cases h2; rw [d1] at d2; cases d2
    have : m' = m := funext fun x => (b2 x).symm.trans (b1 x)
    rw [this]; exact F'.ns
  · subst e
    obtain ⟨o', e', es, k, hd⟩ := Heap.Ns.notStill hn
    rw [h1] at e'; cases e'
    exact h2.noDict hd
theorem Ns.same {h h' : Heap} {a : Addr} {m m' : Str → Option Value} (hn : h.Ns a m) (hn' : h.Ns a m') (hx : h'.Ns a m) : h'.Ns a m' := by
  obtain ⟨o1, es1, k1, h1, d1, a1, b1⟩ := hn
  obtain ⟨o2, es2, k2, h2, d2, a2, b2⟩ := hn'
  rw [h1] at h2; cases h2; rw [d1] at d2; cases d2
  have : m' = m := funext fun x => (b2 x).symm.trans (b1 x)
  rw [this]; exact hx
theorem Ext.but {L n ι s s'} (hk : ∀ b o, s.heap.get? b = some o → b ≠ L → s'.heap.get? b = some o) (ho : s'.os = s.os) (hg : s'.gens = s.gens) : Ext L n ι s ι s' :=
  ⟨rfl, fun _ h => .inl h, fun b o e _ hb => hk b o e hb, ho, hg⟩
set_option Elab.async false
set_option autoImplicit true
set_option linter.unusedVariables false
inductive Loc : List Str → List (Option V) → Str → V → Prop where
  | head {x ns v ls} : Loc (x :: ns) (some v :: ls) x v
  | tail {x y ns v l ls} : Loc ns ls x v → Loc (y :: ns) (l :: ls) x v
/-- no cell stands there -/
def noCel : Option V → Bool
  | some (.cel _) => false
  | _ => true
inductive LocSet : List Str → List (Option V) → Str → V → List (Option V) → Prop where
  | head {x ns v l ls} (hl : noCel l = true := by first | with_unfolding_all rfl | assumption) : LocSet (x :: ns) (l :: ls) x v (some v :: ls)
  | tail {x y ns v l ls ls'} : LocSet ns ls x v ls' → LocSet (y :: ns) (l :: ls) x v (l :: ls')
theorem Loc.at {ns ls x v} (h : Loc ns ls x v) : ∃ i : Nat, ns[i]? = some x ∧ ls[i]? = some (some v) := by
  induction h with
  | head => exact ⟨0, rfl, rfl⟩
  | tail _ ih => obtain ⟨i, a, b⟩ := ih; exact ⟨i + 1, by simpa using a, by simpa using b⟩
theorem LocSet.at {ns ls x v ls'} (h : LocSet ns ls x v ls') : ∃ i : Nat, ns[i]? = some x ∧ ls' = ls.set i (some v) ∧ ∃ l, ls[i]? = some l ∧ noCel l = true := by
  induction h with
  | head hl => exact ⟨0, rfl, rfl, _, rfl, hl⟩
  | tail _ ih => obtain ⟨i, a, b, l, e, hl⟩ := ih; exact ⟨i + 1, by simpa using a, by simp [b], l, by simpa using e, hl⟩
theorem Rep0.isLoc {c ι σ env s} (R : Rep0 c ι σ env s) {i : Nat} {x : Str} (hi : c.names[i]? = some x) {l : Option V} (e : σ.loc[i]? = some l) (hl : noCel l = true) : c.scope.names.lookup x = some .local := by
  rcases R.good.loc x (List.mem_of_getElem? hi) with h | h
  · exact h
  · obtain ⟨k, hk⟩ := R.cel i x hi h
    rw [e] at hk; cases hk; cases hl
theorem vr_int {ι h i t} : VR ι h (.d (.int i)) (.int i t) := DR.int i t
theorem vr_str {ι h l t} : VR ι h (.d (.str l)) (.str ⟨l.toArray⟩ t) := DR.str l t
theorem vr_none {ι h} : VR ι h (.d .none) .none := DR.none
theorem vr_bool {ι h b} : VR ι h (.d (.bool b)) (.bool b) := DR.bool b
theorem vr_val {ι h v} : VR ι h (.val v) v := rfl
theorem vr_int_inv {ι h i v} (r : VR ι h (.d (.int i)) v) : ∃ t, v = .int i t := by cases r; exact ⟨_, rfl⟩
theorem vr_str_inv {ι h l v} (r : VR ι h (.d (.str l)) v) : ∃ t, v = .str ⟨l.toArray⟩ t := by cases r; exact ⟨_, rfl⟩
theorem vr_none_inv {ι h v} (r : VR ι h (.d .none) v) : v = .none := by cases r; rfl
theorem vr_bool_inv {ι h b v} (r : VR ι h (.d (.bool b)) v) : v = .bool b := by cases r; rfl
section
variable {c : Cx} {σ : St} {Q : V → St → Prop} {QB : Bool → St → Prop}
theorem ne_debug {x : Str} {l : List Str} (h : x ∈ l) (hd : ("__debug__" : Str) ∉ l) : (x == ("__debug__" : Str)) = false := by
  simp only [beq_eq_false_iff_ne, ne_eq]; rintro rfl; exact hd h
theorem load_local {A env ι s x v} {Q' : Value → Shared → Prop} (R : Rep c ι σ env s) (hv : Loc c.names σ.loc x v) (hc : isCel v = false) (h : ∀ val, VR ι s.heap v val → Q' val s) : wpAny c.M A (loadName env x) Q' NoE s := by
  obtain ⟨i, h1, h2⟩ := hv.at
  obtain ⟨m, hn, hm⟩ := R.ns
  obtain ⟨val, e, r⟩ := hm i x v h1 h2
  have hx := List.mem_of_getElem? h1
  rcases e with ⟨e1, e2⟩ | ⟨e1, _⟩
  · exact wpAny_loadName_local (by rw [R.scope]; exact R.good.kind) (by rw [Env.kindOf, R.scope]; exact e1) hn e2 (h val r)
  · rw [hc] at e1; cases e1
theorem TE_name {x : Str} {pos : Pos} {v : V} (hv : Loc c.names σ.loc x v) (q : Q v σ) (hc : isCel v = false := by first | with_unfolding_all rfl | assumption) : TE c (.Name x pos) σ Q := by
  intro A env ι s ok R
  obtain ⟨i, h1, _⟩ := hv.at
  exact wpAny_Name (load_local R hv hc fun val r => PV.here R r q) (ne_debug (List.mem_of_getElem? h1) R.good.dbg.1)
/-- a name that stands as a cell -/
theorem Rep0.celAt {ι env s} (R : Rep0 c ι σ env s) {x : Str} {k : Nat} (hv : Loc c.names σ.loc x (.cel k)) (hx : c.scope.names.lookup x = some .cell) : ∃ p, ι[k]? = some p ∧ env.kindOf x = some .cell ∧ env.cells.lookup x = some p.1 := by
  obtain ⟨i, h1, h2⟩ := hv.at
  obtain ⟨m, hn, hm⟩ := R.ns
  obtain ⟨val, e, r⟩ := hm i x _ h1 h2
  obtain ⟨p, hp, rfl⟩ := r
  rcases e with ⟨e1, _⟩ | ⟨_, e1, a, e2, e3⟩
  · rw [hx] at e1; cases e1
  · cases e3
    exact ⟨p, hp, by rw [Env.kindOf, R.scope]; exact e1, e2⟩
theorem TE_cell {x : Str} {pos : Pos} {k : Nat} {v : V} (hv : Loc c.names σ.loc x (.cel k)) (ho : σ.objs[k]? = some (.cell (some v))) (q : Q v σ) (hx : c.scope.names.lookup x = some .cell := by first | with_unfolding_all rfl | assumption) : TE c (.Name x pos) σ Q := by
  intro A env ι s ok R
  obtain ⟨i, h1, _⟩ := hv.at
  obtain ⟨p, hp, e1, e2⟩ := R.toRep0.celAt hv hx
  obtain ⟨_, ov, hc, hu⟩ := R.objs k _ p ho hp
  obtain ⟨val, rfl, r⟩ := hu v rfl
  exact wpAny_Name (wpAny_loadName_cell (by rw [R.scope]; exact R.good.kind) e1 e2 hc (PV.here R r q)) (ne_debug (List.mem_of_getElem? h1) R.good.dbg.1)
/-- a word of the module, or a built-in -/
def GlobIs (G : Cfg) (x : Str) (v : Value) : Prop := nsIn G.K mainGlobals x = some (some v) ∨ (nsIn G.K mainGlobals x = some none ∧ x ≠ ("__name__" : Str) ∧ bootBuiltins x = some v)
theorem TE_glob {x : Str} {pos : Pos} {v : V} {val : Value} (hx : x ∈ c.globs) (hg : GlobIs c.G x val) (hr : ∀ ι h, VR ι h v val) (q : Q v σ) : TE c (.Name x pos) σ Q := by
  intro A env ι s ok R
  refine Calls.Name_function_global (by rw [R.scope]; exact R.good.kind) (by rw [Env.kindOf, R.scope]; exact R.good.glob x hx) ?_ (ne_debug hx R.good.dbg.2)
  unfold loadGlobal
  rw [R.globals]
  have X := c.G.X.keeps R.keep
  rcases hg with hg | ⟨hg, hn, hb⟩
  · refine wpAny_bind ((looks_nsIn X hg).here ?_)
    exact wpAny_pure (PV.here R (hr _ _) q)
  · refine wpAny_bind ((looks_nsIn X hg).here ?_)
    dsimp only
    rw [R.builtins]
    refine wpAny_bind (wpAny_nsGet (c.G.b.keeps R.keep) ?_)
    rw [c.G.hmb x hn, hb]
    exact wpAny_pure (PV.here R (hr _ _) q)
theorem TE_int {i : Int} {k : Nat} {pos : Pos} (q : Q (.d (.int i)) σ) : TE c (.Constant (.int i) k pos) σ Q := fun A env ι s ok R =>
  wpAny_Constant_int (PV.same R vr_int q)
theorem TE_str {x : Str} {l : List Nat} {k : Nat} {pos : Pos} (hx : x = ⟨l.toArray⟩) (q : Q (.d (.str l)) σ) : TE c (.Constant (.str x) k pos) σ Q := fun A env ι s ok R =>
  Calls.Constant_str (PV.same R (by rw [hx]; exact vr_str) q)
theorem TE_none {k : Nat} {pos : Pos} (q : Q (.d .none) σ) : TE c (.Constant .none k pos) σ Q := fun A env ι s ok R => Constant_none (PV.here R vr_none q)
theorem TE_bool {b : Bool} {k : Nat} {pos : Pos} (q : Q (.d (.bool b)) σ) : TE c (.Constant (.bool b) k pos) σ Q := fun A env ι s ok R => Constant_bool (PV.here R vr_bool q)
/-- an operation upon two values -/
def TBin (c : Cx) (op : Operator) (a b : V) (σ : St) (Q : V → St → Prop) : Prop :=
  ∀ A env ι s va vb, Ok A c.n → Rep c ι σ env s → VR ι s.heap a va → VR ι s.heap b vb → wpAny c.M A (binaryOp op va vb) (PV c env ι s Q) NoE s
def TInp (c : Cx) (op : Operator) (a b : V) (σ : St) (Q : V → St → Prop) : Prop :=
  ∀ A env ι s va vb, Ok A c.n → Rep c ι σ env s → VR ι s.heap a va → VR ι s.heap b vb → wpAny c.M A (inplaceOp op va vb) (PV c env ι s Q) NoE s
/-- a comparison that tells a bool -/
def PC (c : Cx) (env : Env) (ι : Io) (s : Shared) (Q : Bool → St → Prop) (val : Value) (s' : Shared) : Prop := ∃ b, val = .bool b ∧ PB c env ι s Q b s'
def TC (c : Cx) (op : CmpOp) (a b : V) (σ : St) (Q : Bool → St → Prop) : Prop :=
  ∀ A env ι s va vb, Ok A c.n → Rep c ι σ env s → VR ι s.heap a va → VR ι s.heap b vb → wpAny c.M A (compareOp op va vb) (PC c env ι s Q) NoE s
def TTr (c : Cx) (a : V) (σ : St) (Q : Bool → St → Prop) : Prop :=
  ∀ A env ι s va, Ok A c.n → Rep c ι σ env s → VR ι s.heap a va → wpAny c.M A (truthy va) (PB c env ι s Q) NoE s
theorem PV.ofPC {c env ι s val s'} (p : PC c env ι s (fun b σ => Q (.d (.bool b)) σ) val s') : PV c env ι s Q val s' := by
  obtain ⟨b, rfl, ι', σ', x, R, q⟩ := p
  exact ⟨ι', _, σ', x, R, vr_bool, q⟩
theorem TE_bin {l r : Expr} {op : Operator} {pos : Pos} (h : TE c l σ fun a σ₁ => TE c r σ₁ fun b σ₂ => TBin c op a b σ₂ Q) : TE c (.BinOp l op r pos) σ Q := by
  intro A env ι s ok R
  refine wpAny_BinOp (wpAny_mono (h A env ι s ok R) (fun va s1 p1 => ?_) fun _ _ x => x)
  obtain ⟨ι1, a, σ1, x1, R1, r1, q1⟩ := p1
  refine wpAny_mono (q1 A env ι1 s1 ok R1) (fun vb s2 p2 => ?_) fun _ _ x => x
  obtain ⟨ι2, b, σ2, x2, R2, r2, q2⟩ := p2
  exact wpAny_mono (q2 A env ι2 s2 va vb ok R2 (R1.vr x2 (Nat.le_refl _) r1) r2) (fun _ _ p => PV.trans x1 (PV.trans x2 p)) fun _ _ x => x
theorem TE_cmp {l r : Expr} {op : CmpOp} {pos : Pos} (h : TE c l σ fun a σ₁ => TE c r σ₁ fun b σ₂ => TC c op a b σ₂ fun b σ => Q (.d (.bool b)) σ) (hm : behindInMarks op r = false := by with_unfolding_all rfl) :
    TE c (.Compare l [op] [r] pos) σ Q := by
  intro A env ι s ok R
  refine wpAny_Compare1 (wpAny_mono (h A env ι s ok R) (fun va s1 p1 => ?_) fun _ _ x => x) hm
  obtain ⟨ι1, a, σ1, x1, R1, r1, q1⟩ := p1
  refine wpAny_mono (q1 A env ι1 s1 ok R1) (fun vb s2 p2 => ?_) fun _ _ x => x
  obtain ⟨ι2, b, σ2, x2, R2, r2, q2⟩ := p2
  exact wpAny_mono (q2 A env ι2 s2 va vb ok R2 (R1.vr x2 (Nat.le_refl _) r1) r2) (fun _ _ p => PV.trans x1 (PV.trans x2 (PV.ofPC p))) fun _ _ x => x
theorem TT_cmp {l r : Expr} {op : CmpOp} {pos : Pos} (h : TE c l σ fun a σ₁ => TE c r σ₁ fun b σ₂ => TC c op a b σ₂ QB) (hm : behindInMarks op r = false := by with_unfolding_all rfl) :
    TT c (.Compare l [op] [r] pos) σ QB := by
  intro A env ι s ok R
  refine wpAny_isTrue_Compare1 (wpAny_mono (h A env ι s ok R) (fun va s1 p1 => ?_) fun _ _ x => x) hm
  obtain ⟨ι1, a, σ1, x1, R1, r1, q1⟩ := p1
  refine wpAny_mono (q1 A env ι1 s1 ok R1) (fun vb s2 p2 => ?_) fun _ _ x => x
  obtain ⟨ι2, b, σ2, x2, R2, r2, q2⟩ := p2
  refine wpAny_mono (q2 A env ι2 s2 va vb ok R2 (R1.vr x2 (Nat.le_refl _) r1) r2) (fun val s3 p => ?_) fun _ _ x => x
  obtain ⟨b, rfl, p⟩ := p
  exact wpAny_truthy_bool (PB.trans x1 (PB.trans x2 p))
/-- a chain of two comparisons -/
theorem TT_cmp2 {l r₁ r₂ : Expr} {op₁ op₂ : CmpOp} {pos : Pos}
    (h : TE c l σ fun a σ₁ => TE c r₁ σ₁ fun b σ₂ => TC c op₁ a b σ₂ fun t σ₃ => if t then TE c r₂ σ₃ fun d σ₄ => TC c op₂ b d σ₄ QB else QB false σ₃)
    (hm : lastMarks [op₁, op₂] [r₁, r₂] = false := by with_unfolding_all rfl) :
    TT c (.Compare l [op₁, op₂] [r₁, r₂] pos) σ QB := by
  intro A env ι s ok R
  refine isTrue_chain (wpAny_mono (h A env ι s ok R) (fun va s1 p1 => ?_) fun _ _ x => x) hm
  obtain ⟨ι1, a, σ1, x1, R1, r1, q1⟩ := p1
  show wpAny _ _ (testChain pos va [op₁, op₂] [eval r₁ env, eval r₂ env]) _ _ _
  unfold testChain
  refine wpAny_bind (wpAny_holding (wpAny_mono (q1 A env ι1 s1 ok R1) (fun vb s2 p2 => ?_) fun _ _ x => x))
  obtain ⟨ι2, b, σ2, x2, R2, r2, q2⟩ := p2
  refine wpAny_bind (wpAny_standAt (wpAny_bind (wpAny_holding (wpAny_mono (q2 A env ι2 s2 va vb ok R2 (R1.vr x2 (Nat.le_refl _) r1) r2) (fun val s3 p3 => ?_) fun _ _ x => x))))
  obtain ⟨t, rfl, ι3, σ3, x3, R3, q3⟩ := p3
  refine wpAny_bind (wpAny_release' (wpAny_bind (wpAny_holding (wpAny_truthy_bool ?_))))
  cases t with
  | false => exact wpAny_pure (PB.trans x1 (PB.trans x2 ⟨ι3, σ3, x3, R3, q3⟩))
  | true =>
    show wpAny _ _ (testChain pos vb [op₂] [eval r₂ env]) _ _ _
    unfold testChain
    refine wpAny_bind (wpAny_holding (wpAny_mono (q3 A env ι3 s3 ok R3) (fun vd s4 p4 => ?_) fun _ _ x => x))
    obtain ⟨ι4, d, σ4, x4, R4, r4, q4⟩ := p4
    refine wpAny_bind (wpAny_standAt (wpAny_bind (wpAny_operate' (wpAny_mono (q4 A env ι4 s4 vb vd ok R4 (R3.vr x4 (Nat.le_refl _) (R2.vr x3 (Nat.le_refl _) r2)) r4) (fun val s5 p5 => ?_) fun _ _ x => x))))
    obtain ⟨t, rfl, p5⟩ := p5
    exact wpAny_holding (wpAny_truthy_bool (PB.trans x1 (PB.trans x2 (PB.trans x3 (PB.trans x4 p5)))))
theorem TE_cmp2 {l r₁ r₂ : Expr} {op₁ op₂ : CmpOp} {pos : Pos}
    (h : TE c l σ fun a σ₁ => TE c r₁ σ₁ fun b σ₂ => TC c op₁ a b σ₂ fun t σ₃ => if t then TE c r₂ σ₃ fun d σ₄ => TC c op₂ b d σ₄ (fun b σ => Q (.d (.bool b)) σ) else Q (.d (.bool false)) σ₃)
    (hm : lastMarks [op₁, op₂] [r₁, r₂] = false := by with_unfolding_all rfl) :
    TE c (.Compare l [op₁, op₂] [r₁, r₂] pos) σ Q := by
  intro A env ι s ok R
  refine Compare_chain (wpAny_mono (h A env ι s ok R) (fun va s1 p1 => ?_) fun _ _ x => x) hm
  obtain ⟨ι1, a, σ1, x1, R1, r1, q1⟩ := p1
  show wpAny _ _ (compareChain pos va [op₁, op₂] [eval r₁ env, eval r₂ env]) _ _ _
  unfold compareChain
  refine wpAny_bind (wpAny_holding (wpAny_mono (q1 A env ι1 s1 ok R1) (fun vb s2 p2 => ?_) fun _ _ x => x))
  obtain ⟨ι2, b, σ2, x2, R2, r2, q2⟩ := p2
  refine wpAny_bind (wpAny_standAt (wpAny_bind (wpAny_holding (wpAny_mono (q2 A env ι2 s2 va vb ok R2 (R1.vr x2 (Nat.le_refl _) r1) r2) (fun val s3 p3 => ?_) fun _ _ x => x))))
  obtain ⟨t, rfl, ι3, σ3, x3, R3, q3⟩ := p3
  refine wpAny_bind (wpAny_release' (wpAny_bind (wpAny_holding (wpAny_truthy_bool ?_))))
  cases t with
  | false => exact wpAny_pure (PV.trans x1 (PV.trans x2 ⟨ι3, _, σ3, x3, R3, vr_bool, q3⟩))
  | true =>
    show wpAny _ _ (compareChain pos vb [op₂] [eval r₂ env]) _ _ _
    unfold compareChain
    refine wpAny_bind (wpAny_holding (wpAny_mono (q3 A env ι3 s3 ok R3) (fun vd s4 p4 => ?_) fun _ _ x => x))
    obtain ⟨ι4, d, σ4, x4, R4, r4, q4⟩ := p4
    refine wpAny_bind (wpAny_standAt (wpAny_operate' (wpAny_mono (q4 A env ι4 s4 vb vd ok R4 (R3.vr x4 (Nat.le_refl _) (R2.vr x3 (Nat.le_refl _) r2)) r4) (fun val s5 p5 => ?_) fun _ _ x => x)))
    exact PV.trans x1 (PV.trans x2 (PV.trans x3 (PV.trans x4 (PV.ofPC p5))))
theorem TE_if {t a b : Expr} {pos : Pos} (h : TT c t σ fun x σ₁ => if x then TE c a σ₁ Q else TE c b σ₁ Q) : TE c (.IfExp t a b pos) σ Q := by
  intro A env ι s ok R
  refine wpAny_IfExp (wpAny_mono (h A env ι s ok R) (fun x s1 p1 => ?_) fun _ _ x => x)
  obtain ⟨ι1, σ1, x1, R1, q1⟩ := p1
  cases x with
  | true => exact wpAny_mono (q1 A env ι1 s1 ok R1) (fun _ _ p => PV.trans x1 p) fun _ _ x => x
  | false => exact wpAny_mono (q1 A env ι1 s1 ok R1) (fun _ _ p => PV.trans x1 p) fun _ _ x => x
theorem TT_not {x : Expr} {pos : Pos} (h : TT c x σ fun b σ₁ => QB (!b) σ₁) : TT c (.UnaryOp .Not x pos) σ QB := by
  intro A env ι s ok R
  exact isTrue_not (wpAny_mono (h A env ι s ok R) (fun b s1 ⟨ι1, σ1, x1, R1, q1⟩ => ⟨ι1, σ1, x1, R1, q1⟩) fun _ _ x => x)
theorem TT_and0 {pos : Pos} (h : QB true σ) : TT c (.BoolOp .And [] pos) σ QB := fun A env ι s ok R => isTrue_and_nil (PB.here R h)
theorem TT_or0 {pos : Pos} (h : QB false σ) : TT c (.BoolOp .Or [] pos) σ QB := fun A env ι s ok R => isTrue_or_nil (PB.here R h)
theorem TT_and {x : Expr} {r : List Expr} {pos : Pos} (h : TT c x σ fun b σ₁ => if b then TT c (.BoolOp .And r pos) σ₁ QB else QB false σ₁) : TT c (.BoolOp .And (x :: r) pos) σ QB := by
  intro A env ι s ok R
  refine isTrue_and (wpAny_mono (h A env ι s ok R) (fun b s1 p1 => ?_) fun _ _ x => x)
  obtain ⟨ι1, σ1, x1, R1, q1⟩ := p1
  cases b with
  | true => exact wpAny_mono (q1 A env ι1 s1 ok R1) (fun _ _ p => PB.trans x1 p) fun _ _ x => x
  | false => exact ⟨ι1, σ1, x1, R1, q1⟩
theorem TT_or {x : Expr} {r : List Expr} {pos : Pos} (h : TT c x σ fun b σ₁ => if b then QB true σ₁ else TT c (.BoolOp .Or r pos) σ₁ QB) : TT c (.BoolOp .Or (x :: r) pos) σ QB := by
  intro A env ι s ok R
  refine isTrue_or (wpAny_mono (h A env ι s ok R) (fun b s1 p1 => ?_) fun _ _ x => x)
  obtain ⟨ι1, σ1, x1, R1, q1⟩ := p1
  cases b with
  | false => exact wpAny_mono (q1 A env ι1 s1 ok R1) (fun _ _ p => PB.trans x1 p) fun _ _ x => x
  | true => exact ⟨ι1, σ1, x1, R1, q1⟩
/-- any other test -/
theorem TT_plain {e : Expr} (h : TE c e σ fun v σ₁ => TTr c v σ₁ QB) (he : ∀ env whole, isTrue e env whole = (do let v ← whole; standAt e.pos; holding [v] (truthy v)) := by intro _ _; rfl) : TT c e σ QB := by
  intro A env ι s ok R
  refine isTrue_plain (wpAny_mono (h A env ι s ok R) (fun va s1 p1 => ?_) fun _ _ x => x) (he _ _)
  obtain ⟨ι1, a, σ1, x1, R1, r1, q1⟩ := p1
  exact wpAny_mono (q1 A env ι1 s1 va ok R1 r1) (fun _ _ p => PB.trans x1 p) fun _ _ x => x
theorem TE_bool1 {op : BoolOp} {e : Expr} {pos : Pos} (h : TE c e σ Q) : TE c (.BoolOp op [e] pos) σ Q := fun A env ι s ok R => BoolOp_one (h A env ι s ok R)
theorem TE_and {e₁ e₂ : Expr} {r : List Expr} {pos : Pos} (h : TE c e₁ σ fun v σ₁ => TTr c v σ₁ fun b σ₂ => if b then TE c (.BoolOp .And (e₂ :: r) pos) σ₂ Q else Q v σ₂) : TE c (.BoolOp .And (e₁ :: e₂ :: r) pos) σ Q := by
  intro A env ι s ok R
  refine BoolOp_and (wpAny_mono (h A env ι s ok R) (fun va s1 p1 => ?_) fun _ _ x => x)
  obtain ⟨ι1, a, σ1, x1, R1, r1, q1⟩ := p1
  refine wpAny_mono (q1 A env ι1 s1 va ok R1 r1) (fun b s2 p2 => ?_) fun _ _ x => x
  obtain ⟨ι2, σ2, x2, R2, q2⟩ := p2
  cases b with
  | true => exact wpAny_mono (q2 A env ι2 s2 ok R2) (fun _ _ p => PV.trans x1 (PV.trans x2 p)) fun _ _ x => x
  | false => exact PV.trans x1 ⟨ι2, a, σ2, x2, R2, R1.vr x2 (Nat.le_refl _) r1, q2⟩
theorem TE_or {e₁ e₂ : Expr} {r : List Expr} {pos : Pos} (h : TE c e₁ σ fun v σ₁ => TTr c v σ₁ fun b σ₂ => if b then Q v σ₂ else TE c (.BoolOp .Or (e₂ :: r) pos) σ₂ Q) : TE c (.BoolOp .Or (e₁ :: e₂ :: r) pos) σ Q := by
  intro A env ι s ok R
  refine BoolOp_or (wpAny_mono (h A env ι s ok R) (fun va s1 p1 => ?_) fun _ _ x => x)
  obtain ⟨ι1, a, σ1, x1, R1, r1, q1⟩ := p1
  refine wpAny_mono (q1 A env ι1 s1 va ok R1 r1) (fun b s2 p2 => ?_) fun _ _ x => x
  obtain ⟨ι2, σ2, x2, R2, q2⟩ := p2
  cases b with
  | false => exact wpAny_mono (q2 A env ι2 s2 ok R2) (fun _ _ p => PV.trans x1 (PV.trans x2 p)) fun _ _ x => x
  | true => exact PV.trans x1 ⟨ι2, a, σ2, x2, R2, R1.vr x2 (Nat.le_refl _) r1, q2⟩
end
set_option Elab.async false
set_option autoImplicit true
set_option linter.unusedVariables false
def PU (c : Cx) (env : Env) (ι : Io) (s : Shared) (Q : St → Prop) (s' : Shared) : Prop :=
  ∃ ι' σ', Ext env.locals ι.length ι s ι' s' ∧ Rep c ι' σ' env s' ∧ Q σ'
theorem PU.trans {c env ι s ι₁ s₁ Q s'} (x : Ext env.locals ι.length ι s ι₁ s₁) (p : PU c env ι₁ s₁ Q s') : PU c env ι s Q s' :=
  let ⟨ι', σ', y, R, q⟩ := p
  ⟨ι', σ', x.trans (y.less (take_pre x.pre (Nat.le_refl _))), R, q⟩
/-- a value is assigned to a target -/
def TA (c : Cx) (t : Expr) (v : V) (σ : St) (Q : St → Prop) : Prop :=
  ∀ A env ι s val, Ok A c.n → Rep c ι σ env s → VR ι s.heap v val → wpAny c.M A (assign t env val) (fun _ => PU c env ι s Q) NoE s
/-- an attribute is set -/
def TSetA (c : Cx) (o : V) (attr : Str) (v : V) (σ : St) (Q : St → Prop) : Prop :=
  ∀ A env ι s ov val, Ok A c.n → Rep c ι σ env s → VR ι s.heap o ov → VR ι s.heap v val → wpAny c.M A (setAttr ov attr val) (fun _ => PU c env ι s Q) NoE s
def TSetI (c : Cx) (o i v : V) (σ : St) (Q : St → Prop) : Prop :=
  ∀ A env ι s ov iv val, Ok A c.n → Rep c ι σ env s → VR ι s.heap o ov → VR ι s.heap i iv → VR ι s.heap v val → wpAny c.M A (setItem ov iv val) (fun _ => PU c env ι s Q) NoE s
def TGet (c : Cx) (o : V) (attr : Str) (σ : St) (Q : V → St → Prop) : Prop :=
  ∀ A env ι s ov, Ok A c.n → Rep c ι σ env s → VR ι s.heap o ov → wpAny c.M A (getAttr ov attr true) (PV c env ι s Q) NoE s
def TAs (c : Cx) : List Expr → List D → St → (St → Prop) → Prop
  | [], [], σ, Q => Q σ
  | t :: ts, d :: ds, σ, Q => TA c t (.d d) σ fun σ₁ => TAs c ts ds σ₁ Q
  | _, _, _, _ => False
/-- what is forgotten: objects at the end, names -/
inductive LocLe : List (Option V) → List (Option V) → Prop where
  | nil : LocLe [] []
  | same {x l l'} : LocLe l l' → LocLe (x :: l) (x :: l')
  | drop {x l l'} : LocLe l l' → (hx : noCel x = true := by first | with_unfolding_all rfl | assumption) → LocLe (x :: l) (none :: l')
theorem LocLe.at {l l'} (h : LocLe l l') : ∀ (i : Nat) v, l'[i]? = some (some v) → l[i]? = some (some v) := by
  induction h with
  | nil => intro i v e; simp at e
  | same _ ih => intro i v e; cases i with | zero => simpa using e | succ i => simpa using ih i v (by simpa using e)
  | drop _ _ ih => intro i v e; cases i with | zero => simp at e | succ i => simpa using ih i v (by simpa using e)
theorem LocLe.cel {l l'} (h : LocLe l l') : ∀ (i k : Nat), l[i]? = some (some (.cel k)) → l'[i]? = some (some (.cel k)) := by
  induction h with
  | nil => intro i k e; simp at e
  | same _ ih => intro i k e; cases i with | zero => simpa using e | succ i => simpa using ih i k (by simpa using e)
  | drop _ hx ih => intro i k e; cases i with | zero => simp at e; subst e; cases hx | succ i => simpa using ih i k (by simpa using e)
theorem LocLe.refl : ∀ l, LocLe l l
  | [] => .nil
  | _ :: l => .same (LocLe.refl l)
def okV (n : Nat) : V → Bool
  | .obj k => decide (k < n)
  | .meth _ k => decide (k < n)
  | .cel k => decide (k < n)
  | _ => true
def okO (n : Nat) : O → Bool
  | .list _ => true
  | .inst _ _ vs => vs.all (okV n)
  | .cell v => (v.map (okV n)).getD true
def okL (n : Nat) : List (Option V) → Bool
  | [] => true
  | some v :: l => okV n v && okL n l
  | none :: l => okL n l
theorem okL.at {n l} (h : okL n l = true) : ∀ (i : Nat) v, l[i]? = some (some v) → okV n v = true := by
  induction l with
  | nil => intro i v e; simp at e
  | cons x l ih =>
    intro i v e
    cases i with
    | zero =>
      simp at e; subst e
      simp only [okL, Bool.and_eq_true] at h; exact h.1
    | succ i =>
      have h' : okL n l = true := by
        cases x with
        | none => exact h
        | some v => simp only [okL, Bool.and_eq_true] at h; exact h.2
      exact ih h' i v (by simpa using e)
structure Wk (n₀ : Nat) (σ σ' : St) : Prop where
  objs : ∃ t, σ.objs = σ'.objs ++ t
  base : n₀ ≤ σ'.objs.length
  okO : σ'.objs.all (okO σ'.objs.length) = true
  loc : LocLe σ.loc σ'.loc
  okL : okL σ'.objs.length σ'.loc = true
theorem VR.cut {ι : Io} {h : Heap} {n : Nat} {v : V} {val : Value} (r : VR ι h v val) (ok : okV n v = true) : VR (ι.take n) h v val := by
  cases v with
  | d x => exact r
  | val x => exact r
  | obj k =>
    obtain ⟨p, e, rfl⟩ := r
    exact ⟨p, by rw [List.getElem?_take, if_pos (of_decide_eq_true ok)]; exact e, rfl⟩
  | meth f k =>
    obtain ⟨p, q, e, r⟩ := r
    exact ⟨p, q, by rw [List.getElem?_take, if_pos (of_decide_eq_true ok)]; exact e, r⟩
  | cel k =>
    obtain ⟨p, e, rfl⟩ := r
    exact ⟨p, by rw [List.getElem?_take, if_pos (of_decide_eq_true ok)]; exact e, rfl⟩
theorem own_take {ι : Io} {n : Nat} {a : Addr} (h : own (ι.take n) a) : own ι a := let ⟨p, hp, e⟩ := h; ⟨p, List.mem_of_mem_take hp, e⟩
theorem Rep0.weaken {c ι σ σ' env s} (R : Rep0 c ι σ env s) (w : Wk c.n₀ σ σ') : Rep0 c (ι.take σ'.objs.length) σ' env s := by
  obtain ⟨⟨t, ht⟩, hb, hO, hl, hL⟩ := w
  have hlen : σ'.objs.length ≤ ι.length := by rw [R.len, ht]; simp
  refine { R with above := ?_, notL := ?_, apart := ?_, len := ?_, base := ?_, objs := ?_, cel := ?_, ns := ?_ }
  · exact fun a h => R.above a (own_take h)
  · exact fun h => R.notL (own_take h)
  · exact R.apart.sublist (List.take_sublist ..)
  · simp; omega
  · simp; omega
  · intro k o p e1 e2
    have hk : k < σ'.objs.length := (List.getElem?_eq_some_iff.mp e1).1
    have e2' : ι[k]? = some p := by rw [List.getElem?_take, if_pos hk] at e2; exact e2
    have e1' : σ.objs[k]? = some o := by rw [ht, List.getElem?_append_left hk]; exact e1
    have r := R.objs k o p e1' e2'
    have ok : Mine.okO σ'.objs.length o = true := List.all_eq_true.mp hO o (List.mem_of_getElem? e1)
    cases o with
    | list xs => exact r
    | cell v =>
      obtain ⟨e, ov, hc, hu⟩ := r
      refine ⟨e, ov, hc, fun u q => ?_⟩
      subst q
      obtain ⟨val, e1, r1⟩ := hu u rfl
      exact ⟨val, e1, r1.cut ok⟩
    | inst C ks vs =>
      obtain ⟨hg, ds, n, hd, he⟩ := r
      exact ⟨hg, ds, n, hd, { he with val := fun i v d a b => (he.val i v d a b).cut (List.all_eq_true.mp ok v (List.mem_of_getElem? a)) }⟩
  · intro i x e1 e2
    obtain ⟨k, hk⟩ := R.cel i x e1 e2
    exact ⟨k, hl.cel i k hk⟩
  · obtain ⟨m, hn, hm⟩ := R.ns
    exact ⟨m, hn, fun i x v e1 e2 => let ⟨val, e, r⟩ := hm i x v e1 (hl.at i v e2); ⟨val, e, r.cut (okL.at hL i v e2)⟩⟩
theorem Rep.weak {c ι σ σ' env s} (R : Rep c ι σ env s) (w : Wk c.n₀ σ σ') : Rep c (ι.take σ'.objs.length) σ' env s := (R.toRep0.weaken w).up R.tk
theorem Ext.cut {L n₀ n ι s} (h : n₀ ≤ n) : Ext L n₀ ι s (ι.take n) s :=
  ⟨by rw [List.take_take, Nat.min_eq_left h], fun a h => .inl (own_take h), fun _ _ e _ _ => e, rfl, rfl⟩
section
variable {c : Cx} {σ : St} {Q : Fl → St → Prop}
theorem TA_name {x : Str} {pos : Pos} {v : V} {loc' : List (Option V)} {Q : St → Prop} (h : LocSet c.names σ.loc x v loc') (q : Q ⟨loc', σ.objs⟩) : TA c (.Name x pos) v σ Q := by
  intro A env ι s val ok R r
  obtain ⟨i, hi, rfl, l, hl, hnl⟩ := h.at
  have hxl := R.toRep0.isLoc hi hl hnl
  obtain ⟨m, hn, hm⟩ := R.ns
  refine wpAny_assign_Name (wpAny_storeName_local (by rw [Env.kindOf, R.scope]; exact hxl) hn (fun h' hn' hs => ⟨ι, _, Ext.store hs, (R.store hi hxl r hn hm hn' hs).up (Nat.succ_pos _), q⟩) ?_)
  rw [R.scope, R.good.kind]; rfl
/-- a cell is written -/
theorem storeCell {x : Str} {k : Nat} {ov : Option V} {v : V} {Q : St → Prop} {A env ι s val} (R : Rep c ι σ env s) (hv : Loc c.names σ.loc x (.cel k)) (ho : σ.objs[k]? = some (.cell ov)) (r : VR ι s.heap v val) (hx : c.scope.names.lookup x = some .cell)
    (q : Q ⟨σ.loc, σ.objs.set k (.cell (some v))⟩) : wpAny c.M A (storeName env x val) (fun _ => PU c env ι s Q) NoE s := by
  obtain ⟨p, hp, e1, e2⟩ := R.toRep0.celAt hv hx
  obtain ⟨e3, w, hc, hu⟩ := R.objs k _ p ho hp
  refine wpAny_storeName_cell (by rw [R.scope]; exact R.good.kind) e1 e2 hc fun h' hc' hs => ?_
  have hk : ∀ b o, s.heap.get? b = some o → b ≠ p.1 → b ≠ p.2 → b ≠ env.locals → h'.get? b = some o := fun b o e n1 _ _ => (hs.2 b n1).trans e
  have hL : env.locals ≠ p.1 := fun e => R.notL (e ▸ (own_get hp).1)
  refine ⟨ι, _, Ext.change hp hk rfl rfl, Rep0.up (s := { s with heap := h' }) (R.toRep0.change ho hp hk (fun m' hn' => hn'.sameBut hs hL) (fun kS => ?_)) R.tk, q⟩
  exact ⟨e3, some val, hc', fun u e => ⟨val, rfl, by cases e; exact r.mono kS (List.take_length ..)⟩⟩
theorem TA_cell {x : Str} {pos : Pos} {k : Nat} {ov : Option V} {v : V} {Q : St → Prop} (hv : Loc c.names σ.loc x (.cel k)) (ho : σ.objs[k]? = some (.cell ov)) (q : Q ⟨σ.loc, σ.objs.set k (.cell (some v))⟩) (hx : c.scope.names.lookup x = some .cell := by first | with_unfolding_all rfl | assumption) : TA c (.Name x pos) v σ Q := by
  intro A env ι s val ok R r
  exact wpAny_assign_Name (storeCell R hv ho r hx q)
theorem TA_attr {o : Expr} {attr : Str} {pos : Pos} {v : V} {Q : St → Prop} (h : TE c o σ fun ov σ₁ => TSetA c ov attr v σ₁ Q) : TA c (.Attribute o attr pos) v σ Q := by
  intro A env ι s val ok R r
  rw [assign_Attribute]
  refine wpAny_bind (wpAny_holding (wpAny_mono (h A env ι s ok R) (fun ov s1 p1 => ?_) fun _ _ x => x))
  obtain ⟨ι1, a, σ1, x1, R1, r1, q1⟩ := p1
  refine wpAny_bind (wpAny_standAt (wpAny_bind (wpAny_holding (wpAny_mono (q1 A env ι1 s1 ov val ok R1 r1 (R.vr x1 (Nat.le_refl _) r)) (fun _ s2 p2 => ?_) fun _ _ x => x))))
  exact wpAny_release' (PU.trans x1 p2)
theorem TA_sub {o i : Expr} {pos : Pos} {v : V} {Q : St → Prop} (h : TE c o σ fun ov σ₁ => TE c i σ₁ fun iv σ₂ => TSetI c ov iv v σ₂ Q) : TA c (.Subscript o i pos) v σ Q := by
  intro A env ι s val ok R r
  rw [arm_assign_Subscript]
  refine wpAny_bind (wpAny_holding (wpAny_mono (h A env ι s ok R) (fun ov s1 p1 => ?_) fun _ _ x => x))
  obtain ⟨ι1, a, σ1, x1, R1, r1, q1⟩ := p1
  refine wpAny_bind (wpAny_holding (wpAny_mono (q1 A env ι1 s1 ok R1) (fun iv s2 p2 => ?_) fun _ _ x => x))
  obtain ⟨ι2, b, σ2, x2, R2, r2, q2⟩ := p2
  refine wpAny_bind (wpAny_standAt (wpAny_bind (wpAny_holding (wpAny_mono (q2 A env ι2 s2 ov iv val ok R2 (R1.vr x2 (Nat.le_refl _) r1) r2 (R1.vr x2 (Nat.le_refl _) (R.vr x1 (Nat.le_refl _) r))) (fun _ s3 p3 => ?_) fun _ _ x => x))))
  exact wpAny_release' (PU.trans x1 (PU.trans x2 p3))
theorem assignInOrder_T : ∀ (ts : List Expr) (ds : List D) {σ : St} {Q : St → Prop} {A env ι s} {vs : List Value}, Ok A c.n → Rep c ι σ env s → DRs s.heap ds vs → TAs c ts ds σ Q →
    wpAny c.M A (assignInOrder (ts.map fun t => assign t env) vs) (fun _ => PU c env ι s Q) NoE s
  | [], [], σ, Q, A, env, ι, s, vs, ok, R, r, h => wpAny_pure ⟨ι, σ, Ext.refl .., R, h⟩
  | [], _ :: _, _, _, _, _, _, _, _, _, _, _, h => h.elim
  | _ :: _, [], _, _, _, _, _, _, _, _, _, _, h => h.elim
  | t :: ts, d :: ds, σ, Q, A, env, ι, s, vs, ok, R, r, h => by
    obtain ⟨hl, hr⟩ := r
    cases vs with
    | nil => simp at hl
    | cons v vs =>
      have r0 : VR ι s.heap (.d d) v := hr 0 d v rfl rfl
      rw [List.map_cons, assignInOrder]
      refine wpAny_bind (wpAny_holding (wpAny_mono (h A env ι s v ok R r0) (fun _ s1 p1 => ?_) fun _ _ x => x))
      obtain ⟨ι1, σ1, x1, R1, q1⟩ := p1
      have r1 : DRs s1.heap ds vs := DRs.mono (fun _ _ e h => R.stillKept rfl x1 e h) ⟨by simpa using hl, fun i d v a b => hr (i + 1) d v (by simpa using a) (by simpa using b)⟩
      exact wpAny_mono (assignInOrder_T ts ds ok R1 r1 q1) (fun _ _ p => PU.trans x1 p) fun _ _ x => x
theorem TA_tup {ts : List Expr} {k : Nat} {pos : Pos} {ds : List D} {Q : St → Prop} (h : TAs c ts ds σ Q) (hl : ts.length = ds.length) (he : ∀ env, assignEach ts env = ts.map (fun t => (false, assign t env)) := by intro _; rfl) :
    TA c (.Tuple ts k pos) (.d (.tup ds)) σ Q := by
  intro A env ι s val ok R r
  cases r with
  | @tup a o n _ items hg hoc hod hln hr =>
    refine wpAny_assign_Tuple ok.1 (items := items.toArray) ⟨_, hg, hoc, _, hod⟩ (by rw [he]; simp [hl, hln]) (by rw [he]; simp [List.findIdx?_eq_none_iff]) fun h' hx => ?_
    have hk : ∀ b o, s.heap.get? b = some o → h'.get? b = some o := fun b o e => hx b o (Nat.ne_of_lt (Heap.lt_size e)) e
    have R' : Rep c ι σ env { s with heap := h' } := Rep0.up (s := { s with heap := h' }) (R.grow hk) R.tk
    have x : Ext env.locals ι.length ι s ι { s with heap := h' } := Ext.grow hk rfl rfl
    have := assignInOrder_T (A := A) ts ds ok R' (vs := items) (DRs.mono (fun b o e _ => hk b o e) ⟨hln, hr⟩) h
    rw [he]
    simp only [List.map_map, Function.comp_def]
    exact wpAny_mono this (fun _ _ p => PU.trans x p) fun _ _ x => x
theorem PS.ofPU {env ι s s'} (R : Rep c ι σ env s) (p : PU c env ι s (fun σ => Q .next σ) s') : PS c env ι s Q .next s' :=
  let ⟨ι', σ', x, R', q⟩ := p
  ⟨ι', .next, σ', x.less R.base, R', trivial, q⟩
theorem TS_assign {t e : Expr} {pos : Pos} (h : TE c e σ fun v σ₁ => TA c t v σ₁ fun σ₂ => Q .next σ₂) (hs : ∀ env, swapsWithSole [t] e pos.line env = pure false := by intro _; rfl)
    (hw : ∀ env, swappedStores [t] e env = pure none := by intro _; rfl) (he : ∀ env, (assignEach [t] env).map (·.2) = [assign t env] := by intro _; rfl) : TS c (.Assign [t] e pos) σ Q := by
  intro A env ι s ok R
  refine wpAny_Assign_stores (wpAny_mono (h A env ι s ok R) (fun va s1 p1 => ?_) fun _ _ x => x) (hs env) (hw env)
  obtain ⟨ι1, a, σ1, x1, R1, r1, q1⟩ := p1
  rw [he]
  exact wpAny_mono (q1 A env ι1 s1 va ok R1 r1) (fun _ _ p => PS.ofPU R (PU.trans x1 p)) fun _ _ x => x
theorem TS_assign2 {t₁ t₂ e : Expr} {pos : Pos} (h : TE c e σ fun v σ₁ => TA c t₁ v σ₁ fun σ₂ => TA c t₂ v σ₂ fun σ₃ => Q .next σ₃)
    (hw : ∀ env, swappedStores [t₁, t₂] e env = pure none := by intro _; rfl) (he : ∀ env, (assignEach [t₁, t₂] env).map (·.2) = [assign t₁ env, assign t₂ env] := by intro _; rfl) : TS c (.Assign [t₁, t₂] e pos) σ Q := by
  intro A env ι s ok R
  refine wpAny_Assign_two (wpAny_mono (h A env ι s ok R) (fun va s1 p1 => ?_) fun _ _ x => x) (he env) (hw env)
  obtain ⟨ι1, a, σ1, x1, R1, r1, q1⟩ := p1
  refine wpAny_mono (q1 A env ι1 s1 va ok R1 r1) (fun _ s2 p2 => ?_) fun _ _ x => x
  obtain ⟨ι2, σ2, x2, R2, q2⟩ := p2
  exact wpAny_mono (q2 A env ι2 s2 va ok R2 (R1.vr x2 (Nat.le_refl _) r1)) (fun _ _ p => PS.ofPU R (PU.trans x1 (PU.trans x2 p))) fun _ _ x => x
theorem TS_expr {e : Expr} {pos : Pos} (h : TE c e σ fun _ σ₁ => Q .next σ₁) (hs : ∀ env, swapsWith e none pos.line env = pure false := by intro _; rfl) : TS c (.Expr e pos) σ Q := by
  intro A env ι s ok R
  refine wpAny_Expr_any (wpAny_mono (h A env ι s ok R) (fun va s1 p1 => ?_) fun _ _ x => x) (by unfold interactive; rw [R.scope, R.good.kind]; rfl) (hs env)
  obtain ⟨ι1, a, σ1, x1, R1, r1, q1⟩ := p1
  exact ⟨ι1, .next, σ1, x1.less R.base, R1, trivial, q1⟩
theorem TS_ret {e : Expr} {pos : Pos} (h : TE c e σ fun v σ₁ => Q (.ret v) σ₁) : TS c (.Return (some e) pos) σ Q := by
  intro A env ι s ok R
  refine wpAny_Return_some (wpAny_mono (h A env ι s ok R) (fun va s1 p1 => ?_) fun _ _ x => x)
  obtain ⟨ι1, a, σ1, x1, R1, r1, q1⟩ := p1
  exact ⟨ι1, .ret a, σ1, x1.less R.base, R1, r1, q1⟩
theorem TS_break {pos : Pos} (h : Q .brk σ) : TS c (.Break pos) σ Q := fun A env ι s ok R => wpAny_Break ⟨ι, .brk, σ, Ext.refl .., R, trivial, h⟩
theorem TS_assert {e : Expr} {m : Option Expr} {pos : Pos} (h : TT c e σ fun b σ₁ => b = true ∧ Q .next σ₁) : TS c (.Assert e m pos) σ Q := by
  intro A env ι s ok R
  refine wpAny_Assert_holds (wpAny_mono (h A env ι s ok R) (fun b s1 p1 => ?_) fun _ _ x => x)
  obtain ⟨ι1, σ1, x1, R1, hb, q1⟩ := p1
  exact ⟨hb, ι1, .next, σ1, x1.less R.base, R1, trivial, q1⟩
theorem TS_if {t : Expr} {a b : List Stmt} {pos : Pos} (h : TT c t σ fun x σ₁ => if x then TB c a σ₁ Q else TB c b σ₁ Q) : TS c (.If t a b pos) σ Q := by
  intro A env ι s ok R
  refine wpAny_If (wpAny_mono (h A env ι s ok R) (fun x s1 p1 => ?_) fun _ _ x => x)
  obtain ⟨ι1, σ1, x1, R1, q1⟩ := p1
  cases x with
  | true => exact wpAny_mono (q1 A env ι1 s1 ok R1) (fun _ _ p => PS.trans (x1.less R.base) p) fun _ _ x => x
  | false => exact wpAny_mono (q1 A env ι1 s1 ok R1) (fun _ _ p => PS.trans (x1.less R.base) p) fun _ _ x => x
theorem TS_aug {x : Str} {p pos : Pos} {op : Operator} {e : Expr} {old : V} (hv : Loc c.names σ.loc x old)
    (h : TE c e σ fun v σ₁ => TInp c op old v σ₁ fun r σ₂ => ∃ loc', LocSet c.names σ₂.loc x r loc' ∧ Q .next ⟨loc', σ₂.objs⟩) (hoc : isCel old = false := by first | with_unfolding_all rfl | assumption) : TS c (.AugAssign (.Name x p) op e pos) σ Q := by
  intro A env ι s ok R
  refine wpAny_AugAssign_Name (load_local R hv hoc fun val r => ?_)
  refine wpAny_mono (h A env ι s ok R) (fun va s1 p1 => ?_) fun _ _ x => x
  obtain ⟨ι1, a, σ1, x1, R1, r1, q1⟩ := p1
  refine wpAny_mono (q1 A env ι1 s1 val va ok R1 (R.vr x1 (Nat.le_refl _) r) r1) (fun vr s2 p2 => ?_) fun _ _ x => x
  obtain ⟨ι2, b, σ2, x2, R2, r2, loc', hs, q2⟩ := p2
  obtain ⟨i, hi, rfl, l, hl, hnl⟩ := hs.at
  have hxl := R2.toRep0.isLoc hi hl hnl
  obtain ⟨m, hn, hm⟩ := R2.ns
  refine wpAny_storeName_local (by rw [Env.kindOf, R2.scope]; exact hxl) hn (fun h' hn' hs => ?_) (by rw [R2.scope, R2.good.kind]; rfl)
  exact PS.ofPU R (PU.trans x1 (PU.trans x2 ⟨ι2, _, Ext.store hs, (R2.store hi hxl r2 hn hm hn' hs).up (Nat.succ_pos _), q2⟩))
theorem TS_augA {o e : Expr} {attr : Str} {p pos : Pos} {op : Operator}
    (h : TE c o σ fun ov σ₁ => TGet c ov attr σ₁ fun old σ₂ => TE c e σ₂ fun v σ₃ => TInp c op old v σ₃ fun r σ₄ => TSetA c ov attr r σ₄ fun σ₅ => Q .next σ₅) : TS c (.AugAssign (.Attribute o attr p) op e pos) σ Q := by
  intro A env ι s ok R
  refine wpAny_AugAssign_AttributeAny (wpAny_mono (h A env ι s ok R) (fun ov s1 p1 => ?_) fun _ _ x => x)
  obtain ⟨ι1, a1, σ1, x1, R1, r1, q1⟩ := p1
  refine wpAny_mono (q1 A env ι1 s1 ov ok R1 r1) (fun old s2 p2 => ?_) fun _ _ x => x
  obtain ⟨ι2, a2, σ2, x2, R2, r2, q2⟩ := p2
  refine wpAny_mono (q2 A env ι2 s2 ok R2) (fun v s3 p3 => ?_) fun _ _ x => x
  obtain ⟨ι3, a3, σ3, x3, R3, r3, q3⟩ := p3
  refine wpAny_mono (q3 A env ι3 s3 old v ok R3 (R2.vr x3 (Nat.le_refl _) r2) r3) (fun w s4 p4 => ?_) fun _ _ x => x
  obtain ⟨ι4, a4, σ4, x4, R4, r4, q4⟩ := p4
  refine wpAny_mono (q4 A env ι4 s4 ov w ok R4 (R3.vr x4 (Nat.le_refl _) (R2.vr x3 (Nat.le_refl _) (R1.vr x2 (Nat.le_refl _) r1))) r4) (fun _ s5 p5 => ?_) fun _ _ x => x
  exact PS.ofPU R (PU.trans x1 (PU.trans x2 (PU.trans x3 (PU.trans x4 p5))))
/-- what comes behind a statement -/
def Nx (N : St → Prop) (Q : Fl → St → Prop) : Fl → St → Prop
  | .next, σ => N σ
  | f, σ => Q f σ
theorem Nx_next {N : St → Prop} (h : N σ) : Nx N Q .next σ := h
theorem Nx_brk {N : St → Prop} (h : Q .brk σ) : Nx N Q .brk σ := h
theorem Nx_ret {N : St → Prop} {v : V} (h : Q (.ret v) σ) : Nx N Q (.ret v) σ := h
theorem TB_nil (h : Q .next σ) : TB c [] σ Q := fun A env ι s ok R => wpAny_execs_nil ⟨ι, .next, σ, Ext.refl .., R, trivial, h⟩
theorem TB_cons {st : Stmt} {r : List Stmt} (h : TS c st σ (Nx (fun σ₁ => TB c r σ₁ Q) Q)) : TB c (st :: r) σ Q := by
  intro A env ι s ok R
  refine wpAny_execs_cons (wpAny_mono (h A env ι s ok R) (fun f s1 p1 => ?_) fun _ _ x => x)
  obtain ⟨ι1, fl, σ1, x1, R1, r1, q1⟩ := p1
  cases fl <;> cases f <;> first | exact r1.elim | skip
  · exact wpAny_mono (q1 A env ι1 s1 ok R1) (fun _ _ p => PS.trans x1 p) fun _ _ x => x
  · exact ⟨ι1, .brk, σ1, x1, R1, r1, q1⟩
  · exact ⟨ι1, .cont, σ1, x1, R1, r1, q1⟩
  · exact ⟨ι1, .ret _, σ1, x1, R1, r1, q1⟩
/-- forget -/
theorem TB_wk {st : List Stmt} {σ' : St} (w : Wk c.n₀ σ σ') (h : TB c st σ' Q) : TB c st σ Q := by
  intro A env ι s ok R
  exact wpAny_mono (h A env _ s ok (R.weak w)) (fun _ _ p => PS.trans (Ext.cut w.base) p) fun _ _ x => x
/-- at the end of a loop's turn -/
def Lp (n₀ : Nat) (I : St → Prop) (Q : Fl → St → Prop) : Fl → St → Prop
  | .next, σ => ∃ σ', Wk n₀ σ σ' ∧ I σ'
  | .cont, σ => ∃ σ', Wk n₀ σ σ' ∧ I σ'
  | .brk, σ => Q .next σ
  | .ret v, σ => Q (.ret v) σ
theorem TS_while {t : Expr} {body : List Stmt} {pos : Pos} (Inv : Nat → St → Prop) {n : Nat} (h0 : Inv n σ)
    (turn : ∀ n σ, Inv n σ → TT c t σ fun b σ₁ => if b then TB c body σ₁ (Lp c.n₀ (fun σ' => ∃ m, m < n ∧ Inv m σ') Q) else Q .next σ₁) : TS c (.While t body [] pos) σ Q := by
  intro A env ι s ok R
  refine wpAny_While (codeAny_whileLoop (fun n s' => ∃ ι' σ', Ext env.locals c.n₀ ι s ι' s' ∧ Rep c ι' σ' env s' ∧ Inv n σ') (fun n s' hI => ?_) n ⟨ι, σ, Ext.refl .., R, h0⟩)
  obtain ⟨ι', σ', x, R', hi⟩ := hI
  refine wpAny_mono (turn n σ' hi A env ι' s' ok R') (fun b s1 p1 => ?_) fun _ _ x => x.elim
  obtain ⟨ι1, σ1, x1, R1, q1⟩ := p1
  have x1' := x1.less R'.base
  cases b with
  | false => exact wpAny_execs_nil (PS.trans (x.trans x1') ⟨ι1, .next, σ1, Ext.refl .., R1, trivial, q1⟩)
  | true =>
    refine wpAny_mono (q1 A env ι1 s1 ok R1) (fun f s2 p2 => ?_) fun _ _ x => x.elim
    obtain ⟨ι2, fl, σ2, x2, R2, r2, q2⟩ := p2
    have xx := (x.trans x1').trans x2
    cases fl <;> cases f <;> first | exact r2.elim | skip
    · obtain ⟨σ3, w, m, hm, hi⟩ := q2
      exact ⟨m, hm, _, σ3, xx.trans (Ext.cut w.base), R2.weak w, hi⟩
    · exact PS.trans xx ⟨ι2, .next, σ2, Ext.refl .., R2, trivial, q2⟩
    · obtain ⟨σ3, w, m, hm, hi⟩ := q2
      exact ⟨m, hm, _, σ3, xx.trans (Ext.cut w.base), R2.weak w, hi⟩
    · exact PS.trans xx ⟨ι2, .ret _, σ2, Ext.refl .., R2, r2, q2⟩
end
set_option Elab.async false
set_option autoImplicit true
set_option linter.unusedVariables false
def VRs (ι : Io) (h : Heap) (vs : List V) (vals : List Value) : Prop := vs.length = vals.length ∧ ∀ (i : Nat) (v : V) (val : Value), vs[i]? = some v → vals[i]? = some val → VR ι h v val
theorem VRs.nil {ι h} : VRs ι h [] [] := ⟨rfl, fun i v val e => by simp at e⟩
theorem VRs.cons {ι h v val vs vals} (a : VR ι h v val) (b : VRs ι h vs vals) : VRs ι h (v :: vs) (val :: vals) := ⟨by simp [b.1], fun i w x e1 e2 => by
  cases i with
  | zero => simp at e1 e2; subst e1 e2; exact a
  | succ i => exact b.2 i w x (by simpa using e1) (by simpa using e2)⟩
theorem VRs.append {ι h vs vals ws wals} (a : VRs ι h vs vals) (b : VRs ι h ws wals) : VRs ι h (vs ++ ws) (vals ++ wals) := by
  refine ⟨by simp [a.1, b.1], fun i v x e1 e2 => ?_⟩
  by_cases hi : i < vs.length
  · rw [List.getElem?_append_left hi] at e1
    rw [List.getElem?_append_left (a.1 ▸ hi)] at e2
    exact a.2 i v x e1 e2
  · have hi := Nat.not_lt.mp hi
    rw [List.getElem?_append_right hi] at e1
    rw [List.getElem?_append_right (a.1 ▸ hi), ← a.1] at e2
    exact b.2 _ v x e1 e2
theorem VRs.cons_inv {ι h v vs vals} (r : VRs ι h (v :: vs) vals) : ∃ x xs, vals = x :: xs ∧ VR ι h v x ∧ VRs ι h vs xs := by
  obtain ⟨hl, hr⟩ := r
  cases vals with
  | nil => simp at hl
  | cons x xs => exact ⟨x, xs, rfl, hr 0 v x rfl rfl, by simpa using hl, fun i v val a b => hr (i + 1) v val (by simpa using a) (by simpa using b)⟩
theorem VRs.nil_inv {ι h vals} (r : VRs ι h [] vals) : vals = [] := by have := r.1; cases vals with | nil => rfl | cons _ _ => simp at this
theorem Rep.vrs {c ι σ env s n ι' s'} (R : Rep c ι σ env s) (x : Ext env.locals n ι s ι' s') (hn : ι.length ≤ n) {a : List V} {v : List Value} (r : VRs ι s.heap a v) : VRs ι' s'.heap a v :=
  ⟨r.1, fun i v val a b => R.vr x hn (r.2 i v val a b)⟩
theorem VRs.ofD {ι : Io} {h : Heap} {ds : List D} {vals : List Value} (r : VRs ι h (ds.map .d) vals) : DRs h ds vals :=
  ⟨by simpa using r.1, fun i d v a b => r.2 i (.d d) v (by simp [a]) b⟩
def PVs (c : Cx) (env : Env) (ι : Io) (s : Shared) (Q : List V → St → Prop) (vals : List Value) (s' : Shared) : Prop :=
  ∃ ι' vs σ', Ext env.locals ι.length ι s ι' s' ∧ Rep c ι' σ' env s' ∧ VRs ι' s'.heap vs vals ∧ Q vs σ'
def TArgs (c : Cx) : List Expr → St → (List V → St → Prop) → Prop
  | [], σ, Q => Q [] σ
  | e :: r, σ, Q => TE c e σ fun v σ₁ => TArgs c r σ₁ fun vs σ₂ => Q (v :: vs) σ₂
theorem spliced_T {c : Cx} : ∀ (es : List Expr) {σ : St} {Q : List V → St → Prop} {A env ι s} (pos : Pos), Ok A c.n → Rep c ι σ env s → TArgs c es σ Q →
    wpAny c.M A (spliced (backTo pos (es.map fun e => (false, eval e env)))) (PVs c env ι s Q) NoE s
  | [], σ, Q, A, env, ι, s, pos, ok, R, h => wpAny_pure ⟨ι, [], σ, Ext.refl .., R, VRs.nil, h⟩
  | e :: es, σ, Q, A, env, ι, s, pos, ok, R, h => by
    show wpAny _ _ (spliced ((false, eval e env) :: backTo pos (es.map fun e => (false, eval e env)))) _ _ _
    refine Calls.spliced_cons (wpAny_mono (h A env ι s ok R) (fun va s1 p1 => ?_) fun _ _ x => x)
    obtain ⟨ι1, a, σ1, x1, R1, r1, q1⟩ := p1
    refine wpAny_mono (spliced_T es pos ok R1 q1) (fun vals s2 p2 => ?_) fun _ _ x => x
    obtain ⟨ι2, vs, σ2, x2, R2, r2, q2⟩ := p2
    exact ⟨ι2, a :: vs, σ2, x1.trans (x2.less (take_pre x1.pre (Nat.le_refl _))), R2, VRs.cons (R1.vr x2 (Nat.le_refl _) r1) r2, q2⟩
theorem evalArgs_T {c : Cx} {f : Value} {es : List Expr} {σ : St} {Q : List V → St → Prop} {A env ι s} (pos : Pos) (ok : Ok A c.n) (R : Rep c ι σ env s) (h : TArgs c es σ Q) :
    wpAny c.M A (evalArgs f true (backTo pos (es.map fun e => (false, eval e env))) []) (fun a s' => a.kw = [] ∧ PVs c env ι s Q a.pos s') NoE s := by
  cases es with
  | nil => exact evalArgs_nil3 ⟨rfl, ι, [], σ, Ext.refl .., R, VRs.nil, h⟩
  | cons e es =>
    show wpAny _ _ (evalArgs f true ((false, eval e env) :: backTo pos (es.map fun e => (false, eval e env))) []) _ _ _
    exact Calls.evalArgs_plain (wpAny_mono (spliced_T (e :: es) pos ok R h) (fun vals s1 p => ⟨rfl, p⟩) fun _ _ x => x)
/-- what is called holds its own frame, or none -/
def TKeep (c : Cx) (f : V) : Prop := ∀ ι σ env s fv, Rep c ι σ env s → VR ι s.heap f fv → ∃ k, (k = Keeper.frame ∨ k = Keeper.machine ∨ k = Keeper.boundFrame) ∧ Looks c.M s.heap (keeperOf fv) k
def TCall (c : Cx) (f : V) (vs : List V) (σ : St) (Q : V → St → Prop) : Prop :=
  ∀ A env ι s fv vals, Ok A c.n → Rep c ι σ env s → VR ι s.heap f fv → VRs ι s.heap vs vals → wpAny c.M A (call fv vals) (PV c env ι s Q) NoE s
/-- a method is looked up -/
def TMeth (c : Cx) (o : V) (name : Str) (σ : St) (Q : V → List V → St → Prop) : Prop :=
  ∀ A env ι s ov pl, Ok A c.n → Rep c ι σ env s → VR ι s.heap o ov → wpAny c.M A (getMethod ov name pl)
    (fun r s' => ∃ ι' f first σ', Ext env.locals ι.length ι s ι' s' ∧ Rep c ι' σ' env s' ∧ VR ι' s'.heap f r.1 ∧ VRs ι' s'.heap first r.2 ∧ Q f first σ') NoE s
section
variable {c : Cx} {σ : St} {Q : V → St → Prop}
theorem callWith_T {f : V} {first : List V} {es : List Expr} {A env ι s fv firsts} (pos : Pos) (ok : Ok A c.n) (R : Rep c ι σ env s) (rf : VR ι s.heap f fv) (rs : VRs ι s.heap first firsts)
    (h : TArgs c es σ fun vs σ₁ => TKeep c f ∧ TCall c f (first ++ vs) σ₁ Q) :
    wpAny c.M A (callWith pos fv firsts (backTo pos (es.map fun e => (false, eval e env))) []) (PV c env ι s Q) NoE s := by
  refine callWith_of (P := fun h => ∃ k, (k = Keeper.frame ∨ k = Keeper.machine ∨ k = Keeper.boundFrame) ∧ Looks c.M h (keeperOf fv) k) ?_ (fun h x => x)
    (wpAny_mono (evalArgs_T pos ok R h) (fun a s1 p1 => ?_) fun _ _ x => x)
  · simp [backTo, List.any_map, Function.comp_def]
  · obtain ⟨hk, ι1, vs, σ1, x1, R1, r1, q1, q2⟩ := p1
    refine ⟨q1 ι1 σ1 env s1 fv R1 (R.vr x1 (Nat.le_refl _) rf), ?_⟩
    rw [hk]
    exact wpAny_mono (q2 A env ι1 s1 fv (firsts ++ a.pos) ok R1 (R.vr x1 (Nat.le_refl _) rf) ((R.vrs x1 (Nat.le_refl _) rs).append r1)) (fun _ _ p => PV.trans x1 p) fun _ _ x => x
theorem TE_call {func : Expr} {es : List Expr} {pos : Pos} (h : TE c func σ fun f σ₁ => TArgs c es σ₁ fun vs σ₂ => TKeep c f ∧ TCall c f vs σ₂ Q)
    (he : ∀ env, eval (.Call func es [] pos) env = (do callWith pos (← eval func env) [] (backTo pos (starEach es env)) (backToKw pos (keywordEach [] env))) := by intro _; rfl)
    (hs : ∀ env, starEach es env = es.map (fun e => (false, eval e env)) := by intro _; rfl) : TE c (.Call func es [] pos) σ Q := by
  intro A env ι s ok R
  rw [he, hs]
  refine wpAny_bind (wpAny_mono (h A env ι s ok R) (fun fv s1 p1 => ?_) fun _ _ x => x)
  obtain ⟨ι1, f, σ1, x1, R1, r1, q1⟩ := p1
  exact wpAny_mono (callWith_T (first := []) pos ok R1 r1 VRs.nil q1) (fun _ _ p => PV.trans x1 p) fun _ _ x => x
theorem TE_meth {o : Expr} {name : Str} {es : List Expr} {apos pos : Pos} (h : TE c o σ fun ov σ₁ => TMeth c ov name σ₁ fun f first σ₂ => TArgs c es σ₂ fun vs σ₃ => TKeep c f ∧ TCall c f (first ++ vs) σ₃ Q)
    (hb : ∀ env, attributeBase o name env (eval o env) = eval o env := by intro _; rfl)
    (hl : (apos.endLine == pos.line) = true := by rfl)
    (hf : methodCallForm (es.length + 0) (backTo pos (es.map fun e => (false, unsupported ""))) [] = true := by rfl)
    (hs : ∀ env, starEach es env = es.map (fun e => (false, eval e env)) := by intro _; rfl) : TE c (.Call (.Attribute o name apos) es [] pos) σ Q := by
  intro A env ι s ok R
  show wpAny _ _ (do let ov ← attributeBase o name env (eval o env); standAt apos.atName; methodCall o name apos pos env ov (es.length + 0) (backTo pos (starEach es env)) (backToKw pos (keywordEach [] env))) _ _ _
  rw [hb, hs]
  refine wpAny_bind (wpAny_mono (h A env ι s ok R) (fun ov s1 p1 => ?_) fun _ _ x => x)
  obtain ⟨ι1, a, σ1, x1, R1, r1, q1⟩ := p1
  have hform : methodCallForm (es.length + 0) (backTo pos (es.map fun e => (false, eval e env))) (backToKw pos (keywordEach [] env)) = true := by
    rw [← hf]; simp [methodCallForm, backTo, List.all_map, Function.comp_def, keywordEach, backToKw]
  refine wpAny_bind (wpAny_standAt ?_)
  unfold methodCall
  rw [hform]
  refine wpAny_bind (wpAny_holding ?_)
  show wpAny _ _ (getMethod ov name _) _ _ _
  refine wpAny_mono (q1 A env ι1 s1 ov _ ok R1 r1) (fun r s2 p2 => ?_) fun _ _ x => x
  obtain ⟨ι2, f, first, σ2, x2, R2, rf, rs, q2⟩ := p2
  refine wpAny_bind (m := methodCallPos _ _ _ _ _) ?_
  unfold methodCallPos
  rw [hl]
  refine wpAny_pure ?_
  exact wpAny_mono (callWith_T pos ok R2 rf rs q2) (fun _ _ p => PV.trans x1 (PV.trans x2 p)) fun _ _ x => x
theorem TE_attr {o : Expr} {attr : Str} {pos : Pos} (h : TE c o σ fun ov σ₁ => TGet c ov attr σ₁ Q) (hb : ∀ env, attributeBase o attr env (eval o env) = eval o env := by intro _; rfl) : TE c (.Attribute o attr pos) σ Q := by
  intro A env ι s ok R
  refine Attribute_any_ (wpAny_mono (h A env ι s ok R) (fun ov s1 p1 => ?_) fun _ _ x => x) (by
    show (do let o ← attributeBase _ attr env (eval _ env); standAt pos.atName; let r ← holding [o] (getAttr o attr true); letTemporaryGo _ o r; pure r) = _
    rw [hb])
  obtain ⟨ι1, a, σ1, x1, R1, r1, q1⟩ := p1
  exact wpAny_mono (q1 A env ι1 s1 ov ok R1 r1) (fun _ _ p => PV.trans x1 p) fun _ _ x => x
/-- a class of the text's: plain, its instances hold a dict; the words ks are none of its own -/
structure Cls (G : Cfg) (C : Addr) (ks : List Str) : Prop where
  ga : findIn G.K (.ref C) "__getattribute__" = some (some (.builtin "object.__getattribute__"))
  gt : findIn G.K (.ref C) "__getattr__" = some none
  sa : findIn G.K (.ref C) "__setattr__" = some (some (.builtin "object.__setattr__"))
  po : plainOver G.K C = true
  hd : hasDictIn G.K C = true
  free : ∀ x ∈ ks, findIn G.K (.ref C) x = some none
theorem isStr_iff {d : DictEntry} {k x : Str} {t : Tok} (h : d.key = .str k t) : d.key.isStr x = (k == x) := by rw [h]; rfl
theorem ER.look {ι h ks vs ds} (r : ER ι h ks vs ds) {i : Nat} {x : Str} {v : V} (hk : ks[i]? = some x) (hv : vs[i]? = some v) {n : Nat} :
    ∃ val, lookIn x { cls := .type "dict", data := .dict (List.toArray ds) n } = some (some val) ∧ VR ι h v val := by
  have hi : i < ds.length := by rw [← r.lk]; exact (List.getElem?_eq_some_iff.mp hk).1
  have hd : ds[i]? = some ds[i] := List.getElem?_eq_getElem hi
  refine ⟨ds[i].val, ?_, r.val i v _ hv hd⟩
  have hf : ds.find? (fun e => e.key.isStr x) = some ds[i] := by
    rw [List.find?_eq_some_iff_getElem]
    obtain ⟨t, ht⟩ := r.key i x _ hk hd
    refine ⟨by rw [isStr_iff ht]; simp, i, hi, rfl, fun j hj => ?_⟩
    have hj' : j < ks.length := by rw [r.lk]; omega
    obtain ⟨t', ht'⟩ := r.key j ks[j] ds[j] (List.getElem?_eq_getElem hj') (List.getElem?_eq_getElem (by omega))
    rw [isStr_iff ht']
    simp only [Bool.not_eq_true', beq_eq_false_iff_ne, ne_eq]
    intro e
    obtain ⟨hi', e'⟩ := List.getElem?_eq_some_iff.mp hk
    have := (List.getElem_inj r.nd).mp (e.trans e'.symm)
    omega
  unfold lookIn
  simp only [hf]
theorem ER.noLook {ι h ks vs ds} (r : ER ι h ks vs ds) {x : Str} (hx : x ∉ ks) {n : Nat} : lookIn x { cls := .type "dict", data := .dict (List.toArray ds) n } = some none := by
  have key : ∀ d ∈ ds, ∃ k t, k ∈ ks ∧ d.key = .str k t := fun d hd => by
    obtain ⟨i, hi, rfl⟩ := List.getElem_of_mem hd
    have hi' : i < ks.length := by rw [r.lk]; exact hi
    obtain ⟨t, ht⟩ := r.key i ks[i] ds[i] (List.getElem?_eq_getElem hi') (List.getElem?_eq_getElem hi)
    exact ⟨_, t, List.getElem_mem hi', ht⟩
  have hf : ds.find? (fun e => e.key.isStr x) = none := by
    rw [List.find?_eq_none]
    intro d hd
    obtain ⟨k, t, hk, ht⟩ := key d hd
    rw [isStr_iff ht]
    simp only [beq_iff_eq]
    rintro rfl; exact hx hk
  have hr : ds.any (·.refKey) = false := by
    rw [List.any_eq_false]
    intro d hd
    obtain ⟨k, t, _, ht⟩ := key d hd
    simp [DictEntry.refKey, ht]
  unfold lookIn
  simp only [hf, hr]; rfl
inductive Fld : List Str → List V → Str → V → Prop where
  | head {x ns v ls} : Fld (x :: ns) (v :: ls) x v
  | tail {x y ns v l ls} : Fld ns ls x v → Fld (y :: ns) (l :: ls) x v
inductive FldSet : List Str → List V → Str → V → List V → Prop where
  | head {x ns v l ls} : FldSet (x :: ns) (l :: ls) x v (v :: ls)
  | tail {x y ns v l ls ls'} : FldSet ns ls x v ls' → FldSet (y :: ns) (l :: ls) x v (l :: ls')
theorem Fld.at {ns ls x v} (h : Fld ns ls x v) : ∃ i : Nat, ns[i]? = some x ∧ ls[i]? = some v := by
  induction h with
  | head => exact ⟨0, rfl, rfl⟩
  | tail _ ih => obtain ⟨i, a, b⟩ := ih; exact ⟨i + 1, by simpa using a, by simpa using b⟩
theorem FldSet.at {ns ls x v ls'} (h : FldSet ns ls x v ls') : ∃ i : Nat, ns[i]? = some x ∧ ls' = ls.set i v := by
  induction h with
  | head => exact ⟨0, rfl, rfl⟩
  | tail _ ih => obtain ⟨i, a, b⟩ := ih; exact ⟨i + 1, by simpa using a, by simp [b]⟩
theorem Rep.inst {ι env s k C ks vs} (R : Rep c ι σ env s) (ho : σ.objs[k]? = some (.inst C ks vs)) {ov : Value} (r : VR ι s.heap (.obj k) ov) :
    ∃ p ds n, ι[k]? = some p ∧ ov = .ref p.1 ∧ InstAt s.heap p.1 (instObj C p.2) C (some { cls := .type "dict", data := .dict (List.toArray ds) n }) ∧ ER ι s.heap ks vs ds ∧
      s.heap.get? p.2 = some { cls := .type "dict", data := .dict (List.toArray ds) n } := by
  obtain ⟨p, hp, rfl⟩ := r
  obtain ⟨hg, ds, n, hd, he⟩ := R.objs k _ p ho hp
  exact ⟨p, ds, n, hp, rfl, ⟨hg, rfl, rfl, hd⟩, he, hd⟩
theorem handed_of {ι h} {v : V} {val : Value} (r : VR ι h v val) (hv : ∀ x, v ≠ .val x) : handedIn val = true := by
  cases v with
  | d x => cases r <;> rfl
  | obj k => obtain ⟨p, _, rfl⟩ := r; rfl
  | meth f k => obtain ⟨p, q, _, rfl, _⟩ := r; rfl
  | cel k => obtain ⟨p, _, rfl⟩ := r; rfl
  | val x => exact absurd rfl (hv x)
theorem TGet_own {k C ks vs x v} (cl : Cls c.G C ks) (ho : σ.objs[k]? = some (.inst C ks vs)) (hv : Fld ks vs x v) (hx : ∀ y, v ≠ .val y) (q : Q v σ) : TGet c (.obj k) x σ Q := by
  intro A env ι s ov ok R r
  obtain ⟨p, ds, n, hp, rfl, I, he, _⟩ := R.inst ho r
  obtain ⟨i, h1, h2⟩ := hv.at
  obtain ⟨val, hl, rv⟩ := he.look h1 h2 (n := n)
  have X := c.G.X.keeps R.keep
  exact get_value X I cl.ga (findObj_own cl.hd (cl.free x (List.mem_of_getElem? h1)) rfl hl) (handed_of rv hx) (PV.same R rv q)
/-- a word of the class that is no function -/
theorem TGet_cls {k C ks vs x v val} (cl : Cls c.G C ks) (ho : σ.objs[k]? = some (.inst C ks vs)) (hx : x ∉ ks) (hf : findIn c.G.K (.ref C) x = some (some val)) (hg : specialIn c.G.K val "__get__" = some none)
    (hh : handedIn val = true) (hn : copiedNames.contains x = false) (hr : ∀ ι h, VR ι h v val) (q : Q v σ) : TGet c (.obj k) x σ Q := by
  intro A env ι s ov ok R r
  obtain ⟨p, ds, n, hp, rfl, I, he, _⟩ := R.inst ho r
  have X := c.G.X.keeps R.keep
  exact get_value X I cl.ga (findObj_cls cl.hd hf hg hh hn (he.noLook hx)) hh (PV.same R (hr _ _) q)
/-- a method as a value -/
theorem TGet_bound {k C ks vs x f} (cl : Cls c.G C ks) (ho : σ.objs[k]? = some (.inst C ks vs)) (hx : x ∉ ks) (hf : findIn c.G.K (.ref C) x = some (some (.ref f))) (hfn : isFn c.G.K (.ref f) = true)
    (hg : specialIn c.G.K (.ref f) "__get__" = some (some (.builtin "function.__get__"))) (ht : takesIn c.G.K (.ref f) = some false) (hn : copiedNames.contains x = false)
    (q : Q (.meth f k) σ) : TGet c (.obj k) x σ Q := by
  intro A env ι s ov ok R r
  obtain ⟨p, ds, n, hp, rfl, I, he, _⟩ := R.inst ho r
  have X := c.G.X.keeps R.keep
  refine get_bind X I cl.ga (findObj_fn cl.hd hf hg ht hn (he.noLook hx)) cl.gt (wpAny_call (fn_get (s := { s with toks := s.toks + 1 }) X (beq_iff_eq.mp hfn) (handed_on rfl ?_)))
  exact ⟨ι, .meth f k, σ, Ext.grow (fun _ _ e => Heap.get?_push_of_some _ e) rfl rfl, Rep0.up (s := { s with heap := s.heap.push _, toks := s.toks + 1 }) (R.grow fun _ _ e => Heap.get?_push_of_some _ e) (Nat.succ_pos _), ⟨p, _, hp, rfl, Heap.get?_push_size _ rfl⟩, q⟩
theorem TMeth_fn {k C ks vs x f} {Q : V → List V → St → Prop} (cl : Cls c.G C ks) (ho : σ.objs[k]? = some (.inst C ks vs)) (hx : x ∉ ks) (hf : findIn c.G.K (.ref C) x = some (some (.ref f))) (hfn : isFn c.G.K (.ref f) = true)
    (q : Q (.val (.ref f)) [.obj k] σ) : TMeth c (.obj k) x σ Q := by
  intro A env ι s ov pl ok R r
  obtain ⟨p, ds, n, hp, rfl, I, he, _⟩ := R.inst ho r
  have X := c.G.X.keeps R.keep
  refine method_fn X I cl.ga cl.gt hf (beq_iff_eq.mp hfn) (by show (lookIn x _).map _ = _; rw [he.noLook hx]; rfl) ?_
  exact ⟨ι, .val (.ref f), [.obj k], σ, Ext.refl .., R, vr_val, VRs.cons ⟨p, hp, rfl⟩ VRs.nil, q⟩
/-- what an attribute holds is called -/
theorem TMeth_own {k C ks vs x v} {Q : V → List V → St → Prop} (cl : Cls c.G C ks) (ho : σ.objs[k]? = some (.inst C ks vs)) (hv : Fld ks vs x v) (hx : ∀ y, v ≠ .val y) (q : Q v [] σ) : TMeth c (.obj k) x σ Q := by
  intro A env ι s ov pl ok R r
  obtain ⟨p, ds, n, hp, rfl, I, he, _⟩ := R.inst ho r
  obtain ⟨i, h1, h2⟩ := hv.at
  obtain ⟨val, hl, rv⟩ := he.look h1 h2 (n := n)
  have X := c.G.X.keeps R.keep
  refine method_usual X I cl.ga cl.gt (cl.free x (List.mem_of_getElem? h1)) rfl (get_value X I cl.ga (findObj_own cl.hd (cl.free x (List.mem_of_getElem? h1)) rfl hl) (handed_of rv hx) ?_)
  exact ⟨ι, _, _, σ, Ext.grow (fun _ _ e => e) rfl rfl, Rep0.up (s := { s with toks := s.toks + 1 }) (R.grow fun _ _ e => e) (Nat.succ_pos _), rv, VRs.nil, q⟩
theorem TKeep_K {f : Value} (h : keepIn c.G.K f = true) : TKeep c (.val f) := fun ι σ env s fv R r => by cases r; exact keeps_K h _ (c.G.X.keeps R.keep)
theorem TKeep_b {id : String} : TKeep c (.val (.builtin id)) := fun ι σ env s fv R r => by cases r; exact ⟨.machine, .inr (.inl rfl), Looks.of_pure rfl⟩
theorem TKeep_m {f : Addr} {k : Nat} (h : fnIn c.G.K f = true) : TKeep c (.meth f k) := fun ι σ env s fv R r => by
  obtain ⟨p, q, hp, rfl, hq⟩ := r
  exact keeps_M h _ ⟨hq, c.G.X.keeps R.keep⟩
end
set_option Elab.async false
set_option autoImplicit true
set_option linter.unusedVariables false
theorem putL_old {ι h ks vs ds} (r : ER ι h ks vs ds) {i : Nat} {x : Str} (hk : ks[i]? = some x) (hi : i < ds.length) (hsh : Int) (key val : Value) :
    putL x hsh key val ds = ds.set i ⟨ds[i].hash, ds[i].key, val⟩ := by
  rw [← putL_find]
  have : ds.findIdx? (fun e => e.key.isStr x) = some i := by
    rw [List.findIdx?_eq_some_iff_getElem]
    obtain ⟨t, ht⟩ := r.key i x _ hk (List.getElem?_eq_getElem hi)
    refine ⟨hi, by rw [isStr_iff ht]; simp, fun j hj => ?_⟩
    have hj' : j < ks.length := by rw [r.lk]; omega
    obtain ⟨t', ht'⟩ := r.key j ks[j] ds[j] (List.getElem?_eq_getElem hj') (List.getElem?_eq_getElem (by omega))
    rw [isStr_iff ht']
    simp only [Bool.not_eq_true, beq_eq_false_iff_ne, ne_eq]
    intro e
    obtain ⟨hi', e'⟩ := List.getElem?_eq_some_iff.mp hk
    have := (List.getElem_inj r.nd).mp (e.trans e'.symm)
    omega
  rw [this]
  refine List.ext_getElem? fun j => ?_
  simp only [List.getElem?_modify, List.getElem?_set]
  by_cases hj : i = j
  · subst hj; simp [hi]
  · simp [hj]
theorem putL_new {ι h ks vs ds} (r : ER ι h ks vs ds) {x : Str} (hx : x ∉ ks) (hsh : Int) (key val : Value) : putL x hsh key val ds = ds ++ [⟨hsh, key, val⟩] := by
  rw [← putL_find]
  have : ds.findIdx? (fun e => e.key.isStr x) = none := by
    rw [List.findIdx?_eq_none_iff]
    intro d hd
    obtain ⟨i, hi, rfl⟩ := List.getElem_of_mem hd
    have hi' : i < ks.length := by rw [r.lk]; exact hi
    obtain ⟨t, ht⟩ := r.key i ks[i] ds[i] (List.getElem?_eq_getElem hi') (List.getElem?_eq_getElem hi)
    rw [isStr_iff ht]
    simp only [beq_eq_false_iff_ne, ne_eq]
    rintro rfl; exact hx (List.getElem_mem hi')
  rw [this]
theorem ER.put_old {ι h ks vs ds} (r : ER ι h ks vs ds) {i : Nat} {x : Str} {v : V} {val : Value} (hk : ks[i]? = some x) (hv : VR ι h v val) (hsh : Int) (key : Value) : ER ι h ks (vs.set i v) (putL x hsh key val ds) := by
  have hi : i < ds.length := by rw [← r.lk]; exact (List.getElem?_eq_some_iff.mp hk).1
  rw [putL_old r hk hi]
  refine ⟨r.nd, by simp [r.lk], by simp [r.lv], fun j k d a b => ?_, fun j w d a b => ?_⟩
  · by_cases hj : j = i
    · subst hj
      rw [List.getElem?_set_self hi] at b; cases b
      exact (r.key j k ds[j] a (List.getElem?_eq_getElem hi) : ∃ t, ds[j].key = .str k t)
    · rw [List.getElem?_set_ne (Ne.symm hj)] at b
      exact r.key j k d a b
  · by_cases hj : j = i
    · subst hj
      rw [List.getElem?_set_self hi] at b; cases b
      rw [List.getElem?_set_self (by rw [r.lv]; exact hi)] at a; cases a
      exact hv
    · rw [List.getElem?_set_ne (Ne.symm hj)] at a b
      exact r.val j w d a b
theorem ER.put_new {ι h ks vs ds} (r : ER ι h ks vs ds) {x : Str} {v : V} {val : Value} (hx : x ∉ ks) (hv : VR ι h v val) (hsh : Int) (t : Tok) : ER ι h (ks ++ [x]) (vs ++ [v]) (putL x hsh (.str x t) val ds) := by
  rw [putL_new r hx]
  refine ⟨List.nodup_append.mpr ⟨r.nd, by simp, fun a ha b hb => by simp at hb; subst hb; rintro rfl; exact hx ha⟩, by simp [r.lk], by simp [r.lv], fun j k d a b => ?_, fun j w d a b => ?_⟩
  · by_cases hj : j < ds.length
    · rw [List.getElem?_append_left hj] at b
      rw [List.getElem?_append_left (by rw [r.lk]; exact hj)] at a
      exact r.key j k d a b
    · rw [List.getElem?_append_right (by omega)] at b
      rw [List.getElem?_append_right (by rw [r.lk]; omega)] at a
      have h0 : j - ds.length = 0 := by have := (List.getElem?_eq_some_iff.mp b).1; simp at this; omega
      rw [h0] at b; rw [r.lk, h0] at a
      simp at a b; subst a b; exact ⟨t, rfl⟩
  · by_cases hj : j < ds.length
    · rw [List.getElem?_append_left hj] at b
      rw [List.getElem?_append_left (by rw [r.lv]; exact hj)] at a
      exact r.val j w d a b
    · rw [List.getElem?_append_right (by omega)] at b
      rw [List.getElem?_append_right (by rw [r.lv]; omega)] at a
      have h0 : j - ds.length = 0 := by have := (List.getElem?_eq_some_iff.mp b).1; simp at this; omega
      rw [h0] at b; rw [r.lv, h0] at a
      simp at a b; subst a b; exact hv
section
variable {c : Cx} {σ : St} {Q : V → St → Prop}
theorem setAttr_T {A env ι s k C ks vs x val ks' vs'} {Q : St → Prop} (hf : findIn c.G.K (.ref C) x = some none) (cl : Cls c.G C ks) (ho : σ.objs[k]? = some (.inst C ks vs)) (hz : ks.length ≤ 100) {v : V} {ov : Value}
    (R : Rep c ι σ env s) (r : VR ι s.heap (.obj k) ov) (rv : VR ι s.heap v val)
    (hput : ∀ ι h ds hsh t, ER ι h ks vs ds → VR ι h v val → ER ι h ks' vs' (putL x hsh (.str x t) val ds)) (q : Q ⟨σ.loc, σ.objs.set k (.inst C ks' vs')⟩) :
    wpAny c.M A (setAttr ov x val) (fun _ => PU c env ι s Q) NoE s := by
  obtain ⟨p, ds, n, hp, rfl, I, he, hd⟩ := R.inst ho r
  have X := c.G.X.keeps R.keep
  obtain ⟨m, hn, hm⟩ := R.ns
  have hOw := own_get hp
  have hL2 : p.2 ≠ env.locals := fun e => R.notL (e ▸ hOw.2)
  have hx1 : p.1 ≠ p.2 := by
    intro e
    have a := I.at_
    rw [e, hd] at a; cases a
  refine set_plain X I cl.sa (osa_dict (s := { s with toks := s.toks + 1 }) (h₀ := noHeap) (L := env.locals) (pre := []) (post := allBut s.heap [env.locals, p.2]) (fr_of hn) (news_cons (news_of (by simp)) hd hL2) X I rfl cl.po
    (by unfold takerIn; rw [hf]; rfl) cl.hd ?_ (by simp) (allBut_ne (by simp)) (putName_dict ..) rfl ?_ ?_)
  · by_cases hxk : x ∈ ks
    · obtain ⟨i, hi, e⟩ := List.getElem_of_mem hxk
      obtain ⟨w, hw, _⟩ := he.look (i := i) (x := x) (v := vs[i]'(by rw [he.lv, ← he.lk]; exact hi)) (by rw [List.getElem?_eq_getElem hi, e]) (List.getElem?_eq_getElem _) (n := n)
      rw [hw]; rfl
    · rw [he.noLook hxk]; rfl
  · have h1 := (hput ι s.heap ds (PyData.keyHash c.G.w.params x) (s.toks + 1) he rv)
    by_cases hxk : x ∈ ks
    · obtain ⟨i, hi, e⟩ := List.getElem_of_mem hxk
      rw [putL_old he (i := i) (by rw [List.getElem?_eq_getElem hi, e]) (by rw [← he.lk]; exact hi)]
      simp only [List.length_set]; rw [← he.lk]; omega
    · rw [putL_new he hxk]
      simp only [List.length_append, List.length_singleton]; rw [← he.lk]; omega
  · intro h' F' N'
    have hk : ∀ b o, s.heap.get? b = some o → b ≠ p.1 → b ≠ p.2 → b ≠ env.locals → h'.get? b = some o := fun b o e _ h2 h3 =>
      (N' (b, o) (by simp only [List.nil_append]; exact List.mem_cons_of_mem _ (mem_allBut.mpr ⟨e, by simp [h2, h3]⟩))).1
    have hk1 : h'.get? p.1 = some (instObj C p.2) := (N' (p.1, _) (by
      simp only [List.nil_append]; exact List.mem_cons_of_mem _ (mem_allBut.mpr ⟨I.at_, by simp [hx1]; exact fun e => R.notL (e ▸ hOw.1)⟩))).1
    have hk2 := (N' (p.2, _) (by simp only [List.nil_append]; exact List.mem_cons_self)).1
    refine ⟨ι, ⟨σ.loc, σ.objs.set k (.inst C ks' vs')⟩, Ext.change hp hk rfl rfl, Rep0.up (s := { s with heap := h', toks := s.toks + 2 }) (R.change ho hp hk (fun m' hn' => Ns.same hn hn' F'.ns) (fun kS => ⟨hk1, _, _, hk2, ?_⟩)) (Nat.succ_pos _), q⟩
    exact hput _ _ _ _ _ { he with val := fun i v d e1 e2 => (he.val i v d e1 e2).mono kS (List.take_length ..) } (rv.mono kS (List.take_length ..))
theorem TSetA_old {k C ks vs x v vs'} {Q : St → Prop} (cl : Cls c.G C ks) (ho : σ.objs[k]? = some (.inst C ks vs)) (hv : FldSet ks vs x v vs') (q : Q ⟨σ.loc, σ.objs.set k (.inst C ks vs')⟩) (hz : ks.length ≤ 100 := by decide) :
    TSetA c (.obj k) x v σ Q := by
  intro A env ι s ov val ok R r rv
  obtain ⟨i, hi, rfl⟩ := hv.at
  exact setAttr_T (cl.free x (List.mem_of_getElem? hi)) cl ho hz R r rv (fun ι h ds hsh t he rv => he.put_old hi rv hsh _) q
theorem TSetA_new {k C ks vs x v} {Q : St → Prop} (cl : Cls c.G C (ks ++ [x])) (ho : σ.objs[k]? = some (.inst C ks vs)) (hx : x ∉ ks) (q : Q ⟨σ.loc, σ.objs.set k (.inst C (ks ++ [x]) (vs ++ [v]))⟩) (hz : ks.length ≤ 100 := by decide) :
    TSetA c (.obj k) x v σ Q := by
  intro A env ι s ov val ok R r rv
  exact setAttr_T (cl.free x (by simp)) { cl with free := fun y hy => cl.free y (by simp [hy]) } ho hz R r rv (fun ι h ds hsh t he rv => he.put_new hx rv hsh t) q
/-- what a function's end leaves: its own objects at the end are let go -/
structure Cut (n₀ : Nat) (v : V) (os os' : List O) : Prop where
  pre : ∃ t, os = os' ++ t
  base : n₀ ≤ os'.length
  okO : os'.all (okO os'.length) = true
  okV : okV os'.length v = true
def retOf : Fl → V
  | .ret v => v
  | _ => .d .none
def Rt (σ : St) (Q : V → St → Prop) (fl : Fl) (σ' : St) : Prop := ∃ os, Cut σ.objs.length (retOf fl) σ'.objs os ∧ Q (retOf fl) ⟨σ.loc, os⟩
/-- a function of the text's, called with k things -/
structure FnOk (G : Cfg) (f : Addr) (k : Nat) (ps : List Str) (dv : List Value) (body : List Stmt) (scope : Scope) : Prop where
  fd : ∃ oc od osl fd, G.K.lookup f = some ⟨oc, od, .func fd, osl⟩ ∧ fd.scope = scope ∧ fd.body = .stmts body ∧ fd.globals = mainGlobals ∧ fd.closure = [] ∧ fd.builtins = builtinsNs ∧ codeIn G.K fd.code fd.qualname = true ∧
    (∀ S avs, avs.length = k → peek G.K S (bindArgs fd ⟨avs, []⟩) = some (ps.zip (avs ++ dv)))
  co : scope.isCoroutine = false
  gen : scope.isGenerator = false
  cell : ∀ x ∈ scope.names, x.2 ≠ .cell
  len : ps.length = k + dv.length
theorem fr_ret {ι h fl} : ∀ f, FR ι h fl f → VR ι h (retOf fl) (match f with | .ret v => v | _ => .none) := by
  intro f r
  cases fl <;> cases f <;> first | exact r.elim | exact DR.none | exact r
theorem lookup_zip {ps : List Str} {vs : List Value} (hl : ps.length = vs.length) (nd : ps.Nodup) {i : Nat} {x : Str} {v : Value} (h1 : ps[i]? = some x) (h2 : vs[i]? = some v) : (ps.zip vs).reverse.lookup x = some v := by
  have hmem : (x, v) ∈ (ps.zip vs).reverse := by
    rw [List.mem_reverse]
    have : (ps.zip vs)[i]? = some (x, v) := by rw [List.getElem?_zip_eq_some]; exact ⟨h1, h2⟩
    exact List.mem_of_getElem? this
  have hnd : ((ps.zip vs).reverse.map (·.1)).Nodup := by
    rw [List.map_reverse, List.map_fst_zip (by omega)]; exact List.pairwise_reverse.mpr (nd.imp Ne.symm)
  generalize (ps.zip vs).reverse = l at hmem hnd
  induction l with
  | nil => cases hmem
  | cons p r ih =>
    obtain ⟨y, w⟩ := p
    rw [List.lookup_cons]
    rcases List.mem_cons.mp hmem with e | e
    · cases e; simp
    · have hne : x ≠ y := by
        rintro rfl
        have h2 := (List.nodup_cons.mp hnd).1
        exact h2 (List.mem_map.mpr ⟨(x, v), e, rfl⟩)
      have : (x == y) = false := by simpa using hne
      rw [this]
      exact ih e (List.nodup_cons.mp hnd).2
theorem lookup_cell {l : List (Str × NameKind)} (h : ∀ x ∈ l, x.2 ≠ .cell) (x : Str) : l.lookup x ≠ some .cell := by
  induction l with
  | nil => intro e; cases e
  | cons p l ih =>
    intro e
    obtain ⟨y, k⟩ := p
    rw [List.lookup_cons] at e
    split at e
    · cases e; exact h _ (List.mem_cons_self ..) rfl
    · exact ih (fun z hz => h z (List.mem_cons_of_mem _ hz)) e
theorem call_T {f k ps dv body scope names globs rest vs ds} {n : Nat} (F : FnOk c.G f k ps dv body scope) (hn : c.n = n + 1) (hk : vs.length = k) (hd : ∀ ι h, VRs ι h ds dv) (hnames : names = ps ++ rest)
    (good : (⟨c.G, n, σ.objs.length, scope, names, globs⟩ : Cx).Good)
    (h : TB ⟨c.G, n, σ.objs.length, scope, names, globs⟩ body ⟨(vs ++ ds).map some ++ rest.map (fun _ => none), σ.objs⟩ (Rt σ Q)) {A env ι s vals} (ok : Ok A c.n) (R : Rep c ι σ env s) (rv : VRs ι s.heap vs vals) :
    codeAny c.M A (.call (.ref f) ⟨vals, []⟩) (fun r s' => match r with | .ok (.ret v) => PV c env ι s Q v s' | .ok _ => False | .error e => False) s := by
  obtain ⟨oc, od, osl, fd, hK, rfl, hbody, hgl, hcl, hbu, hcode, hbind⟩ := F.fd
  have X := c.G.X.keeps R.keep
  obtain ⟨a1, a2, a3⟩ := ok
  have hlen : vals.length = k := rv.1 ▸ hk
  refine codeAny_call_function (by show A.depth < 1000; omega) (X _ _ hK) rfl F.co F.gen hbody (codeRec_of X hcode) ?_
  refine kp_binds X (fun S => hbind S vals hlen) _ _ _ _ ?_
  have nd : ps.Nodup := by
    have := good.nd
    subst hnames
    exact (List.nodup_append.mp this).1
  have hpl : ps.length = (vals ++ dv).length := by simp [F.len, hlen]
  refine wpAny_newFunctionEnv F.cell (fun x hx => ?_) (fun h' hns hsb => ?_) good.kind
  · have : x.1 ∈ ps := by
      obtain ⟨a, b⟩ := x
      exact (List.of_mem_zip hx).1
    exact (good.loc _ (by subst hnames; exact List.mem_append_left _ this)).resolve_right (lookup_cell F.cell _)
  · have hk1 : ∀ b o, s.heap.get? b = some o → h'.get? b = some o := fun b o e => (hsb.2 b (Nat.ne_of_lt (Heap.lt_size e))).trans (Heap.get?_push_of_some _ e)
    refine ⟨(c.G.nolimit.keeps R.keep).keeps hk1, ?_⟩
    generalize hs1 : ({ s with heap := h', toks := s.toks + (ps.zip (vals ++ dv)).length } : Shared) = s1
    have hh1 : s1.heap = h' := by rw [← hs1]
    generalize he : newEnv fd.scope s.heap.objs.size fd.globals fd.closure (fd.qualname ++ ".<locals>.") (some f) fd.code none fd.builtins = env'
    have heL : env'.locals = s.heap.objs.size := by rw [← he]; rfl
    have htk : 0 < s1.toks := by rw [← hs1]; exact Nat.lt_of_lt_of_le R.tk (Nat.le_add_right _ _)
    have R1 : Rep c ι σ env s1 := (R.grow (by rw [hh1]; exact hk1)).up htk
    have fr := fresh_size s.heap
    have R' : Rep ⟨c.G, n, σ.objs.length, fd.scope, names, globs⟩ ι ⟨(vs ++ ds).map some ++ rest.map (fun _ => none), σ.objs⟩ env' s1 :=
      { tk := htk
        scope := by rw [← he]; rfl
        good := good
        globals := by rw [← he]; exact hgl
        builtins := by rw [← he]; exact hbu
        keep := R1.keep
        above := R.above
        aboveL := by rw [heL]; exact R.freshH fr
        notL := by rw [heL]; exact R.freshO fr
        apart := R.apart
        len := R.len
        base := Nat.le_of_eq R.len.symm
        objs := R1.objs
        cel := fun i x _ e => absurd e (lookup_cell F.cell x)
        ns := by
          refine ⟨_, by rw [heL, hh1]; exact hns, fun i x v e1 e2 => ?_⟩
          have e2' : (vs ++ ds)[i]? = some v := by
            by_cases hi : i < (vs ++ ds).length
            · rw [List.getElem?_append_left (by simpa using hi), List.getElem?_map] at e2
              cases hq : (vs ++ ds)[i]? with
              | none => rw [hq] at e2; cases e2
              | some w => rw [hq] at e2; simpa using e2
            · rw [List.getElem?_append_right (by simpa using hi), List.getElem?_map] at e2
              cases hq : rest[i - ((vs ++ ds).map some).length]? with
              | none => rw [hq] at e2; cases e2
              | some w => rw [hq] at e2; simp at e2
          have rr : VRs ι h' (vs ++ ds) (vals ++ dv) := VRs.append ⟨rv.1, fun i v val a b => by have := R.vr (s' := s1) (Ext.grow (n := ι.length) (by rw [hh1]; exact hk1) (by rw [← hs1]) (by rw [← hs1])) (Nat.le_refl _) (rv.2 i v val a b); rwa [hh1] at this⟩ (hd ι h')
          have hi : i < (vals ++ dv).length := rr.1 ▸ (List.getElem?_eq_some_iff.mp e2').1
          have e3 : (vals ++ dv)[i]? = some (vals ++ dv)[i] := List.getElem?_eq_getElem hi
          have e1' : ps[i]? = some x := by
            simp only at e1
            rw [hnames, List.getElem?_append_left (by rw [hpl]; exact hi)] at e1
            exact e1
          exact ⟨_, .inl ⟨(good.loc _ (List.mem_of_getElem? e1)).resolve_right (lookup_cell F.cell _), lookup_zip hpl nd e1' e3⟩, by rw [hh1]; exact rr.2 i v _ e2' e3⟩ }
    refine codeAny_func (wpAny_mono (h (A.deeper env') env' ι s1 ⟨a1, by show A.depth + 1 + 4 * n ≤ 900; omega, by show A.units + 3 + 20 * n ≤ 9000; omega⟩ R') (fun f2 s2 p2 => ?_) fun _ _ x => x.elim)
    obtain ⟨ι2, fl, σ2, x2, R2, r2, os, hc, q⟩ := p2
    have hιl : σ.objs.length = ι.length := R.len.symm
    have x2' : Ext env.locals ι.length ι s ι2 s2 := by
      refine ⟨by rw [← hιl]; exact x2.pre, fun a h => ?_, fun b o e h1 h2 => ?_, x2.os.trans (by rw [← hs1]), x2.gens.trans (by rw [← hs1])⟩
      · rcases x2.owns a h with z | ⟨z, _⟩
        · exact .inl z
        · have hz : s.heap.get? a = none := by
            cases e : s.heap.get? a with
            | none => rfl
            | some o => rw [hh1, hk1 a o e] at z; cases z
          exact .inr ⟨hz, R.freshL hz⟩
      · exact x2.keep b o (by rw [hh1]; exact hk1 b o e) h1 (by rw [heL]; exact Nat.ne_of_lt (Heap.lt_size e))
    have hι2 : ι2.take ι.length = ι := by rw [x2'.pre, List.take_length]
    have hlt := R.ltL
    have hLk : ∀ m, s.heap.Ns env.locals m → s2.heap.Ns env.locals m := fun m ⟨o, es, ep, ho, r⟩ => ⟨o, es, ep, x2.keep _ _ (by rw [hh1]; exact hk1 _ _ ho) R.notL (by rw [heL]; exact Nat.ne_of_lt hlt), r⟩
    have hnoL : ¬ own ι2 env.locals := fun z => by
      rcases x2'.owns _ z with w | ⟨_, w⟩
      · exact R.notL w
      · exact w rfl
    have RB : Rep c ι2 ⟨σ.loc, σ2.objs⟩ env s2 :=
      { tk := R2.tk, scope := R.scope, good := R.good, globals := R.globals, builtins := R.builtins, keep := R2.keep, above := R2.above, aboveL := R.aboveL, notL := hnoL, apart := R2.apart, len := R2.len
        base := Nat.le_trans R.base (by have := take_pre x2'.pre (Nat.le_refl _); exact this)
        objs := R2.objs
        cel := R.cel
        ns := by
          obtain ⟨m, hn, hm⟩ := R.ns
          exact ⟨m, hLk m hn, fun i x v e1 e2 => let ⟨val, e, r⟩ := hm i x v e1 e2; ⟨val, e, r.mono (fun b o e h => R.stillKept rfl x2' e h) hι2⟩⟩ }
    obtain ⟨⟨t, ht⟩, hb, hO, hV⟩ := hc
    have hrl := fr_ret f2 r2
    have hoslen : os.length ≤ ι2.length := by rw [R2.len, ht]; simp
    refine ⟨ι2.take os.length, retOf fl, ⟨σ.loc, os⟩, ⟨by rw [List.take_take, Nat.min_eq_left (by omega)]; exact x2'.pre, fun a h => x2'.owns a (own_take h), x2'.keep, x2'.os, x2'.gens⟩, ?_, hrl.cut hV, q⟩
    have hall : ∀ (i : Nat) v, σ.loc[i]? = some (some v) → okV os.length v = true ∨ True := fun _ _ _ => .inr trivial
    refine { RB with above := fun a h => RB.above a (own_take h), notL := fun h => RB.notL (own_take h), apart := RB.apart.sublist (List.take_sublist ..), len := by simp; omega, base := ?_, objs := ?_, ns := ?_ }
    · have := R.base; simp; omega
    · intro j o p e1 e2
      have hj : j < os.length := (List.getElem?_eq_some_iff.mp e1).1
      have e2' : ι2[j]? = some p := by rw [List.getElem?_take, if_pos hj] at e2; exact e2
      have e1' : σ2.objs[j]? = some o := by rw [ht, List.getElem?_append_left hj]; exact e1
      have r := R2.objs j o p e1' e2'
      have ok : okO os.length o = true := List.all_eq_true.mp hO o (List.mem_of_getElem? e1)
      cases o with
      | list xs => exact r
      | cell v =>
        obtain ⟨e, ov, hc, hu⟩ := r
        refine ⟨e, ov, hc, fun u q => ?_⟩
        subst q
        obtain ⟨val, e1, r1⟩ := hu u rfl
        exact ⟨val, e1, r1.cut ok⟩
      | inst C ks ws =>
        obtain ⟨hg, ds, n, hd, he⟩ := r
        exact ⟨hg, ds, n, hd, { he with val := fun i v d a b => (he.val i v d a b).cut (List.all_eq_true.mp ok v (List.mem_of_getElem? a)) }⟩
    · obtain ⟨m, hn, hm⟩ := R.ns
      refine ⟨m, hLk m hn, fun i x v e1 e2 => ?_⟩
      obtain ⟨val, e, r⟩ := hm i x v e1 e2
      refine ⟨val, e, r.mono (fun b o e h => R.stillKept rfl x2' e h) ?_⟩
      rw [List.take_take, Nat.min_eq_left (by omega)]; exact hι2
/-- a call, as the machine runs it -/
def TCallC (c : Cx) (f : V) (vs : List V) (σ : St) (Q : V → St → Prop) : Prop :=
  ∀ A env ι s fv vals, Ok A c.n → Rep c ι σ env s → VR ι s.heap f fv → VRs ι s.heap vs vals →
    codeAny c.M A (.call fv ⟨vals, []⟩) (fun r s' => match r with | .ok (.ret v) => PV c env ι s Q v s' | .ok _ => False | .error e => False) s
theorem TCall_of {f : V} {vs : List V} (h : TCallC c f vs σ Q) : TCall c f vs σ Q := fun A env ι s fv vals ok R rf rv => wpAny_call (h A env ι s fv vals ok R rf rv)
theorem TCallC_fn {f k ps dv body scope names globs rest vs ds} {n : Nat} (F : FnOk c.G f k ps dv body scope) (hn : c.n = n + 1) (hk : vs.length = k) (hd : ∀ ι h, VRs ι h ds dv) (hnames : names = ps ++ rest)
    (good : (⟨c.G, n, σ.objs.length, scope, names, globs⟩ : Cx).Good)
    (h : TB ⟨c.G, n, σ.objs.length, scope, names, globs⟩ body ⟨(vs ++ ds).map some ++ rest.map (fun _ => none), σ.objs⟩ (Rt σ Q)) : TCallC c (.val (.ref f)) vs σ Q := by
  intro A env ι s fv vals ok R rf rv
  cases rf
  exact call_T F hn hk hd hnames good h ok R rv
/-- a bound method is called -/
theorem TCall_meth {f : Addr} {j : Nat} {vs : List V} (h : TCallC c (.val (.ref f)) (.obj j :: vs) σ Q) : TCall c (.meth f j) vs σ Q := by
  intro A env ι s fv vals ok R rf rv
  obtain ⟨p, q, hp, rfl, hq⟩ := rf
  exact wpAny_call (method_call hq (h A env ι s (.ref f) (.ref p.1 :: vals) ok R rfl (VRs.cons ⟨p, hp, rfl⟩ rv)))
def Cx.less (c : Cx) (n : Nat) : Cx := { c with n := n }
theorem Rep.less {c : Cx} {ι σ env s} (n : Nat) (R : Rep c ι σ env s) : Rep (c.less n) ι σ env s :=
  { tk := R.tk, scope := R.scope, good := { kind := R.good.kind, nd := R.good.nd, loc := R.good.loc, glob := R.good.glob, dbg := R.good.dbg }, globals := R.globals, builtins := R.builtins, keep := R.keep, above := R.above, aboveL := R.aboveL, notL := R.notL, apart := R.apart, len := R.len, base := R.base, objs := R.objs, cel := R.cel, ns := R.ns }
theorem Rep.more {c : Cx} {ι σ env s n} (R : Rep (c.less n) ι σ env s) : Rep c ι σ env s :=
  { tk := R.tk, scope := R.scope, good := { kind := R.good.kind, nd := R.good.nd, loc := R.good.loc, glob := R.good.glob, dbg := R.good.dbg }, globals := R.globals, builtins := R.builtins, keep := R.keep, above := R.above, aboveL := R.aboveL, notL := R.notL, apart := R.apart, len := R.len, base := R.base, objs := R.objs, cel := R.cel, ns := R.ns }
/-- an object is made -/
theorem TCall_cls {C fI : Addr} {n : Nat} {vs : List V} (hn : c.n = n + 1) (hm : makesIn c.G.K C = true) (hi : findIn c.G.K (.ref C) "__init__" = some (some (.ref fI))) (hf : isFn c.G.K (.ref fI) = true)
    (h : TCallC (c.less n) (.val (.ref fI)) (.obj σ.objs.length :: vs) ⟨σ.loc, σ.objs ++ [.inst C [] []]⟩ fun v σ' => v = .d .none ∧ Q (.obj σ.objs.length) σ') : TCall c (.val (.ref C)) vs σ Q := by
  intro A env ι s fv vals ok R rf rv
  cases rf
  have X := c.G.X.keeps R.keep
  obtain ⟨hh, g, d, t, os⟩ := s
  refine wpAny_call (make_core (makes_of X hm) (looks_findIn X hi) (fun self => bind_fn X self (beq_iff_eq.mp hf)) (.inl rfl) ?_)
  generalize hs1 : (⟨(hh.push emptyDict).push (instObj C hh.objs.size), g, d, t, os⟩ : Shared) = s1
  have hs1h : s1.heap = (hh.push emptyDict).push (instObj C hh.objs.size) := by rw [← hs1]
  have hk : ∀ b o, hh.get? b = some o → s1.heap.get? b = some o := fun b o e => by rw [hs1h]; exact Heap.get?_push_of_some _ (Heap.get?_push_of_some _ e)
  have f1 : hh.get? (hh.objs.size + 1) = none := fresh_ge (Nat.le_succ _)
  have f2 : hh.get? hh.objs.size = none := fresh_size _
  have e1 : s1.heap.get? (hh.objs.size + 1) = some (instObj C hh.objs.size) := by
    rw [hs1h]; have := Heap.get?_push_size (hh.push emptyDict) (o := instObj C hh.objs.size) rfl; rwa [Heap.size_push] at this
  have e2 : s1.heap.get? hh.objs.size = some emptyDict := by rw [hs1h]; exact Heap.get?_push_of_some _ (Heap.get?_push_size _ rfl)
  have htk : 0 < s1.toks := by rw [← hs1]; exact R.tk
  have R1 := R.alloc (s' := s1) (o := .inst C [] []) (p := (hh.objs.size + 1, hh.objs.size)) hk f1 f2
    ⟨e1, [], 0, e2, ⟨List.nodup_nil, rfl, rfl, fun i k d e => by simp at e, fun i k d e => by simp at e⟩⟩
  have x1 : Ext env.locals ι.length ι _ (ι ++ [(hh.objs.size + 1, hh.objs.size)]) s1 := Ext.alloc R.toRep0 hk (by rw [← hs1]) (by rw [← hs1]) f1 f2
  have hj : (ι ++ [(hh.objs.size + 1, hh.objs.size)])[σ.objs.length]? = some (hh.objs.size + 1, hh.objs.size) := by rw [← R.len]; simp
  obtain ⟨a1, a2, a3⟩ := ok
  have := h (A.under (.builtin "type.__call__" ⟨.ref C :: vals, []⟩)) env _ s1 (.ref fI) (.ref (hh.objs.size + 1) :: vals) ⟨a1, by show A.depth + 1 + 4 * n ≤ 900; omega, by show A.units + 1 + 20 * n ≤ 9000; omega⟩ ((R1.up htk).less n) rfl
    (VRs.cons ⟨_, hj, rfl⟩ (R.vrs x1 (Nat.le_refl _) rv))
  refine codeAny_mono this fun r s2 z => ?_
  rcases r with e | (_ | _ | _ | v) <;> first | exact z.elim | skip
  obtain ⟨ι2, w, σ2, x2, R2, r2, hw, q⟩ := z
  subst hw
  cases r2
  refine ⟨rfl, ?_⟩
  have x3 : Ext env.locals ι.length ι _ ι2 s2 := x1.trans (x2.less (by simp))
  refine ⟨ι2, .obj σ.objs.length, σ2, x3, R2.more, ⟨(hh.objs.size + 1, hh.objs.size), ?_, rfl⟩, q⟩
  exact getElem?_of_pre x2.pre (by simp [R.len]) hj
end
set_option Elab.async false
set_option autoImplicit true
set_option linter.unusedVariables false
section
variable {c : Cx} {σ : St} {Q : V → St → Prop} {QB : Bool → St → Prop}
theorem PC.here {env ι s b} (R : Rep c ι σ env s) (q : QB b σ) : PC c env ι s QB (.bool b) s := ⟨b, rfl, PB.here R q⟩
/-! ints -/
theorem TBin_add {a b : Int} (q : Q (.d (.int (a + b))) σ) : TBin c .Add (.d (.int a)) (.d (.int b)) σ Q := by
  intro A env ι s va vb ok R r1 r2
  obtain ⟨t, rfl⟩ := vr_int_inv r1; obtain ⟨u, rfl⟩ := vr_int_inv r2
  exact add_int (PV.same R vr_int q)
theorem TBin_sub {a b : Int} (q : Q (.d (.int (a - b))) σ) : TBin c .Sub (.d (.int a)) (.d (.int b)) σ Q := by
  intro A env ι s va vb ok R r1 r2
  obtain ⟨t, rfl⟩ := vr_int_inv r1; obtain ⟨u, rfl⟩ := vr_int_inv r2
  exact sub_int (PV.same R vr_int q)
theorem TBin_mod {a b : Int} (hb : 0 < b) (q : Q (.d (.int (a % b))) σ) : TBin c .Mod (.d (.int a)) (.d (.int b)) σ Q := by
  intro A env ι s va vb ok R r1 r2
  obtain ⟨t, rfl⟩ := vr_int_inv r1; obtain ⟨u, rfl⟩ := vr_int_inv r2
  refine mod_int' (by omega) (PV.same R ?_ q)
  rw [Int.fmod_eq_emod_of_nonneg _ (by omega)]; exact vr_int
theorem TBin_div {a b : Int} (hb : 0 < b) (hp : b.natAbs.log2 < 30) (q : Q (.d (.int (a / b))) σ) : TBin c .FloorDiv (.d (.int a)) (.d (.int b)) σ Q := by
  intro A env ι s va vb ok R r1 r2
  obtain ⟨t, rfl⟩ := vr_int_inv r1; obtain ⟨u, rfl⟩ := vr_int_inv r2
  refine floordiv_int (by omega) (PV.same R ?_ q) (.inl (PyProof.noPylong_of_log2 (by omega)))
  rw [Int.fdiv_eq_ediv_of_nonneg _ (by omega)]; exact vr_int
theorem TInp_add {a b : Int} (q : Q (.d (.int (a + b))) σ) : TInp c .Add (.d (.int a)) (.d (.int b)) σ Q := by
  intro A env ι s va vb ok R r1 r2
  obtain ⟨t, rfl⟩ := vr_int_inv r1; obtain ⟨u, rfl⟩ := vr_int_inv r2
  exact wpAny_iadd_int (PV.same R vr_int q)
theorem TInp_sub {a b : Int} (q : Q (.d (.int (a - b))) σ) : TInp c .Sub (.d (.int a)) (.d (.int b)) σ Q := by
  intro A env ι s va vb ok R r1 r2
  obtain ⟨t, rfl⟩ := vr_int_inv r1; obtain ⟨u, rfl⟩ := vr_int_inv r2
  exact isub_int (PV.same R vr_int q)
theorem TC_lt {a b : Int} (q : QB (decide (a < b)) σ) : TC c .Lt (.d (.int a)) (.d (.int b)) σ QB := by
  intro A env ι s va vb ok R r1 r2
  obtain ⟨t, rfl⟩ := vr_int_inv r1; obtain ⟨u, rfl⟩ := vr_int_inv r2
  exact lt_int (PC.here R q)
theorem TC_le {a b : Int} (q : QB (decide (a ≤ b)) σ) : TC c .LtE (.d (.int a)) (.d (.int b)) σ QB := by
  intro A env ι s va vb ok R r1 r2
  obtain ⟨t, rfl⟩ := vr_int_inv r1; obtain ⟨u, rfl⟩ := vr_int_inv r2
  exact le_int (PC.here R q)
theorem TC_gt {a b : Int} (q : QB (decide (b < a)) σ) : TC c .Gt (.d (.int a)) (.d (.int b)) σ QB := by
  intro A env ι s va vb ok R r1 r2
  obtain ⟨t, rfl⟩ := vr_int_inv r1; obtain ⟨u, rfl⟩ := vr_int_inv r2
  exact gt_int (PC.here R q)
theorem TC_ge {a b : Int} (q : QB (decide (b ≤ a)) σ) : TC c .GtE (.d (.int a)) (.d (.int b)) σ QB := by
  intro A env ι s va vb ok R r1 r2
  obtain ⟨t, rfl⟩ := vr_int_inv r1; obtain ⟨u, rfl⟩ := vr_int_inv r2
  exact ge_int (PC.here R q)
theorem TC_eq {a b : Int} (q : QB (decide (a = b)) σ) : TC c .Eq (.d (.int a)) (.d (.int b)) σ QB := by
  intro A env ι s va vb ok R r1 r2
  obtain ⟨t, rfl⟩ := vr_int_inv r1; obtain ⟨u, rfl⟩ := vr_int_inv r2
  have e : (a == b) = decide (a = b) := by by_cases h : a = b <;> simp [h]
  exact eq_int (by rw [e]; exact PC.here R q)
theorem TC_ne {a b : Int} (q : QB (!decide (a = b)) σ) : TC c .NotEq (.d (.int a)) (.d (.int b)) σ QB := by
  intro A env ι s va vb ok R r1 r2
  obtain ⟨t, rfl⟩ := vr_int_inv r1; obtain ⟨u, rfl⟩ := vr_int_inv r2
  have e : (a != b) = !decide (a = b) := by by_cases h : a = b <;> simp [h]
  exact ne_int (by rw [e]; exact PC.here R q)
theorem TC_neb {a b : Bool} (q : QB (a != b) σ) : TC c .NotEq (.d (.bool a)) (.d (.bool b)) σ QB := by
  intro A env ι s va vb ok R r1 r2
  obtain rfl := vr_bool_inv r1; obtain rfl := vr_bool_inv r2
  exact ne_bool (PC.here R q)
/-! texts -/
theorem str_beq (x y : List Nat) : ((⟨x.toArray⟩ : Str) == ⟨y.toArray⟩) = decide (x = y) := by
  by_cases h : x = y
  · subst h; simp
  · rw [decide_eq_false h]
    simp only [beq_eq_false_iff_ne, ne_eq]
    intro e
    injection e with e
    exact h (by simpa using congrArg Array.toList e)
theorem TC_eqs {a b : List Nat} (q : QB (decide (a = b)) σ) : TC c .Eq (.d (.str a)) (.d (.str b)) σ QB := by
  intro A env ι s va vb ok R r1 r2
  obtain ⟨t, rfl⟩ := vr_str_inv r1; obtain ⟨u, rfl⟩ := vr_str_inv r2
  exact eq_str (by rw [str_beq]; exact PC.here R q)
theorem TC_nes {a b : List Nat} (q : QB (!decide (a = b)) σ) : TC c .NotEq (.d (.str a)) (.d (.str b)) σ QB := by
  intro A env ι s va vb ok R r1 r2
  obtain ⟨t, rfl⟩ := vr_str_inv r1; obtain ⟨u, rfl⟩ := vr_str_inv r2
  refine ne_str ?_
  have : ((⟨a.toArray⟩ : Str) != ⟨b.toArray⟩) = !decide (a = b) := by rw [bne, str_beq]
  rw [this]; exact PC.here R q
theorem TC_nenn (q : QB false σ) : TC c .NotEq (.d .none) (.d .none) σ QB := by
  intro A env ι s va vb ok R r1 r2
  obtain rfl := vr_none_inv r2; obtain rfl := vr_none_inv r1
  exact EqNone.ne_none_none (PC.here R q)
theorem TC_isn {v : D} (q : QB (match v with | .none => true | _ => false) σ) : TC c .Is (.d v) (.d .none) σ QB := by
  intro A env ι s va vb ok R r1 r2
  obtain rfl := vr_none_inv r2
  refine is_none ?_
  cases r1 <;> exact PC.here R q
theorem TC_isnotn {v : D} (q : QB (match v with | .none => false | _ => true) σ) : TC c .IsNot (.d v) (.d .none) σ QB := by
  intro A env ι s va vb ok R r1 r2
  obtain rfl := vr_none_inv r2
  refine isNot_none ?_
  cases r1 <;> exact PC.here R q
theorem TTr_none (q : QB false σ) : TTr c (.d .none) σ QB := by
  intro A env ι s va ok R r
  obtain rfl := vr_none_inv r
  exact truthy_none (PB.here R q)
theorem TTr_bool {b : Bool} (q : QB b σ) : TTr c (.d (.bool b)) σ QB := by
  intro A env ι s va ok R r
  obtain rfl := vr_bool_inv r
  exact wpAny_truthy_bool (PB.here R q)
theorem TTr_str {x : List Nat} (hx : x.length ≤ 1000000) (q : QB (!x.isEmpty) σ) : TTr c (.d (.str x)) σ QB := by
  intro A env ι s va ok R r
  obtain ⟨t, rfl⟩ := vr_str_inv r
  have hl : (⟨x.toArray⟩ : Str).length = x.length := by simp [Str.length]
  refine liftB R (P.truthy_str (by rw [hl]; omega) ?_)
  have : (((⟨x.toArray⟩ : Str).length : Int) != 0) = !x.isEmpty := by
    rw [hl]
    cases x with
    | nil => rfl
    | cons a l => simp only [List.length_cons, List.isEmpty_cons, Bool.not_false, bne_iff_ne, ne_eq]; omega
  rw [this]; exact PB0.same R q
theorem str_append (x y : List Nat) : (⟨x.toArray⟩ : Str) ++ ⟨y.toArray⟩ = ⟨(x ++ y).toArray⟩ := by
  show (⟨x.toArray ++ y.toArray⟩ : Str) = _
  simp
theorem len_mk (x : List Nat) : (⟨x.toArray⟩ : Str).length = x.length := by simp [Str.length]
theorem TBin_adds {x y : List Nat} (h : x.length + y.length ≤ 1000000) (q : Q (.d (.str (x ++ y))) σ) : TBin c .Add (.d (.str x)) (.d (.str y)) σ Q := by
  intro A env ι s va vb ok R r1 r2
  obtain ⟨t, rfl⟩ := vr_str_inv r1; obtain ⟨u, rfl⟩ := vr_str_inv r2
  refine liftV R (PyProof.Rows.add_str (fun t' tk => ?_) (by rw [len_mk, len_mk, sizeLine_eq]; omega))
  rw [str_append]; exact PV0.same R vr_str q
end
set_option Elab.async false
set_option autoImplicit true
set_option linter.unusedVariables false
section
variable {c : Cx} {σ : St} {Q : V → St → Prop} {QB : Bool → St → Prop}
def Bltn (s : Shared) (ov : Value) : Prop := ∃ T id, s.TypeIs ov T ∧ typeLookup (.type T) "__getitem__" = pure (some (.builtin id))
def TItem (c : Cx) (o i : V) (σ : St) (Q : V → St → Prop) : Prop :=
  ∀ A env ι s ov iv, Ok A c.n → Rep c ι σ env s → VR ι s.heap o ov → VR ι s.heap i iv → Bltn s ov ∧ wpAny c.M A (getItem ov iv) (PV c env ι s Q) NoE s
theorem tail_T {value slice : Expr} {A env ι s ov iv s₀ ι₀} (x : Ext env.locals ι₀.length ι₀ s₀ ι s) (hs : subscripted slice false ov iv = operate [ov, iv] (getItem ov iv) ∨ subscripted slice false ov iv = operate [iv, ov] (getItem ov iv))
    (h : Bltn s ov ∧ wpAny c.M A (getItem ov iv) (PV c env ι s Q) NoE s) : wpAny c.M A (subscriptTail value slice ov iv) (PV c env ι₀ s₀ Q) NoE s := by
  obtain ⟨⟨T, id, hT, hl⟩, hg⟩ := h
  unfold subscriptTail
  refine wpAny_bind ?_
  rw [getitemInPython_of_ne hT.not_modules]
  refine wpAny_bind (wpAny_specialOf hT hl (wpAny_pure ?_))
  rcases hs with hs | hs <;> rw [hs] <;> exact wpAny_bind (wpAny_operate' (wpAny_mono hg (fun r s3 h3 => wpAny_bind (wpAny_letTemporaryGo (wpAny_pure (PV.trans x h3)))) fun _ _ x => x))
theorem TE_sub {value slice : Expr} {pos : Pos} (h : TE c value σ fun o σ₁ => TE c slice σ₁ fun i σ₂ => TItem c o i σ₂ Q)
    (hs : ∀ o i, subscripted slice false o i = operate [o, i] (getItem o i) := by intro _ _; rfl) : TE c (.Subscript value slice pos) σ Q := by
  intro A env ι s ok R
  refine Subscript_ (wpAny_mono (h A env ι s ok R) (fun va s1 p1 => ?_) fun _ _ x => x)
  obtain ⟨ι1, a, σ1, x1, R1, r1, q1⟩ := p1
  refine wpAny_mono (q1 A env ι1 s1 ok R1) (fun vb s2 p2 => ?_) fun _ _ x => x
  obtain ⟨ι2, b, σ2, x2, R2, r2, q2⟩ := p2
  exact tail_T (x1.trans (x2.less (take_pre x1.pre (Nat.le_refl _)))) (.inl (hs _ _)) (q2 A env ι2 s2 va vb ok R2 (R1.vr x2 (Nat.le_refl _) r1) r2)
def TPart (c : Cx) : Option Expr → St → (Option Int → St → Prop) → Prop
  | none, σ, Q => Q none σ
  | some e, σ, Q => TE c e σ fun v σ₁ => ∃ i, v = .d (.int i) ∧ Q (some i) σ₁
def TSlc (c : Cx) (o : V) (l u : Option Int) (σ : St) (Q : V → St → Prop) : Prop :=
  ∀ A env ι s ov lv uv a, Ok A c.n → Rep c ι σ env s → VR ι s.heap o ov → IsPart lv l → IsPart uv u → s.heap.get? a = some { cls := .type "slice", data := .fields #[lv, uv, .none] } →
    Bltn s ov ∧ wpAny c.M A (getItem ov (.ref a)) (PV c env ι s Q) NoE s
theorem part_T {o : Option Expr} {A env ι s} {Q : Option Int → St → Prop} (ok : Ok A c.n) (R : Rep c ι σ env s) (h : TPart c o σ Q) :
    wpAny c.M A (valueOrNone (evalOpt o env)) (fun val s' => ∃ ι' σ' l, Ext env.locals ι.length ι s ι' s' ∧ Rep c ι' σ' env s' ∧ IsPart val l ∧ Q l σ') NoE s := by
  cases o with
  | none => exact wpAny_pure ⟨ι, σ, none, Ext.refl .., R, .none, h⟩
  | some e =>
    refine wpAny_mono (h A env ι s ok R) (fun val s1 p1 => ?_) fun _ _ x => x
    obtain ⟨ι1, v, σ1, x1, R1, r1, i, rfl, q⟩ := p1
    obtain ⟨t, rfl⟩ := vr_int_inv r1
    exact ⟨ι1, σ1, some i, x1, R1, .int i t, q⟩
theorem TE_slice {value : Expr} {lo hi : Option Expr} {p pos : Pos} (h : TE c value σ fun o σ₁ => TPart c lo σ₁ fun l σ₂ => TPart c hi σ₂ fun u σ₃ => TSlc c o l u σ₃ Q) :
    TE c (.Subscript value (.Slice lo hi none p) pos) σ Q := by
  intro A env ι s ok R
  refine Subscript_ (wpAny_mono (h A env ι s ok R) (fun va s1 p1 => ?_) fun _ _ x => x)
  obtain ⟨ι1, a, σ1, x1, R1, r1, q1⟩ := p1
  show wpAny _ _ (do let l ← valueOrNone (evalOpt lo env); let u ← holding [l] (valueOrNone (evalOpt hi env)); let s ← holding [l, u] (valueOrNone (evalOpt none env)); newFields "slice" [l, u, s]) _ _ _
  refine wpAny_bind (wpAny_mono (part_T ok R1 q1) (fun lv s2 p2 => ?_) fun _ _ x => x)
  obtain ⟨ι2, σ2, l, x2, R2, hl, q2⟩ := p2
  refine wpAny_bind (wpAny_holding (wpAny_mono (part_T ok R2 q2) (fun uv s3 p3 => ?_) fun _ _ x => x))
  obtain ⟨ι3, σ3, u, x3, R3, hu, q3⟩ := p3
  refine wpAny_bind (wpAny_holding (wpAny_pure ?_))
  refine wpAny_newObj_type ?_ (by size_fits)
  have xx := (x1.trans (x2.less (take_pre x1.pre (Nat.le_refl _)))).trans (x3.less (Nat.le_trans (take_pre x1.pre (Nat.le_refl _)) (take_pre x2.pre (Nat.le_refl _))))
  have R4 : Rep c ι3 σ3 env { s3 with heap := s3.heap.push { cls := .type "slice", data := .fields #[lv, uv, .none] } } := Rep0.up (R3.push _) R3.tk
  have x4 : Ext env.locals ι3.length ι3 s3 ι3 { s3 with heap := s3.heap.push { cls := .type "slice", data := .fields #[lv, uv, .none] } } := Ext.push _
  refine tail_T (slice := .Slice lo hi none p) (ι := ι3) (ι₀ := ι) (xx.trans (Ext.push _)) (.inr rfl) ?_
  exact q3 A env ι3 _ va lv uv _ ok R4 (R3.vr x4 (Nat.le_refl _) (R2.vr x3 (Nat.le_refl _) (R1.vr x2 (Nat.le_refl _) r1))) hl hu (Heap.get?_push_size _ rfl)
theorem bltn_str {s : Shared} {x : Str} {t : Tok} : Bltn s (.str x t) := ⟨"str", _, typeIs_str _ _ _, F.slot_str_getitem.lookup⟩
theorem bltn_list {s : Shared} {a : Addr} {items} (h : s.heap.IsList a items) : Bltn s (.ref a) := ⟨"list", _, h.typeIs, slot_list_getitem.lookup⟩
theorem TSlc_str {x : List Nat} {l u : Option Int} (hx : x.length ≤ 1000000) (q : Q (.d (.str (sl x l u))) σ) : TSlc c (.d (.str x)) l u σ Q := by
  intro A env ι s ov lv uv a ok R r hl hu ha
  obtain ⟨t, rfl⟩ := vr_str_inv r
  refine ⟨bltn_str, liftV R ?_⟩
  have hQ : ∀ t' k, PV0 c env ι s Q (.str (Txt.slice ⟨x.toArray⟩ l u) t') { s with toks := k } := fun t' k => by rw [txt_slice]; exact PV0.same R vr_str q
  have hsz : (⟨x.toArray⟩ : Str).length ≤ sizeLine := by rw [len_mk, sizeLine_eq]; omega
  generalize (⟨x.toArray⟩ : Str) = y at hQ hsz
  cases hl with
  | none => cases hu with
    | none => exact wpAny_getItem_str_slice (l := none) (u := none) (st := none) ⟨_, ha, rfl, rfl⟩ rfl (post_val_or_str ⟨Nat.le_trans (Txt.slice_le _ _ _) hsz, hQ⟩)
    | int j uj => exact wpAny_getItem_str_slice (l := none) (u := some (j, uj)) (st := none) ⟨_, ha, rfl, rfl⟩ rfl (post_val_or_str ⟨Nat.le_trans (Txt.slice_le _ _ _) hsz, hQ⟩)
  | int i ui => cases hu with
    | none => exact wpAny_getItem_str_slice (l := some (i, ui)) (u := none) (st := none) ⟨_, ha, rfl, rfl⟩ rfl (post_val_or_str ⟨Nat.le_trans (Txt.slice_le _ _ _) hsz, hQ⟩)
    | int j uj => exact wpAny_getItem_str_slice (l := some (i, ui)) (u := some (j, uj)) (st := none) ⟨_, ha, rfl, rfl⟩ rfl (post_val_or_str ⟨Nat.le_trans (Txt.slice_le _ _ _) hsz, hQ⟩)
theorem pick_list (items : List Value) (l u : Option Int) : slicePick items.toArray l u none = (sl items l u).toArray := by
  unfold slicePick sliceBounds
  simp only [Option.getD_none, show (1 : Int) > 0 by decide, if_true, List.size_toArray]
  have h1 := clipZ items.length 0 l
  have h2 := clipZ items.length items.length u
  have e := sliceRange_one (clipN items.length 0 l) (clipN items.length items.length u)
  rw [← h1, ← h2] at e
  have e2 := pick_range items (clipN items.length 0 l) (clipN items.length items.length u) (clip_le _ _ (Nat.le_refl _) _)
  congr 1
  rw [← e] at e2
  unfold sl
  rw [← e2]
  cases l <;> cases u <;> simp
theorem DRs.sl {h : Heap} {xs : List D} {vs : List Value} (r : DRs h xs vs) (l u : Option Int) : DRs h (sl xs l u) (sl vs l u) := by
  obtain ⟨hl, hr⟩ := r
  unfold Mine.sl
  rw [hl]
  refine ⟨by simp [hl], fun i d v a b => ?_⟩
  rw [List.getElem?_take] at a b
  split at a
  · rename_i h'
    rw [if_pos h', List.getElem?_drop] at b
    rw [List.getElem?_drop] at a
    exact hr _ d v a b
  · cases a
/-- a new list onto the state -/
theorem PV.newList {env ι s s'} {xs : List D} {items : List Value} (R : Rep c ι σ env s) (hs : s'.heap = s.heap.push { cls := .type "list", data := .seq items.toArray }) (ho : s'.os = s.os) (hg : s'.gens = s.gens) (ht : 0 < s'.toks)
    (r : DRs s.heap xs items) (q : Q (.obj σ.objs.length) ⟨σ.loc, σ.objs ++ [.list xs]⟩) : PV c env ι s Q (.ref s.heap.objs.size) s' := by
  have hk : ∀ b o, s.heap.get? b = some o → s'.heap.get? b = some o := fun b o e => by rw [hs]; exact Heap.get?_push_of_some _ e
  have f := fresh_size s.heap
  have hn : s'.heap.get? s.heap.objs.size = some { cls := .type "list", data := .seq items.toArray } := by rw [hs]; exact Heap.get?_push_size _ rfl
  have r' : DRs s'.heap xs items := r.mono fun b o e _ => hk b o e
  have RA := R.toRep0.alloc (s' := s') (o := .list xs) (p := (s.heap.objs.size, s.heap.objs.size)) hk f f ⟨rfl, items, 0, hn, r'⟩
  exact ⟨_, .obj σ.objs.length, _, Ext.alloc R.toRep0 hk ho hg f f, RA.up ht, ⟨(s.heap.objs.size, s.heap.objs.size), by rw [← R.len]; simp, rfl⟩, q⟩
theorem TSlc_list {k : Nat} {xs : List D} {l u : Option Int} (ho : σ.objs[k]? = some (.list xs)) (hx : xs.length ≤ 1000000) (q : Q (.obj σ.objs.length) ⟨σ.loc, σ.objs ++ [.list (sl xs l u)]⟩) : TSlc c (.obj k) l u σ Q := by
  intro A env ι s ov lv uv a ok R r hl hu ha
  obtain ⟨p, hp, rfl⟩ := r
  obtain ⟨_, items, n, hg, hd⟩ := R.objs k _ p ho hp
  have hL : s.heap.IsList p.1 items.toArray := ⟨_, hg, rfl, _, rfl⟩
  refine ⟨bltn_list hL, wpAny_getItem_list_slice hL ⟨_, ha, rfl, rfl⟩ hl hu .none (by intro h; cases h) ?_ (by simp [← hd.1, sizeLine_eq]; omega)⟩
  rw [pick_list]
  exact PV.newList R rfl rfl rfl R.tk (hd.sl l u) q
/-- a list of the base's, as the script is -/
theorem TSlc_base {a : Addr} {xs : List D} {items : List Value} {l u : Option Int} (ho : c.G.H.IsList a items.toArray) (hd : DRs c.G.H xs items) (hx : xs.length ≤ 1000000)
    (q : Q (.obj σ.objs.length) ⟨σ.loc, σ.objs ++ [.list (sl xs l u)]⟩) : TSlc c (.val (.ref a)) l u σ Q := by
  intro A env ι s ov lv uv b ok R r hl hu ha
  cases r
  have hL : s.heap.IsList a items.toArray := ho.at fun o e => R.keep _ _ e
  refine ⟨bltn_list hL, wpAny_getItem_list_slice hL ⟨_, ha, rfl, rfl⟩ hl hu .none (by intro h; cases h) ?_ (by simp [← hd.1, sizeLine_eq]; omega)⟩
  rw [pick_list]
  exact PV.newList R rfl rfl rfl R.tk ((hd.mono fun b o e _ => R.keep b o e).sl l u) q
theorem sIx {i : Int} {n j : Nat} (h0 : i = (j : Int)) (h1 : j < n) : seqIndex? i n = some j := by subst h0; simp [seqIndex?]; omega
theorem TItem_str {x : List Nat} {i : Int} {j ch : Nat} (hj : seqIndex? i x.length = some j) (hc : x[j]? = some ch) (hi : -1000000 ≤ i ∧ i ≤ 1000000) (q : Q (.d (.str [ch])) σ) : TItem c (.d (.str x)) (.d (.int i)) σ Q := by
  intro A env ι s ov iv ok R r1 r2
  obtain ⟨t, rfl⟩ := vr_str_inv r1; obtain ⟨u, rfl⟩ := vr_int_inv r2
  refine ⟨bltn_str, P.getItem_str (c := ch) ?_ ?_ (PV.same R vr_str q)⟩
  · simp only [Bool.or_eq_false_iff, decide_eq_false_iff_not]; omega
  · rw [len_mk, hj]; simpa using hc
theorem TItem_list {k : Nat} {xs : List D} {i : Int} {d : D} (ho : σ.objs[k]? = some (.list xs)) (h0 : 0 ≤ i) (h1 : i ≤ 1000000) (hx : xs[i.toNat]? = some d) (q : Q (.d d) σ) : TItem c (.obj k) (.d (.int i)) σ Q := by
  intro A env ι s ov iv ok R r1 r2
  obtain ⟨p, hp, rfl⟩ := r1; obtain ⟨u, rfl⟩ := vr_int_inv r2
  obtain ⟨_, items, n, hg, hd⟩ := R.objs k _ p ho hp
  have hL : s.heap.IsList p.1 items.toArray := ⟨_, hg, rfl, _, rfl⟩
  have hlt : i.toNat < items.length := by rw [← hd.1]; exact (List.getElem?_eq_some_iff.mp hx).1
  have e : items.toArray[i.toNat]? = some items[i.toNat] := by simp [hlt]
  have rv : VR ι s.heap (.d d) items[i.toNat] := hd.2 _ d _ hx (List.getElem?_eq_getElem hlt)
  exact ⟨bltn_list hL, wpAny_getItem_list hL h0 (by omega) e (PV.here R rv q)⟩
/-- a list of the text's top -/
theorem TItem_top {a : Addr} {l : List Value} {n : Nat} {dd : Option Addr} {sl : Array (Option Value)} {i : Int} {v : V} {val : Value} (ho : c.G.K.lookup a = some ⟨.type "list", dd, .seq l.toArray n, sl⟩) (h0 : 0 ≤ i) (h1 : i ≤ 1000000)
    (hx : l[i.toNat]? = some val) (hv : ∀ ι h, VR ι h v val) (q : Q v σ) : TItem c (.val (.ref a)) (.d (.int i)) σ Q := by
  intro A env ι s ov iv ok R r1 r2
  cases r1; obtain ⟨u, rfl⟩ := vr_int_inv r2
  have hL : s.heap.IsList a l.toArray := ⟨_, (c.G.X.keeps R.keep) _ _ ho, rfl, _, rfl⟩
  exact ⟨bltn_list hL, wpAny_getItem_list hL h0 (by omega) (by simpa using hx) (PV.here R (hv _ _) q)⟩
end
set_option Elab.async false
set_option autoImplicit true
set_option linter.unusedVariables false
section
variable {c : Cx} {σ : St} {Q : V → St → Prop} {QB : Bool → St → Prop}
/-! displays -/
theorem TE_list {es : List Expr} {pos : Pos} (h : TArgs c es σ fun vs σ₁ => ∃ ds, vs = ds.map .d ∧ ds.length ≤ 1000 ∧ Q (.obj σ₁.objs.length) ⟨σ₁.loc, σ₁.objs ++ [.list ds]⟩)
    (hs : ∀ env, starEach es env = es.map (fun e => (false, eval e env)) := by intro _; rfl) : TE c (.List es pos) σ Q := by
  intro A env ι s ok R
  refine List_ ?_
  rw [hs]
  refine wpAny_mono (spliced_T es pos ok R h) (fun vals s1 p1 => ?_) fun _ _ x => x
  obtain ⟨ι1, vs, σ1, x1, R1, r1, ds, rfl, hl, q1⟩ := p1
  have hd := r1.ofD
  exact wpAny_newObj_type (PV.trans x1 (PV.newList R1 rfl rfl rfl R1.tk hd q1)) (by show vals.toArray.size ≤ sizeLine; rw [List.size_toArray, ← hd.1, sizeLine_eq]; omega)
theorem TE_tuple {es : List Expr} {k : Nat} {pos : Pos} (h : TArgs c es σ fun vs σ₁ => ∃ ds, vs = ds.map .d ∧ ds.length ≤ 1000 ∧ Q (.d (.tup ds)) σ₁)
    (hs : ∀ env, starEach es env = es.map (fun e => (false, eval e env)) := by intro _; rfl) : TE c (.Tuple es k pos) σ Q := by
  intro A env ι s ok R
  refine Tuple_ ?_
  rw [hs]
  refine wpAny_mono (spliced_T es pos ok R h) (fun vals s1 p1 => ?_) fun _ _ x => x
  obtain ⟨ι1, vs, σ1, x1, R1, r1, ds, rfl, hl, q1⟩ := p1
  have hd := r1.ofD
  refine wpAny_newObj_type (PV.trans x1 ⟨ι1, .d (.tup ds), σ1, Ext.push _, Rep0.up (R1.push _) R1.tk, ?_, q1⟩) (by show vals.toArray.size ≤ sizeLine; rw [List.size_toArray, ← hd.1, sizeLine_eq]; omega)
  exact DR.tup (Heap.get?_push_size _ rfl) rfl rfl hd.1 (hd.mono fun b o e _ => Heap.get?_push_of_some _ e).2
/-! built-in functions -/
theorem TCall_len_str {x : List Nat} (hx : x.length ≤ 1000000) (q : Q (.d (.int x.length)) σ) : TCall c (.val (.builtin "len")) [.d (.str x)] σ Q := by
  intro A env ι s fv vals ok R rf rv
  cases rf
  obtain ⟨a, r, rfl, r1, r2⟩ := rv.cons_inv
  obtain rfl := r2.nil_inv
  obtain ⟨t, rfl⟩ := vr_str_inv r1
  refine liftV R (PyProof.Rows.len_str (by rw [len_mk]; omega) ?_)
  rw [len_mk]; exact PV0.same R vr_int q
theorem TCall_len_list {k : Nat} {xs : List D} (ho : σ.objs[k]? = some (.list xs)) (hx : xs.length ≤ 1000000) (q : Q (.d (.int xs.length)) σ) : TCall c (.val (.builtin "len")) [.obj k] σ Q := by
  intro A env ι s fv vals ok R rf rv
  cases rf
  obtain ⟨a, r, rfl, r1, r2⟩ := rv.cons_inv
  obtain rfl := r2.nil_inv
  obtain ⟨p, hp, rfl⟩ := r1
  obtain ⟨_, items, n, hg, hd⟩ := R.objs k _ p ho hp
  refine liftV R (PyProof.Rows.len_list (items := items.toArray) ⟨_, hg, rfl, _, rfl⟩ (by simp [← hd.1]; omega) ?_)
  rw [List.size_toArray, ← hd.1]; exact PV0.same R vr_int q
theorem TCall_ord {ch : Nat} (q : Q (.d (.int ch)) σ) : TCall c (.val (.builtin "ord")) [.d (.str [ch])] σ Q := by
  intro A env ι s fv vals ok R rf rv
  cases rf
  obtain ⟨a, r, rfl, r1, r2⟩ := rv.cons_inv
  obtain rfl := r2.nil_inv
  obtain ⟨t, rfl⟩ := vr_str_inv r1
  exact P.ord_of_char (PV.same R vr_int q)
theorem TCall_chr {i : Int} (h0 : 0 ≤ i) (h1 : i ≤ 1114111) (q : Q (.d (.str [i.toNat])) σ) : TCall c (.val (.builtin "chr")) [.d (.int i)] σ Q := by
  intro A env ι s fv vals ok R rf rv
  cases rf
  obtain ⟨a, r, rfl, r1, r2⟩ := rv.cons_inv
  obtain rfl := r2.nil_inv
  obtain ⟨t, rfl⟩ := vr_int_inv r1
  exact chr_of_range h0 h1 (PV.same R vr_str q)
theorem TCall_min {a b : Int} (q : Q (.d (.int (min a b))) σ) : TCall c (.val (.builtin "min")) [.d (.int a), .d (.int b)] σ Q := by
  intro A env ι s fv vals ok R rf rv
  cases rf
  obtain ⟨x, r, rfl, r1, r2⟩ := rv.cons_inv
  obtain ⟨y, r, rfl, r3, r4⟩ := r2.cons_inv
  obtain rfl := r4.nil_inv
  obtain ⟨t, rfl⟩ := vr_int_inv r1; obtain ⟨u, rfl⟩ := vr_int_inv r3
  obtain ⟨m, hn, hm⟩ := R.ns
  refine liftV R (min_two_N ok.1 (fr_of hn) (news_of (xs := [env.locals]) (by simp)) (fun h' tk F' N' => ?_))
  obtain ⟨hk, R'⟩ := R.toRep0.ledger (s' := { s with heap := h', toks := tk }) hn F' N' (fun p hp => hp)
  refine ⟨ι, .d (.int (min a b)), σ, Ext.but hk rfl rfl, R', ?_, q⟩
  have : (if b < a then b else a) = min a b := by split <;> omega
  rw [this]; exact vr_int
/-! methods of texts and lists -/
theorem TMeth_str {x : List Nat} {name : Str} {id : String} {Q : V → List V → St → Prop} (slot : Slot "str" name id) (hty : typeOf (.builtin id) = pure (.type "method_descriptor")) (q : Q (.val (.builtin id)) [.d (.str x)] σ) :
    TMeth c (.d (.str x)) name σ Q := by
  intro A env ι s ov pl ok R r
  obtain ⟨t, rfl⟩ := vr_str_inv r
  have hq : ∃ ι' f first σ', Ext env.locals ι.length ι s ι' s ∧ Rep c ι' σ' env s ∧ VR ι' s.heap f (.builtin id) ∧ VRs ι' s.heap first [.str ⟨x.toArray⟩ t] ∧ Q f first σ' := ⟨ι, .val (.builtin id), [.d (.str x)], σ, Ext.refl .., R, vr_val, VRs.cons vr_str VRs.nil, q⟩
  with_reducible exact getMethod_builtin (typeIs_str _ _ _) F.plainAttrs_str slot hty (fun a e => nomatch e) hq
theorem TMeth_append {k : Nat} {xs : List D} {Q : V → List V → St → Prop} (ho : σ.objs[k]? = some (.list xs)) (q : Q (.val (.builtin "list.append")) [.obj k] σ) : TMeth c (.obj k) "append" σ Q := by
  intro A env ι s ov pl ok R r
  obtain ⟨p, hp, rfl⟩ := r
  obtain ⟨_, items, n, hg, hd⟩ := R.objs k _ p ho hp
  exact Calls.getMethod_list_append hg rfl rfl ⟨ι, .val (.builtin "list.append"), [.obj k], σ, Ext.refl .., R, vr_val, VRs.cons ⟨p, hp, rfl⟩ VRs.nil, q⟩
theorem DRs.push {h : Heap} {xs : List D} {items : List Value} {d : D} {v : Value} (r : DRs h xs items) (rd : DR h d v) : DRs h (xs ++ [d]) (items ++ [v]) := by
  refine ⟨by simp [r.1], fun i e w a b => ?_⟩
  by_cases hi : i < xs.length
  · rw [List.getElem?_append_left hi] at a
    rw [List.getElem?_append_left (r.1 ▸ hi)] at b
    exact r.2 i e w a b
  · rw [List.getElem?_append_right (by omega)] at a
    rw [List.getElem?_append_right (by rw [← r.1]; omega)] at b
    have h0 : i - xs.length = 0 := by have := (List.getElem?_eq_some_iff.mp a).1; simp at this; omega
    rw [h0] at a; rw [← r.1, h0] at b
    simp at a b; subst a b; exact rd
theorem TCall_append {k : Nat} {xs : List D} {d : D} (ho : σ.objs[k]? = some (.list xs)) (hx : xs.length ≤ 1000000) (q : Q (.d .none) ⟨σ.loc, σ.objs.set k (.list (xs ++ [d]))⟩) :
    TCall c (.val (.builtin "list.append")) [.obj k, .d d] σ Q := by
  intro A env ι s fv vals ok R rf rv
  cases rf
  obtain ⟨x, r, rfl, r1, r2⟩ := rv.cons_inv
  obtain ⟨y, r, rfl, r3, r4⟩ := r2.cons_inv
  obtain rfl := r4.nil_inv
  obtain ⟨p, hp, rfl⟩ := r1
  obtain ⟨e12, items, n, hg, hd⟩ := R.objs k _ p ho hp
  refine append_at (hsz := by rw [List.size_toArray, ← hd.1, sizeLine_eq]; omega) hg fun h' hs ho' => ?_
  have hk : ∀ b o, s.heap.get? b = some o → b ≠ p.1 → b ≠ p.2 → b ≠ env.locals → h'.get? b = some o := fun b o e h1 _ _ => (hs.2 b h1).trans e
  have hL : env.locals ≠ p.1 := fun e => R.notL (e ▸ (own_get hp).1)
  refine ⟨ι, .d .none, _, Ext.change hp hk rfl rfl, Rep0.up (s := { s with heap := h' }) (R.toRep0.change ho hp hk (fun m' hn' => hn'.sameBut hs hL) (fun kS => ?_)) R.tk, vr_none, q⟩
  refine ⟨e12, items ++ [y], n + 1, by simpa using ho', (hd.mono kS).push ?_⟩
  exact DR.mono kS r3
end
set_option Elab.async false
set_option maxRecDepth 20000
set_option autoImplicit true
set_option linter.unusedVariables false
theorem args_count4 (a b x y : Value) : argsOk "str.count" ⟨[a, b, x, y], []⟩ := by unfold argsOk; kernel_rfl
theorem args_rfind4 (a b x y : Value) : argsOk "str.rfind" ⟨[a, b, x, y], []⟩ := by unfold argsOk; kernel_rfl
theorem gives_count4 (x y : Str) (j : Int) (t u v w : Tok) (h0 : 0 ≤ j) (h1 : j ≤ x.length) : Gives (Builtin.«str.count» ⟨[.str x t, .str y u, .int 0 v, .int j w], []⟩) (.int (Builtin.Str.occurrences x y 0 j.toNat (x.length + 1)).length) := by
  show Gives (retInt (Builtin.Str.occurrences x y (max 0 (if (0 : Int) < 0 then (0 : Int) + x.length else 0)).toNat (min (max 0 (if j < 0 then j + x.length else j)).toNat x.length) (x.length + 1)).length) _
  have e1 : (max 0 (if (0 : Int) < 0 then (0 : Int) + x.length else 0)).toNat = 0 := by simp
  have e2 : (min (max 0 (if j < 0 then j + x.length else j)).toNat x.length) = j.toNat := by rw [if_neg (by omega)]; omega
  rw [e1, e2]
  exact .of_eq rfl
theorem gives_rfind4 (x y : Str) (j : Int) (t u v w : Tok) (h0 : 0 ≤ j) (h1 : j ≤ x.length) : Gives (Builtin.«str.rfind» ⟨[.str x t, .str y u, .int 0 v, .int j w], []⟩) (.int (match Builtin.Str.lastOccurrence x y 0 j.toNat with | some i => (i : Int) | none => -1)) := by
  show Gives (match Builtin.Str.lastOccurrence x y (max 0 (if (0 : Int) < 0 then (0 : Int) + x.length else 0)).toNat (min (max 0 (if j < 0 then j + x.length else j)).toNat x.length) with | some i => retInt i | none => do rule "str.rfind.not-found"; retInt (-1)) _
  have e1 : (max 0 (if (0 : Int) < 0 then (0 : Int) + x.length else 0)).toNat = 0 := by simp
  have e2 : (min (max 0 (if j < 0 then j + x.length else j)).toNat x.length) = j.toNat := by rw [if_neg (by omega)]; omega
  rw [e1, e2]
  cases Builtin.Str.lastOccurrence x y 0 j.toNat with
  | some i => exact .of_eq rfl
  | none =>
    intro prog w A R s h
    exact wpAny_bind (wpAny_rule ((Gives.of_eq (m := .int (-1)) rfl) prog w A R s h))
section
variable {c : Cx} {σ : St} {Q : V → St → Prop} {QB : Bool → St → Prop}
theorem TCall_count4 {x : List Nat} {ch : Nat} {j : Int} (h0 : 0 ≤ j) (h1 : j ≤ x.length) (q : Q (.d (.int ((x.take j.toNat).count ch : Nat))) σ) :
    TCall c (.val (.builtin "str.count")) [.d (.str x), .d (.str [ch]), .d (.int 0), .d (.int j)] σ Q := by
  intro A env ι s fv vals ok R rf rv
  cases rf
  obtain ⟨a1, r, rfl, r1, rv⟩ := rv.cons_inv
  obtain ⟨a2, r, rfl, r2, rv⟩ := rv.cons_inv
  obtain ⟨a3, r, rfl, r3, rv⟩ := rv.cons_inv
  obtain ⟨a4, r, rfl, r4, rv⟩ := rv.cons_inv
  obtain rfl := rv.nil_inv
  obtain ⟨t1, rfl⟩ := vr_str_inv r1; obtain ⟨t2, rfl⟩ := vr_str_inv r2; obtain ⟨t3, rfl⟩ := vr_int_inv r3; obtain ⟨t4, rfl⟩ := vr_int_inv r4
  refine call_gives F.slot_str_count (typeIs_str _ _ _) F.entry_str_count (args_count4 _ _ _ _) (gives_count4 ⟨x.toArray⟩ ⟨[ch].toArray⟩ j t1 t2 t3 t4 h0 (by rw [len_mk]; exact h1)) ?_
  have := cnt_spec x ch j.toNat (by omega)
  rw [len_mk]
  rw [show (⟨[ch].toArray⟩ : Str) = ⟨#[ch]⟩ from rfl, this]
  exact PV.same R vr_int q
theorem TCall_rfind4 {x : List Nat} {ch : Nat} {j : Int} (h0 : 0 ≤ j) (h1 : j ≤ x.length) (q : Q (.d (.int (match lastIx ch (x.take j.toNat) with | some i => (i : Int) | none => -1))) σ) :
    TCall c (.val (.builtin "str.rfind")) [.d (.str x), .d (.str [ch]), .d (.int 0), .d (.int j)] σ Q := by
  intro A env ι s fv vals ok R rf rv
  cases rf
  obtain ⟨a1, r, rfl, r1, rv⟩ := rv.cons_inv
  obtain ⟨a2, r, rfl, r2, rv⟩ := rv.cons_inv
  obtain ⟨a3, r, rfl, r3, rv⟩ := rv.cons_inv
  obtain ⟨a4, r, rfl, r4, rv⟩ := rv.cons_inv
  obtain rfl := rv.nil_inv
  obtain ⟨t1, rfl⟩ := vr_str_inv r1; obtain ⟨t2, rfl⟩ := vr_str_inv r2; obtain ⟨t3, rfl⟩ := vr_int_inv r3; obtain ⟨t4, rfl⟩ := vr_int_inv r4
  refine call_gives F.slot_str_rfind (typeIs_str _ _ _) F.entry_str_rfind (args_rfind4 _ _ _ _) (gives_rfind4 ⟨x.toArray⟩ ⟨[ch].toArray⟩ j t1 t2 t3 t4 h0 (by rw [len_mk]; exact h1)) ?_
  have := rfind_spec x ch j.toNat (by omega)
  rw [show (⟨[ch].toArray⟩ : Str) = ⟨#[ch]⟩ from rfl, this]
  exact PV.same R vr_int q
/-- «o.replace('..', '..')» with two written texts -/
theorem TE_replace {o : Expr} {y z : Str} {k₁ k₂ : Nat} {p₁ p₂ apos pos : Pos} (hyz : (y == z) = false) (hz : z.length ≤ 1)
    (h : TE c o σ fun v σ₁ => ∃ x x', v = .d (.str x) ∧ x.length ≤ 1000000 ∧ Txt.replace ⟨x.toArray⟩ y z = ⟨List.toArray x'⟩ ∧ Q (.d (.str x')) σ₁)
    (hb : ∀ env, attributeBase o "replace" env (eval o env) = eval o env := by intro _; rfl)
    (hl : (apos.endLine == pos.line) = true := by rfl) : TE c (.Call (.Attribute o "replace" apos) [.Constant (.str y) k₁ p₁, .Constant (.str z) k₂ p₂] [] pos) σ Q := by
  intro A env ι s ok R
  show wpAny _ _ (do let ov ← attributeBase o "replace" env (eval o env); standAt apos.atName; methodCall o "replace" apos pos env ov (2 + 0) [(false, eval (.Constant (.str y) k₁ p₁) env), (false, eval (.Constant (.str z) k₂ p₂) env)] []) _ _ _
  rw [hb]
  refine wpAny_bind (wpAny_mono (h A env ι s ok R) (fun ov s1 p1 => ?_) fun _ _ x => x)
  obtain ⟨ι1, a, σ1, x1, R1, r1, x, x', rfl, hx, hr, q1⟩ := p1
  obtain ⟨t, rfl⟩ := vr_str_inv r1
  refine wpAny_bind (wpAny_standAt ?_)
  unfold methodCall
  refine wpAny_bind (wpAny_holding ?_)
  show wpAny _ _ (getMethod (.str ⟨x.toArray⟩ t) "replace" _) _ _ _
  have step : wpAny c.M A (callWith pos (.builtin "str.replace") [.str ⟨x.toArray⟩ t] [(false, eval (.Constant (.str y) k₁ p₁) env), (false, eval (.Constant (.str z) k₂ p₂) env)] []) (PV c env ι s Q) NoE s1 := by
    refine Calls.callWith_builtin rfl (Calls.evalArgs_plain (Calls.spliced_cons (Calls.Constant_str (Calls.spliced_cons (Calls.Constant_str (Calls.spliced_nil ?_))))))
    have htk := R1.tk
    have R2 : Rep c ι1 σ1 env { s1 with toks := s1.toks + 1 + 1 } := Rep0.up (s := { s1 with toks := s1.toks + 1 + 1 }) (R1.grow fun _ _ e => e) (Nat.succ_pos _)
    have x2 : Ext env.locals ι1.length ι1 s1 ι1 { s1 with toks := s1.toks + 1 + 1 } := Ext.grow (fun _ _ e => e) rfl rfl
    refine wpAny_mono (liftV R2 (Q := Q) (SC.replace (s := { s1 with toks := s1.toks + 1 + 1 }) (Nat.ne_of_gt htk) (Nat.succ_ne_zero _) (Nat.ne_of_lt (Nat.lt_succ_self _)) hyz ?_ (fun t' k => ?_))) (fun _ _ p => PV.trans x1 (PV.trans x2 p)) fun _ _ x => x
    · rw [len_mk]
      have : (x.length + 1) * z.length ≤ (x.length + 1) * 1 := Nat.mul_le_mul_left _ hz
      omega
    · rw [hr]; exact PV0.same R2 vr_str q1
  have hm : wpAny c.M A (methodCallPos (methodCallForm (2 + 0) [(false, eval (.Constant (.str y) k₁ p₁) env), (false, eval (.Constant (.str z) k₂ p₂) env)] []) o env apos pos)
      (fun cp s' => wpAny c.M A (callWith cp (.builtin "str.replace") [.str ⟨x.toArray⟩ t] [(false, eval (.Constant (.str y) k₁ p₁) env), (false, eval (.Constant (.str z) k₂ p₂) env)] []) (PV c env ι s Q) NoE s') NoE s1 := by
    unfold methodCallPos
    rw [hl]
    exact wpAny_pure step
  have hq : (fun (a : Value × List Value) (s' : Shared) => wpAny c.M A (do
      let callPos ← methodCallPos (methodCallForm (2 + 0) [(false, eval (.Constant (.str y) k₁ p₁) env), (false, eval (.Constant (.str z) k₂ p₂) env)] []) o env apos pos
      callWith callPos a.1 a.2 [(false, eval (.Constant (.str y) k₁ p₁) env), (false, eval (.Constant (.str z) k₂ p₂) env)] []) (PV c env ι s Q) NoE s') (.builtin "str.replace", [.str ⟨x.toArray⟩ t]) s1 := wpAny_bind hm
  with_reducible exact getMethod_builtin (typeIs_str _ _ _) F.plainAttrs_str F.slot_str_replace F.type_str_replace (fun a e => nomatch e) hq
/-! one sign in a text -/
theorem TC_in_str {ch : Nat} {x : List Nat} (q : QB (decide (ch ∈ x)) σ) : TC c .In (.d (.str [ch])) (.d (.str x)) σ QB := by
  intro A env ι s va vb ok R r1 r2
  obtain ⟨t, rfl⟩ := vr_str_inv r1; obtain ⟨u, rfl⟩ := vr_str_inv r2
  refine PyProof.Rows.in_str ?_
  rw [show (⟨[ch].toArray⟩ : Str) = ⟨#[ch]⟩ from rfl, StrLaws.found_one]
  simpa using PC.here R q
/-! pairs of ints, lists of texts -/
theorem two_of {α} {l : List α} (h : l.length = 2) : ∃ a b, l = [a, b] := by
  rcases l with _ | ⟨a, _ | ⟨b, _ | ⟨d, l⟩⟩⟩ <;> first | exact ⟨_, _, rfl⟩ | cases h
theorem TC_ne_pair {a b a' b' : Int} (q : QB (!(decide (a = a') && decide (b = b'))) σ) : TC c .NotEq (.d (.tup [.int a, .int b])) (.d (.tup [.int a', .int b'])) σ QB := by
  intro A env ι s va vb ok R r1 r2
  have rd : ∀ (a b : Int) va, DR s.heap (.tup [.int a, .int b]) va → Reads s.heap va (.tuple [.int a, .int b]) [] := by
    intro a b va r
    cases r with
    | @tup ad ob n vs items hg hoc hod hl hr =>
      obtain ⟨v1, v2, rfl⟩ := two_of hl.symm
      have h1 := hr 0 (.int a) v1 rfl rfl
      have h2 := hr 1 (.int b) v2 rfl rfl
      cases h1; cases h2
      exact .tuple (as := []) hg hoc hod (.cons (.int _ _) (.cons (.int _ _) .nil))
  refine ne_dataH (rd _ _ _ r1) (rd _ _ _ r2) rfl rfl (by have := ok.2.2; show A.units + 64 < 9900; omega) ?_
  have : (!PyData.eqv (.tuple [.int a, .int b]) (.tuple [.int a', .int b'])) = !(decide (a = a') && decide (b = b')) := by
    show (!((a == a') && ((b == b') && true))) = _
    rw [Bool.and_true]
    have e1 : (a == a') = decide (a = a') := by by_cases h : a = a' <;> simp [h]
    have e2 : (b == b') = decide (b = b') := by by_cases h : b = b' <;> simp [h]
    rw [e1, e2]
  rw [this]; exact PC.here R q
theorem reads_strs {h : Heap} : ∀ {xs : List (List Nat)} {vs : List Value}, DRs h (xs.map .str) vs → ReadsAll h vs (xs.map fun x => .str ⟨x.toArray⟩) []
  | [], vs, r => by
    have := r.1
    cases vs with
    | nil => exact .nil
    | cons _ _ => simp at this
  | x :: xs, vs, r => by
    obtain ⟨hl, hr⟩ := r
    cases vs with
    | nil => simp at hl
    | cons v vs =>
      have h1 := hr 0 (.str x) v (by simp) rfl
      cases h1
      exact .cons (as := []) (bs := []) (.str _ _) (reads_strs ⟨by simpa using hl, fun i d v a b => hr (i + 1) d v (by simpa using a) (by simpa using b)⟩)
theorem eqv_strs : ∀ (xs ys : List (List Nat)), PyData.eqvAll (xs.map fun x => PyData.str ⟨x.toArray⟩) (ys.map fun x => PyData.str ⟨x.toArray⟩) = decide (xs = ys)
  | [], [] => by simp [PyData.eqvAll]
  | [], _ :: _ => by simp [PyData.eqvAll]
  | _ :: _, [] => by simp [PyData.eqvAll]
  | x :: xs, y :: ys => by
    simp only [List.map_cons, PyData.eqvAll, PyData.eqv, str_beq, eqv_strs xs ys, List.cons.injEq]
    by_cases h1 : x = y <;> by_cases h2 : xs = ys <;> simp [h1, h2]
theorem lay_strs : ∀ (xs : List (List Nat)), (∀ x ∈ xs, ∀ a ∈ x, a < 0x110000) → PyData.canLayAll0 (xs.map fun x => PyData.str ⟨x.toArray⟩) = true
  | [], _ => rfl
  | x :: xs, h => by
    simp only [List.map_cons, PyData.canLayAll0, PyData.canLay0, Bool.and_eq_true]
    refine ⟨?_, lay_strs xs fun y hy => h y (.tail _ hy)⟩
    simp only [PyData.strOk, List.all_toArray, List.all_eq_true, decide_eq_true_eq]
    exact h x (.head _)
theorem depth_strs : ∀ (xs : List (List Nat)), PyData.depthAll (xs.map fun x => PyData.str ⟨x.toArray⟩) ≤ 1
  | [] => by simp [PyData.depthAll]
  | x :: xs => by
    have := depth_strs xs
    simp only [List.map_cons, PyData.depthAll, PyData.depth]
    omega
theorem read_list {env ι s k va} {xs : List (List Nat)} (R : Rep c ι σ env s) (ho : σ.objs[k]? = some (.list (xs.map .str))) (r : VR ι s.heap (.obj k) va) : ∃ as, Reads s.heap va (.list (xs.map fun x => .str ⟨x.toArray⟩)) as := by
  obtain ⟨p, hp, rfl⟩ := r
  obtain ⟨_, items, n, hg, hd⟩ := R.objs k _ p ho hp
  exact ⟨_, .list hg rfl rfl (by simpa using reads_strs hd)⟩
theorem shaped_strs {xs : List (List Nat)} (h : ∀ x ∈ xs, ∀ a ∈ x, a < 0x110000) : SeqAt.shaped (.list (xs.map fun x => PyData.str ⟨x.toArray⟩)) = true := by
  unfold SeqAt.shaped
  rw [Bool.and_eq_true]
  refine ⟨lay_strs xs h, decide_eq_true ?_⟩
  have := depth_strs xs
  simp only [PyData.depth]; omega
theorem TC_eq_strs {j k : Nat} {xs ys : List (List Nat)} (hj : σ.objs[j]? = some (.list (xs.map .str))) (hk : σ.objs[k]? = some (.list (ys.map .str))) (hx : ∀ x ∈ xs, ∀ a ∈ x, a < 0x110000) (hy : ∀ x ∈ ys, ∀ a ∈ x, a < 0x110000)
    (q : QB (decide (xs = ys)) σ) : TC c .Eq (.obj j) (.obj k) σ QB := by
  intro A env ι s va vb ok R r1 r2
  obtain ⟨as, ra⟩ := read_list R hj r1
  obtain ⟨bs, rb⟩ := read_list R hk r2
  refine eq_dataH ra rb (shaped_strs hx) (shaped_strs hy) (by have := ok.2.2; show A.units + 64 < 9900; omega) ?_
  have : PyData.eqv (.list (xs.map fun x => PyData.str ⟨x.toArray⟩)) (.list (ys.map fun x => PyData.str ⟨x.toArray⟩)) = decide (xs = ys) := eqv_strs xs ys
  rw [this]; exact PC.here R q
theorem TC_ne_strs {j k : Nat} {xs ys : List (List Nat)} (hj : σ.objs[j]? = some (.list (xs.map .str))) (hk : σ.objs[k]? = some (.list (ys.map .str))) (hx : ∀ x ∈ xs, ∀ a ∈ x, a < 0x110000) (hy : ∀ x ∈ ys, ∀ a ∈ x, a < 0x110000)
    (q : QB (!decide (xs = ys)) σ) : TC c .NotEq (.obj j) (.obj k) σ QB := by
  intro A env ι s va vb ok R r1 r2
  obtain ⟨as, ra⟩ := read_list R hj r1
  obtain ⟨bs, rb⟩ := read_list R hk r2
  refine ne_dataH ra rb (shaped_strs hx) (shaped_strs hy) (by have := ok.2.2; show A.units + 64 < 9900; omega) ?_
  have : PyData.eqv (.list (xs.map fun x => PyData.str ⟨x.toArray⟩)) (.list (ys.map fun x => PyData.str ⟨x.toArray⟩)) = decide (xs = ys) := eqv_strs xs ys
  rw [this]; exact PC.here R q
end
set_option Elab.async false
set_option autoImplicit true
set_option linter.unusedVariables false
set_option maxRecDepth 20000
def Stp (ws : List Addr) (s s' : Shared) : Prop := (∀ b o, b ∉ ws → s.heap.get? b = some o → s'.heap.get? b = some o) ∧ s'.os = s.os ∧ s'.gens = s.gens
/-- an iterator that stands before one of xs; its own objects are ws -/
structure Itr (c : Cx) (A : Around) (target : Expr) (it : Value) (env : Env) (ι₁ : Io) (s₁ : Shared) (ws : List Addr) (xs : List D) (Pd : St → Prop) (It : Nat → Heap → Prop) : Prop where
  frame : ∀ i h h', It i h → (∀ b ∈ ws, ∀ o, h.get? b = some o → h'.get? b = some o) → It i h'
  live : ∀ i h, It i h → ∀ b ∈ ws, ∃ o, h.get? b = some o
  item : ∀ ι σ s i d, Rep0 c ι σ env s → ι.take ι₁.length = ι₁ → Pd σ → (∀ b o, s₁.heap.get? b = some o → StillAt o → b ∉ ws → s.heap.get? b = some o) → It i s.heap → xs[i]? = some d →
    wpAny c.M A (pyNext it) (fun r s1 => ∃ v, r = some v ∧ wpAny c.M A (letOwnedTupleGo target it v) (fun _ s2 => Stp ws s s2 ∧ It (i + 1) s2.heap ∧ DR s2.heap d v) NoE s1) NoE s
  done : ∀ ι σ s, Rep0 c ι σ env s → ι.take ι₁.length = ι₁ → Pd σ → (∀ b o, s₁.heap.get? b = some o → StillAt o → b ∉ ws → s.heap.get? b = some o) → It xs.length s.heap → wpAny c.M A (pyNext it) (fun r s1 => r = none ∧ Stp ws s s1) NoE s
  rep : ∀ ι σ s s' i, Rep0 c ι σ env s → Pd σ → It i s.heap → Stp ws s s' → (∀ b ∈ ws, ¬ own ι b ∧ b ≠ env.locals ∧ c.G.H.get? b = none) → Rep0 c ι σ env s'
def Cx.floor (c : Cx) (n : Nat) : Cx := { c with n₀ := n }
theorem Rep0.floor {c : Cx} {ι σ env s} (n : Nat) (R : Rep0 c ι σ env s) (h : n ≤ ι.length) : Rep0 (c.floor n) ι σ env s :=
  { scope := R.scope, good := { kind := R.good.kind, nd := R.good.nd, loc := R.good.loc, glob := R.good.glob, dbg := R.good.dbg }, globals := R.globals, builtins := R.builtins, keep := R.keep, above := R.above, aboveL := R.aboveL, notL := R.notL, apart := R.apart, len := R.len, base := h, objs := R.objs, cel := R.cel, ns := R.ns }
theorem Rep0.unfloor {c : Cx} {ι σ env s n} (R : Rep0 (c.floor n) ι σ env s) (h : c.n₀ ≤ n) : Rep0 c ι σ env s :=
  { scope := R.scope, good := { kind := R.good.kind, nd := R.good.nd, loc := R.good.loc, glob := R.good.glob, dbg := R.good.dbg }, globals := R.globals, builtins := R.builtins, keep := R.keep, above := R.above, aboveL := R.aboveL, notL := R.notL, apart := R.apart, len := R.len, base := Nat.le_trans h R.base, objs := R.objs, cel := R.cel, ns := R.ns }
/-- an iterator is made of what the expression gives -/
def TI (c : Cx) (target iter : Expr) (σ : St) (Q : List D → (St → Prop) → St → Prop) : Prop :=
  ∀ A env ι s, Ok A c.n → Rep c ι σ env s → wpAny c.M A (eval iter env) (fun x s₀ => wpAny c.M A (pyIter x) (fun it s1 => ∃ ι1 σ1 xs Pd ws It, Ext env.locals ι.length ι s ι1 s1 ∧ Rep c ι1 σ1 env s1 ∧
    Itr c A target it env ι1 s1 ws xs Pd It ∧ It 0 s1.heap ∧ (∀ b ∈ ws, s.heap.get? b = none ∧ ¬ own ι1 b) ∧ Q xs Pd σ1) NoE s₀) NoE s
/-- such a one as a comprehension takes -/
structure ItrC (c : Cx) (A : Around) (target : Expr) (it : Value) (env : Env) (ι₁ : Io) (s₁ : Shared) (ws : List Addr) (xs : List D) (Pd : St → Prop) (It : Nat → Heap → Prop) : Prop extends Itr c A target it env ι₁ s₁ ws xs Pd It where
  nst : ∀ i h, It i h → ∀ b ∈ ws, ∀ o, h.get? b = some o → ¬ StillAt o
  self : ∀ i s, It i s.heap → wpAny c.M A (pyIter it) (fun r s' => r = it ∧ s' = s) NoE s
def TIC (c : Cx) (target iter : Expr) (σ : St) (Q : List D → (St → Prop) → St → Prop) : Prop :=
  ∀ A env ι s, Ok A c.n → Rep c ι σ env s → wpAny c.M A (eval iter env) (fun x s₀ => wpAny c.M A (pyIter x) (fun it s1 => ∃ ι1 σ1 xs Pd ws It, Ext env.locals ι.length ι s ι1 s1 ∧ Rep c ι1 σ1 env s1 ∧
    ItrC c A target it env ι1 s1 ws xs Pd It ∧ It 0 s1.heap ∧ (∀ b ∈ ws, s.heap.get? b = none ∧ ¬ own ι1 b) ∧ Q xs Pd σ1) NoE s₀) NoE s
theorem TI_of {c : Cx} {target iter : Expr} {σ : St} {Q : List D → (St → Prop) → St → Prop} (h : TIC c target iter σ Q) : TI c target iter σ Q := by
  intro A env ι s ok R
  refine wpAny_mono (h A env ι s ok R) (fun _ _ p => wpAny_mono p ?_ fun _ _ x => x) fun _ _ x => x
  rintro _ _ ⟨ι1, σ1, xs, Pd, ws, It, x1, R1, W, r⟩
  exact ⟨ι1, σ1, xs, Pd, ws, It, x1, R1, W.toItr, r⟩
theorem TS_for {c : Cx} {σ : St} {Q : Fl → St → Prop} {target iter : Expr} {body : List Stmt} {pos : Pos}
    (h : TI c target iter σ fun xs Pd σ1 => ∃ Inv : Nat → St → Prop, Inv 0 σ1 ∧ (∀ i σ2, Inv i σ2 → σ2.objs.length = σ1.objs.length ∧ Pd σ2) ∧
      (∀ i d σ2, xs[i]? = some d → Inv i σ2 → TA (c.floor σ1.objs.length) target (.d d) σ2 fun σ3 => TB (c.floor σ1.objs.length) body σ3 (Lp σ1.objs.length (Inv (i + 1)) Q)) ∧
      (∀ σ2, Inv xs.length σ2 → Q .next σ2))
    (hs : ∀ env x, foldedSetIterable iter env x = pure x := by intro _ _; rfl) : TS c (.For target iter body [] pos) σ Q := by
  intro A env ι s ok R
  refine wpAny_For (wpAny_mono (h A env ι s ok R) (fun x s0 h0 => wpAny_mono h0 (fun it s1 p1 => ?_) fun _ _ x => x) fun _ _ x => x) (hs env)
  obtain ⟨ι1, σ1, xs, Pd, ws, It, x1, R1, W, hI0, hws, Inv, i0, iP, iS, iE⟩ := p1
  have hn1 : σ1.objs.length = ι1.length := R1.len.symm
  have hbase : c.n₀ ≤ ι1.length := R1.base
  refine codeAny_forLoop_any (fun k s' => ∃ ι' σ' i, Ext env.locals c.n₀ ι s ι' s' ∧ Rep (c.floor σ1.objs.length) ι' σ' env s' ∧ Inv i σ' ∧ It i s'.heap ∧ (∀ b ∈ ws, ¬ own ι' b) ∧ ι'.take ι1.length = ι1 ∧
      (∀ b o, s1.heap.get? b = some o → StillAt o → b ∉ ws → s'.heap.get? b = some o) ∧ i ≤ xs.length ∧ k = xs.length + 1 - i) ?_ (xs.length + 1)
    ⟨ι1, σ1, 0, x1.less R.base, (R1.toRep0.floor _ (Nat.le_of_eq hn1)).up R1.tk, i0, hI0, fun b hb => (hws b hb).2, List.take_length .., fun b o e _ _ => e, Nat.zero_le _, rfl⟩
  rintro k s' ⟨ι', σ', i, x', R', hi, hIt, hown, hpre, hst, hle, rfl⟩
  obtain ⟨hlen, hPd⟩ := iP i σ' hi
  have hwsL : ∀ b ∈ ws, ¬ own ι' b ∧ b ≠ env.locals ∧ c.G.H.get? b = none := fun b hb => ⟨hown b hb, R.freshL (hws b hb).1, R.toRep0.freshH (hws b hb).1⟩
  have R0 : Rep0 c ι' σ' env s' := R'.toRep0.unfloor (by rw [hn1]; exact hbase)
  cases hd : xs[i]? with
  | none =>
    have hin : i = xs.length := Nat.le_antisymm hle (by simpa using hd)
    subst hin
    have htk := R'.tk
    refine wpAny_mono (wpAny_toks_of (n := 1) htk (W.done ι' σ' s' R0 hpre hPd hst hIt)) (fun r s2 p2 => ?_) fun _ _ x => x.2.elim
    obtain ⟨ht2, rfl, st2⟩ := p2
    refine wpAny_execs_nil ?_
    have R2 := W.rep ι' σ' s' s2 _ R0 hPd hIt st2 hwsL
    have x2 : Ext env.locals c.n₀ ι s ι' s2 := ⟨x'.pre, x'.owns, fun b o e h1 h2 => st2.1 b o (fun hb => by rw [(hws b hb).1] at e; cases e) (x'.keep b o e h1 h2), st2.2.1.trans x'.os, st2.2.2.trans x'.gens⟩
    exact ⟨ι', .next, σ', x2, R2.up ht2, trivial, iE σ' hi⟩
  | some d =>
    have hlt : i < xs.length := (List.getElem?_eq_some_iff.mp hd).1
    refine wpAny_mono (wpAny_toks_of (n := 1) R'.tk (W.item ι' σ' s' i d R0 hpre hPd hst hIt hd)) (fun r s2 p2 => ?_) fun _ _ x => x.2.elim
    obtain ⟨ht2, v, rfl, hgo⟩ := p2
    refine wpAny_mono (wpAny_toks_of (n := 1) ht2 hgo) (fun _ s3 p3 => ?_) fun _ _ x => x.2.elim
    obtain ⟨ht3, st3, hIt3, hdr⟩ := p3
    have R3 : Rep0 c ι' σ' env s3 := W.rep ι' σ' s' s3 _ R0 hPd hIt st3 hwsL
    have x3 : Ext env.locals c.n₀ ι s ι' s3 := ⟨x'.pre, x'.owns, fun b o e h1 h2 => st3.1 b o (fun hb => by rw [(hws b hb).1] at e; cases e) (x'.keep b o e h1 h2), st3.2.1.trans x'.os, st3.2.2.trans x'.gens⟩
    have R3' : Rep (c.floor σ1.objs.length) ι' σ' env s3 := (R3.floor _ R'.base).up ht3
    have hst3 : ∀ b o, s1.heap.get? b = some o → StillAt o → b ∉ ws → s3.heap.get? b = some o := fun b o e h1 h2 => st3.1 b o h2 (hst b o e h1 h2)
    refine wpAny_mono (iS i d σ' hd hi A env ι' s3 v ok R3' hdr) (fun _ s4 p4 => ?_) fun _ _ x => x.elim
    obtain ⟨ι4, σ4, x4, R4, q4⟩ := p4
    refine wpAny_mono (q4 A env ι4 s4 ok R4) (fun f s5 p5 => ?_) fun _ _ x => x.elim
    obtain ⟨ι5, fl, σ5, x5, R5, r5, q5⟩ := p5
    have x4' : Ext env.locals σ1.objs.length ι' s3 ι4 s4 := x4.less R'.base
    have x35 : Ext env.locals σ1.objs.length ι' s3 ι5 s5 := x4'.trans x5
    have xall : Ext env.locals c.n₀ ι s ι5 s5 := x3.trans (x35.less (by rw [hn1]; exact hbase))
    have hlive := W.live _ _ hIt3
    have hown5 : ∀ b ∈ ws, ¬ own ι5 b := fun b hb ho => by
      rcases x35.owns b ho with z | ⟨z, _⟩
      · exact hown b hb z
      · obtain ⟨o, e⟩ := hlive b hb; rw [e] at z; cases z
    have hIt5 : It (i + 1) s5.heap := W.frame _ _ _ hIt3 fun b hb o e => x35.keep b o e (hown b hb) (hwsL b hb).2.1
    have hst5 : ∀ b o, s1.heap.get? b = some o → StillAt o → b ∉ ws → s5.heap.get? b = some o := fun b o e h1 h2 => R3'.toRep0.stillKept rfl x35 (hst3 b o e h1 h2) h1
    have hpre5 : ι5.take ι1.length = ι1 := by
      have := x35.pre
      rw [hn1] at this; rw [this, hpre]
    have fin : ∀ σ6, Wk σ1.objs.length σ5 σ6 → Inv (i + 1) σ6 → ∃ m, m < xs.length + 1 - i ∧ ∃ ι' σ' j, Ext env.locals c.n₀ ι s ι' s5 ∧ Rep (c.floor σ1.objs.length) ι' σ' env s5 ∧ Inv j σ' ∧ It j s5.heap ∧ (∀ b ∈ ws, ¬ own ι' b) ∧ ι'.take ι1.length = ι1 ∧
        (∀ b o, s1.heap.get? b = some o → StillAt o → b ∉ ws → s5.heap.get? b = some o) ∧ j ≤ xs.length ∧ m = xs.length + 1 - j := by
      intro σ6 w hi6
      refine ⟨xs.length + 1 - (i + 1), by omega, ι5.take σ6.objs.length, σ6, i + 1, xall.trans (Ext.cut (Nat.le_trans (by rw [hn1]; exact hbase) w.base)), R5.weak (c := c.floor σ1.objs.length) w, hi6, hIt5, fun b hb ho => hown5 b hb (own_take ho), ?_, hst5, hlt, rfl⟩
      rw [List.take_take, Nat.min_eq_left (by rw [← hn1]; exact w.base)]; exact hpre5
    cases fl <;> cases f <;> first | exact r5.elim | skip
    · obtain ⟨σ6, w, hi6⟩ := q5
      exact fin σ6 w hi6
    · exact ⟨ι5, .next, σ5, xall, (R5.toRep0.unfloor (by rw [hn1]; exact hbase)).up R5.tk, trivial, q5⟩
    · obtain ⟨σ6, w, hi6⟩ := q5
      exact fin σ6 w hi6
    · exact ⟨ι5, .ret _, σ5, xall, (R5.toRep0.unfloor (by rw [hn1]; exact hbase)).up R5.tk, r5, q5⟩
set_option Elab.async false
set_option autoImplicit true
set_option linter.unusedVariables false
set_option maxRecDepth 20000
theorem rep_still {c : Cx} {env : Env} {ws : List Addr} {Pd : St → Prop} {It : Nat → Heap → Prop} (hn : ∀ i h, It i h → ∀ b ∈ ws, ∀ o, h.get? b = some o → ¬ StillAt o) :
    ∀ ι σ s s' i, Rep0 c ι σ env s → Pd σ → It i s.heap → Stp ws s s' → (∀ b ∈ ws, ¬ own ι b ∧ b ≠ env.locals ∧ c.G.H.get? b = none) → Rep0 c ι σ env s' := by
  intro ι σ s s' i R _ hI st hw
  refine R.keepBut (fun b => b ∈ ws) (fun b o e hb => st.1 b o hb e) (fun b hb => (hw b hb).1) (fun m hn' => ?_) (fun b hb => (hw b hb).2.2) (fun b o hb e => hn i _ hI b hb o e)
  obtain ⟨o, es, ep, ho, r⟩ := hn'
  exact ⟨o, es, ep, st.1 _ _ (fun hb => (hw _ hb).2.1 rfl) ho, r⟩
theorem notStill_fields {o : Obj} {T : String} {vs : Array Value} (hc : o.cls = .type T) (hd : o.data = .fields vs) (h1 : T ≠ "tuple") (h2 : T ≠ "method") : ¬ StillAt o := by
  rintro (⟨q, _⟩ | ⟨f, x, rfl⟩)
  · rw [hc] at q; injection q with q; exact h1 q
  · injection hc with hc; exact h2 hc.symm
theorem listIter_notStill {h : Heap} {I l : Addr} {i : Nat} (x : h.IsListIter I l i) {o : Obj} (e : h.get? I = some o) : ¬ StillAt o := by
  obtain ⟨o', e', hc, hd⟩ := x
  rw [e] at e'; cases e'
  exact notStill_fields hc hd (by decide) (by decide)
section
variable {c : Cx} {σ : St}
theorem pre_at {ι ι₁ : Io} (h : ι.take ι₁.length = ι₁) {k : Nat} {p : Addr × Addr} (e : ι₁[k]? = some p) : ι[k]? = some p := by
  have hk := (List.getElem?_eq_some_iff.mp e).1
  rw [← h, List.getElem?_take, if_pos hk] at e; exact e
theorem list_now {ι ι₁ : Io} {env s l} {k : Nat} {xs : List D} (R : Rep0 c ι σ env s) (hpre : ι.take ι₁.length = ι₁) (hp : ι₁[k]? = some (l, l)) (ho : σ.objs[k]? = some (.list xs)) : ∃ items : List Value, s.heap.IsList l items.toArray ∧ DRs s.heap xs items := by
  obtain ⟨_, items, n, hg, hd⟩ := R.objs k _ _ ho (pre_at hpre hp)
  exact ⟨items, ⟨_, hg, rfl, _, rfl⟩, hd⟩
theorem list_pair {ι : Io} {env s p} {k : Nat} {xs : List D} (R : Rep0 c ι σ env s) (hp : ι[k]? = some p) (ho : σ.objs[k]? = some (.list xs)) : p = (p.1, p.1) := by
  obtain ⟨e, _⟩ := R.objs k _ _ ho hp
  obtain ⟨a, b⟩ := p
  simp only at e; rw [e]
/-- what is not there now was not there before -/
theorem fresh_back {env : Env} {ι ι1 : Io} {s s0 : Shared} {σ1 : St} (R1 : Rep0 c ι1 σ1 env s0) (x1 : Ext env.locals ι.length ι s ι1 s0) {a : Addr} (h : s0.heap.get? a = none) : s.heap.get? a = none := by
  cases e : s.heap.get? a with
  | none => rfl
  | some o =>
    by_cases hO : own ι a
    · exfalso
      refine R1.freshO h ?_
      obtain ⟨q, hq, hqe⟩ := hO
      obtain ⟨j, hj, rfl⟩ := List.getElem_of_mem hq
      exact ⟨_, List.mem_of_getElem? (getElem?_of_pre x1.pre hj (List.getElem?_eq_getElem hj)), hqe⟩
    · have := x1.keep a o e hO (R1.freshL h)
      rw [h] at this; cases this
theorem TIC_list {target iter : Expr} {Q : List D → (St → Prop) → St → Prop} (h : TE c iter σ fun v σ1 => ∃ k xs, v = .obj k ∧ σ1.objs[k]? = some (.list xs) ∧ Q xs (fun σ => σ.objs[k]? = some (.list xs)) σ1)
    (ht : ∀ it v, letOwnedTupleGo target it v = pure () := by intro _ _; rfl) : TIC c target iter σ Q := by
  intro A env ι s ok R
  refine wpAny_mono (h A env ι s ok R) (fun x s0 p0 => ?_) fun _ _ x => x
  obtain ⟨ι1, v, σ1, x1, R1, r1, k, xs, rfl, ho, q⟩ := p0
  obtain ⟨p, hp, rfl⟩ := r1
  have hpp := list_pair R1.toRep0 hp ho
  obtain ⟨l, l'⟩ := p
  obtain rfl : l = l' := by injection hpp with _ e; exact e.symm
  obtain ⟨items, hL, hd⟩ := list_now R1.toRep0 (List.take_length ..) hp ho
  have hown : own ι1 l := (own_get hp).1
  have hlt : l < s0.heap.objs.size := R1.toRep0.ltSize hown
  have hne : l ≠ s0.heap.objs.size := Nat.ne_of_lt hlt
  refine wpAny_pyIter_list hL ?_
  have xp : Ext env.locals ι1.length ι1 s0 ι1 { s0 with heap := s0.heap.push { cls := .type "list_iterator", data := .fields #[.ref l, .int 0 0] } } := Ext.push _
  have hfr := fresh_back R1.toRep0 x1 (fresh_size s0.heap)
  refine ⟨ι1, σ1, xs, _, [s0.heap.objs.size], fun i h => h.IsListIter s0.heap.objs.size l i, x1.trans (xp.less (take_pre x1.pre (Nat.le_refl _))), Rep0.up (R1.push _) R1.tk, ?_, ⟨_, Heap.get?_push_size _ rfl, rfl, rfl⟩, ?_, q⟩
  · have nst : ∀ i (h : Heap), h.IsListIter s0.heap.objs.size l i → ∀ b ∈ [s0.heap.objs.size], ∀ o, h.get? b = some o → ¬ StillAt o := fun i h x b hb o e => by
      obtain rfl := List.mem_singleton.mp hb
      exact listIter_notStill x e
    refine ⟨⟨fun i h h' x hk => x.at fun o e => hk _ (by simp) o e, fun i h x b hb => ?_, fun ι' σ' s' i d R' hpre hPd hst hI hxd => ?_, fun ι' σ' s' R' hpre hPd hst hI => ?_, rep_still (Pd := fun σ => σ.objs[k]? = some (.list xs)) (It := fun i h => h.IsListIter s0.heap.objs.size l i) nst⟩, nst, fun i s x => wpAny_pyIter_listiter x ⟨rfl, rfl⟩⟩
    · obtain rfl := List.mem_singleton.mp hb
      obtain ⟨o, e, _⟩ := x; exact ⟨o, e⟩
    · obtain ⟨items', hL', hd'⟩ := list_now R' hpre hp hPd
      have hlt : i < items'.length := by rw [← hd'.1]; exact (List.getElem?_eq_some_iff.mp hxd).1
      refine wpAny_pyNext_list_item hI hL' (x := items'[i]) (by simp [hlt]) fun h' hit' hs' => ⟨_, rfl, wpAny_of_eq (ht _ _) ⟨⟨fun b o hb e => hs'.extBut b o (fun q => hb (by simp [q])) e, rfl, rfl⟩, hit', ?_⟩⟩
      refine DR.mono (fun b o e hb => hs'.extBut b o ?_ e) (hd'.2 i d _ hxd (List.getElem?_eq_getElem hlt))
      rintro rfl; exact listIter_notStill hI e hb
    · obtain ⟨items', hL', hd'⟩ := list_now R' hpre hp hPd
      exact wpAny_pyNext_list_end ok.1 hI hL' (by simp [hd'.1]) fun h' he' => ⟨rfl, fun b o hb e => he' b o (fun q => hb (by simp [q])) e, rfl, rfl⟩
  · intro b hb
    obtain rfl := List.mem_singleton.mp hb
    exact ⟨hfr, R1.toRep0.freshO (fresh_size _)⟩
theorem strItr {A : Around} {target : Expr} {env : Env} {ι1 : Io} {s1 : Shared} {I : Addr} {T : String} {x : List Nat} {t : Tok} (hT1 : T ≠ "tuple") (hT2 : T ≠ "method")
    (W : Walks c.G.prog c.G.w A I [I] [I] (⟨x.toArray⟩ : Str).cps.size (SignAt ⟨x.toArray⟩) (fun i h => h.IsStrIter I T ⟨x.toArray⟩ t i)) (ht : ∀ it v, letOwnedTupleGo target it v = pure ()) :
    ItrC c A target (.ref I) env ι1 s1 [I] (x.map fun ch => .str [ch]) (fun _ => True) (fun i h => h.IsStrIter I T ⟨x.toArray⟩ t i) := by
  have nst : ∀ i (h : Heap), h.IsStrIter I T ⟨x.toArray⟩ t i → ∀ b ∈ [I], ∀ o, h.get? b = some o → ¬ StillAt o := fun i h y b hb o e => by
    obtain rfl := List.mem_singleton.mp hb
    obtain ⟨o', e', hc, hd⟩ := y
    rw [e] at e'; cases e'
    exact notStill_fields hc hd hT1 hT2
  refine ⟨⟨fun i h h' y hk => W.frame i h h' y fun b hb o e => hk b hb o e, fun i h y b hb => ?_, fun ι' σ' s' i d R' hpre hPd hst hI hxd => ?_, fun ι' σ' s' R' hpre hPd hst hI => ?_, rep_still (Pd := fun _ => True) (It := fun i h => h.IsStrIter I T ⟨x.toArray⟩ t i) nst⟩, nst, fun i s y => W.self i s _ _ y ⟨rfl, rfl⟩⟩
  · obtain rfl := List.mem_singleton.mp hb
    obtain ⟨o, e, _⟩ := y; exact ⟨o, e⟩
  · have hlt : i < x.length := by have := (List.getElem?_eq_some_iff.mp hxd).1; simpa using this
    refine W.item i s' _ _ (by simpa using hlt) hI fun v h' tk hP st' hk => ⟨v, rfl, wpAny_of_eq (ht _ _) ⟨⟨fun b o hb e => hk b o hb e, rfl, rfl⟩, st', ?_⟩⟩
    obtain ⟨ch, u, e1, rfl⟩ := hP
    have e1 : x[i]? = some ch := by simpa using e1
    rw [List.getElem?_map, e1] at hxd
    simp at hxd; subst hxd
    exact DR.str [ch] u
  · refine W.done s' _ _ (by simpa using hI) fun h' tk hk => ⟨rfl, fun b o hb e => hk b o hb e, rfl, rfl⟩
theorem TIC_str {target iter : Expr} {Q : List D → (St → Prop) → St → Prop} (h : TE c iter σ fun v σ1 => ∃ x, v = .d (.str x) ∧ Q (x.map fun ch => .str [ch]) (fun _ => True) σ1)
    (ht : ∀ it v, letOwnedTupleGo target it v = pure () := by intro _ _; rfl) : TIC c target iter σ Q := by
  intro A env ι s ok R
  refine wpAny_mono (h A env ι s ok R) (fun x s0 p0 => ?_) fun _ _ x => x
  obtain ⟨ι1, v, σ1, x1, R1, r1, x, rfl, q⟩ := p0
  obtain ⟨t, rfl⟩ := vr_str_inv r1
  have hfr := fresh_back R1.toRep0 x1 (fresh_size s0.heap)
  have xp : ∀ o, Ext env.locals ι1.length ι1 s0 ι1 { s0 with heap := s0.heap.push o } := fun o => Ext.push _
  have hws : ∀ b ∈ [s0.heap.objs.size], s.heap.get? b = none ∧ ¬ own ι1 b := fun b hb => by
    obtain rfl := List.mem_singleton.mp hb
    exact ⟨hfr, R1.toRep0.freshO (fresh_size _)⟩
  cases ha : (⟨x.toArray⟩ : Str).cps.all (· < 128)
  · exact wpAny_pyIter_wide ha ⟨ι1, σ1, _, _, [s0.heap.objs.size], _, x1.trans ((xp _).less (take_pre x1.pre (Nat.le_refl _))), Rep0.up (R1.push _) R1.tk, strItr (by decide) (by decide) (Walks.strWide ok.1 _ ⟨x.toArray⟩ t) ht, ⟨_, Heap.get?_push_size _ rfl, rfl, rfl⟩, hws, q⟩
  · exact wpAny_pyIter_ascii ha ⟨ι1, σ1, _, _, [s0.heap.objs.size], _, x1.trans ((xp _).less (take_pre x1.pre (Nat.le_refl _))), Rep0.up (R1.push _) R1.tk, strItr (by decide) (by decide) (Walks.strAscii ok.1 _ ⟨x.toArray⟩ t) ht, ⟨_, Heap.get?_push_size _ rfl, rfl, rfl⟩, hws, q⟩
theorem TI_list {target iter : Expr} {Q : List D → (St → Prop) → St → Prop} (h : TE c iter σ fun v σ1 => ∃ k xs, v = .obj k ∧ σ1.objs[k]? = some (.list xs) ∧ Q xs (fun σ => σ.objs[k]? = some (.list xs)) σ1)
    (ht : ∀ it v, letOwnedTupleGo target it v = pure () := by intro _ _; rfl) : TI c target iter σ Q := TI_of (TIC_list h ht)
end
set_option Elab.async false
set_option autoImplicit true
set_option linter.unusedVariables false
set_option maxRecDepth 20000
def enumD (xs : List D) : List D := xs.zipIdx.map fun p => .tup [.int (p.2 : Int), p.1]
theorem enumD_len (xs : List D) : (enumD xs).length = xs.length := by simp [enumD]
theorem enumD_get (xs : List D) (i : Nat) : (enumD xs)[i]? = xs[i]?.map fun d => .tup [.int (i : Int), d] := by
  unfold enumD
  rw [List.getElem?_map, List.getElem?_zipIdx]
  cases xs[i]? <;> simp
theorem enum_notStill {h : Heap} {e it : Addr} {i : Int} {old : Value} (x : IsEnum h e it i old) {o : Obj} (q : h.get? e = some o) : ¬ StillAt o := by
  rw [x] at q; cases q
  exact notStill_fields rfl rfl (by decide) (by decide)
section
variable {c : Cx} {σ : St}
/-- the head of a call of a built-in class with one argument -/
theorem callType1 {x : Str} {np pos : Pos} {e : Expr} {T : String} {A env ι s} {Q : V → St → Prop} {P : Value → Shared → Prop} (hx : x ∈ c.globs) (hg : GlobIs c.G x (.type T)) (ok : Ok A c.n) (R : Rep c ι σ env s) (h : TE c e σ Q)
    (hP : ∀ val s1, PV c env ι s Q val s1 → wpAny c.M A (call (.type T) [val]) P NoE s1) (hs : starEach [e] env = [(false, eval e env)]) : wpAny c.M A (eval (.Call (.Name x np) [e] [] pos) env) P NoE s := by
  refine Call_Name1 ?_ hs
  refine wpAny_mono (TE_glob (v := .val (.type T)) (Q := fun v σ' => v = .val (.type T) ∧ σ' = σ) hx hg (fun _ _ => rfl) ⟨rfl, rfl⟩ A env ι s ok R) (fun f s0 p0 => ?_) fun _ _ x => x
  obtain ⟨ι0, v, σ0, x0, R0, r0, rfl, rfl⟩ := p0
  cases r0
  refine PySem.callWith_type rfl (Calls.evalArgs_plain (Calls.spliced_cons (wpAny_mono (h A env ι0 s0 ok R0) (fun val s1 p1 => Calls.spliced_nil ?_) fun _ _ x => x)))
  exact hP val s1 (PV.trans x0 p1)
end
set_option Elab.async false
set_option autoImplicit true
set_option linter.unusedVariables false
set_option maxRecDepth 20000
section
variable {c : Cx} {σ : St}
theorem callType2 {x : Str} {np pos : Pos} {e₁ e₂ : Expr} {T : String} {A env ι s} {Q : List V → St → Prop} {P : Value → Shared → Prop} (hx : x ∈ c.globs) (hg : GlobIs c.G x (.type T)) (ok : Ok A c.n) (R : Rep c ι σ env s) (h : TArgs c [e₁, e₂] σ Q)
    (hP : ∀ vals s1, PVs c env ι s Q vals s1 → wpAny c.M A (call (.type T) vals) P NoE s1) (hs : starEach [e₁, e₂] env = [(false, eval e₁ env), (false, eval e₂ env)]) : wpAny c.M A (eval (.Call (.Name x np) [e₁, e₂] [] pos) env) P NoE s := by
  refine Call_Name2 ?_ hs
  refine wpAny_mono (TE_glob (v := .val (.type T)) (Q := fun v σ' => v = .val (.type T) ∧ σ' = σ) hx hg (fun _ _ => rfl) ⟨rfl, rfl⟩ A env ι s ok R) (fun f s0 p0 => ?_) fun _ _ x => x
  obtain ⟨ι0, v, σ0, x0, R0, r0, rfl, rfl⟩ := p0
  cases r0
  refine PySem.callWith_type rfl (Calls.evalArgs_plain (wpAny_mono (spliced_T [e₁, e₂] pos ok R0 h) (fun vals s1 p1 => ?_) fun _ _ x => x))
  obtain ⟨ι1, vs, σ1, x1, R1, r1, q⟩ := p1
  exact hP vals s1 ⟨ι1, vs, σ1, x0.trans (x1.less (take_pre x0.pre (Nat.le_refl _))), R1, r1, q⟩
end
set_option Elab.async false
set_option autoImplicit true
set_option linter.unusedVariables false
set_option maxRecDepth 20000
def TIfs (c : Cx) : List Expr → St → (Bool → St → Prop) → Prop
  | [], σ, Q => Q true σ
  | [t], σ, Q => TT c t σ Q
  | _, _, _ => False
theorem ifs_T {c : Cx} {ifs : List Expr} {σ : St} {Q : Bool → St → Prop} {A env ι s} (ok : Ok A c.n) (R : Rep c ι σ env s) (h : TIfs c ifs σ Q) :
    wpAny c.M A (forIn ifs true fun t r => if r = true then do let ok ← isTrue t env (eval t env); pure (ForInStep.yield ok) else pure (ForInStep.yield r)) (PB c env ι s Q) NoE s := by
  match ifs, h with
  | [], h => exact wpAny_pure (PB.here R h)
  | [t], h =>
    rw [List.forIn_cons]
    refine wpAny_bind ?_
    rw [if_pos rfl]
    refine wpAny_bind (wpAny_mono (h A env ι s ok R) (fun b s1 p1 => wpAny_pure ?_) fun _ _ x => x)
    exact wpAny_pure p1
/-- the outer frame's view of a state that an inner one has -/
theorem outerRep {c ci : Cx} {ι1 ι' : Io} {σ1 σ' : St} {env cenv : Env} {s1 s' : Shared} {ws : List Addr} (R1 : Rep0 c ι1 σ1 env s1) (R' : Rep0 ci ι' σ' cenv s') (hG : ci.G = c.G) (hpre : ι'.take ι1.length = ι1)
    (hL : ∀ o, s1.heap.get? env.locals = some o → s'.heap.get? env.locals = some o) (hnL : ¬ own ι' env.locals) (hst : ∀ b o, s1.heap.get? b = some o → StillAt o → s'.heap.get? b = some o) :
    Rep0 c ι' ⟨σ1.loc, σ'.objs⟩ env s' :=
  { scope := R1.scope, good := R1.good, globals := R1.globals, builtins := R1.builtins, keep := hG ▸ R'.keep, above := hG ▸ R'.above, aboveL := R1.aboveL, notL := hnL, apart := R'.apart, len := R'.len
    base := Nat.le_trans R1.base (by have := congrArg List.length hpre; simp at this; omega)
    objs := R'.objs
    cel := R1.cel
    ns := by
      obtain ⟨m, ⟨o, es, ep, ho, r⟩, hm⟩ := R1.ns
      exact ⟨m, ⟨o, es, ep, hL o ho, r⟩, fun i x v e1 e2 => let ⟨val, e, r⟩ := hm i x v e1 e2; ⟨val, e, r.mono hst hpre⟩⟩ }
/-- a stretch of an inner frame, told of the outer one -/
theorem Ext.inner {L L' n n' ι s ι' s' ι'' s''} (x : Ext L n ι s ι' s') (y : Ext L' n' ι' s' ι'' s'') (hn : n ≤ n') (hL' : s.heap.get? L' = none) (hL : ∃ o, s'.heap.get? L = some o) : Ext L n ι s ι'' s'' := by
  refine ⟨(take_le y.pre hn).trans x.pre, fun a h => ?_, fun b o e h1 h2 => ?_, y.os.trans x.os, y.gens.trans x.gens⟩
  · rcases y.owns a h with q | ⟨q, _⟩
    · exact x.owns a q
    · by_cases ho : own ι a
      · exact .inl ho
      · have hne : a ≠ L := by
          rintro rfl; obtain ⟨o, e⟩ := hL; rw [e] at q; cases q
        refine .inr ⟨?_, hne⟩
        cases e : s.heap.get? a with
        | none => rfl
        | some o => rw [x.keep a o e ho hne] at q; cases q
  · refine y.keep b o (x.keep b o e h1 h2) (fun q => ?_) (fun q => ?_)
    · rcases x.owns b q with z | ⟨z, _⟩
      · exact h1 z
      · rw [e] at z; cases z
    · subst q; rw [hL'] at e; cases e
/-- a comprehension's own block -/
structure CompOk (scope : Scope) (x : Str) : Prop where
  free : ∀ z ∈ scope.names, z.2 ≠ .free
  cell : ∀ z ∈ scope.names, z.2 ≠ .cell
  kind : scope.kind = .function
  names : ∀ z ∈ scope.names, z.2 = .local → scope.names.lookup z.1 = some .local
/-- the names that a comprehension takes from its frame's cells -/
def capN (cs : List (Str × Nat)) : List Str := cs.map (·.1)
def capL (cs : List (Str × Nat)) : List (Option V) := cs.map fun p => some (.cel p.2)
theorem okL_cap {n : Nat} {cs : List (Str × Nat)} (h : ∀ p ∈ cs, p.2 < n) : okL n (capL cs) = true := by
  induction cs with
  | nil => rfl
  | cons p cs ih =>
    show okL n (some (.cel p.2) :: capL cs) = true
    simp only [okL, okV, Bool.and_eq_true, decide_eq_true_eq]
    exact ⟨h p (List.mem_cons_self ..), ih fun q hq => h q (List.mem_cons_of_mem _ hq)⟩
theorem comp_core {c : Cx} {A : Around} {env : Env} {ι ι1 : Io} {s s1 : Shared} {σ1 : St} {it : Value} {ws : List Addr} {xs : List D} {Pd : St → Prop} {It : Nat → Heap → Prop} {elt iter : Expr} {x : Str} {px pos : Pos} {ifs : List Expr} {scope scope' : Scope} {globs : List Str} {cs : List (Str × Nat)}
    {p : D → Bool} {f : D → D} {R : Result → Shared → Prop} {σ : St} (ok : Ok A c.n) (RS : Rep c ι σ env s) (R1 : Rep c ι1 σ1 env s1) (x1 : Ext env.locals ι.length ι s ι1 s1) (hfr : ∀ a, s1.heap.get? a = none → s.heap.get? a = none)
    (W : ItrC c A (.Name x px) it env ι1 s1 ws xs Pd It) (hI0 : It 0 s1.heap) (hws : ∀ b ∈ ws, s.heap.get? b = none ∧ ¬ own ι1 b)
    (hPd : ∀ acc, Pd ⟨σ1.loc, σ1.objs ++ [.list acc]⟩) (good : (⟨c.G, c.n, σ1.objs.length + 1, scope', x :: capN cs, globs⟩ : Cx).Good) (hok : σ1.objs.all (okO (σ1.objs.length + 1)) = true) (hxs : xs.length ≤ 100000)
    (turn : ∀ acc d, d ∈ xs → TIfs ⟨c.G, c.n, σ1.objs.length + 1, scope', x :: capN cs, globs⟩ ifs ⟨some (.d d) :: capL cs, σ1.objs ++ [.list acc]⟩ fun b σ2 => b = p d ∧ (∃ t, σ2.objs = σ1.objs ++ [.list acc] ++ t) ∧ σ2.loc = some (.d d) :: capL cs ∧
      (b = true → TE ⟨c.G, c.n, σ1.objs.length + 1, scope', x :: capN cs, globs⟩ elt σ2 fun v σ3 => v = .d (f d) ∧ σ3.loc = some (.d d) :: capL cs ∧ ∃ t, σ3.objs = σ1.objs ++ [.list acc] ++ t))
    {s3 : Shared} {cenv : Env} {L' a : Addr} (ha : s1.heap.get? a = none) (hs3k : ∀ b o, s1.heap.get? b = some o → s3.heap.get? b = some o) (ha3 : s3.heap.get? a = some { cls := .type "list", data := .seq #[] }) (hL' : s1.heap.get? L' = none) (haL : a ≠ L')
    (hns3 : s3.heap.Ns L' fun _ => none) (hos : s3.os = s1.os) (hgs : s3.gens = s1.gens) (htk : 0 < s3.toks)
    (hxl : scope'.names.lookup x = some .local) (hcs : ∀ q ∈ cs, scope'.names.lookup q.1 = some .cell ∧ ∃ r, ι1[q.2]? = some r ∧ cenv.cells.lookup q.1 = some r.1)
    (hce : cenv.scope = scope' ∧ cenv.locals = L' ∧ cenv.globals = mainGlobals ∧ cenv.builtins = builtinsNs)
    (fin : ∀ ι' s', Ext env.locals ι.length ι s ι' s' → Rep c ι' ⟨σ1.loc, σ1.objs ++ [.list ((xs.filter p).map f)]⟩ env s' → ι'[σ1.objs.length]? = some (a, a) → (∃ m, s'.heap.Ns L' m) → ¬ own ι' L' → R (.ok .next) s') :
    codeAny c.M A (.compStart (.ListComp elt [⟨.Name x px, iter, ifs, 0⟩] scope pos) 0 it (.ref a) cenv) R s3 := by
  obtain ⟨hc1, hc2, hc3, hc4⟩ := hce
  have hnL'e : env.locals ≠ L' := fun e => R1.toRep0.freshL hL' e.symm
  have hι2 : ∀ acc : List D, True := fun _ => trivial
  let ci : Cx := ⟨c.G, c.n, σ1.objs.length + 1, scope', x :: capN cs, globs⟩
  have hlen1 : ι1.length = σ1.objs.length := R1.len
  -- the state at the loop's head
  let J : Nat → Shared → Prop := fun i s' => ∃ ι', Ext env.locals ι.length ι s ι' s' ∧ Rep ci ι' ⟨none :: capL cs, σ1.objs ++ [.list (((xs.take i).filter p).map f)]⟩ cenv s' ∧ ι'.take ι1.length = ι1 ∧ ι'[σ1.objs.length]? = some (a, a) ∧
    (∀ o, s1.heap.get? env.locals = some o → s'.heap.get? env.locals = some o) ∧ ¬ own ι' env.locals ∧ (∀ b o, s1.heap.get? b = some o → StillAt o → s'.heap.get? b = some o) ∧ It i s'.heap ∧ (∀ b ∈ ws, ¬ own ι' b) ∧ i ≤ xs.length
  have RA : Rep0 c (ι1 ++ [(a, a)]) ⟨σ1.loc, σ1.objs ++ [.list []]⟩ env s3 := R1.toRep0.alloc hs3k ha ha ⟨rfl, [], 0, ha3, rfl, fun i d v e => by simp at e⟩
  have hown' : ∀ b, own (ι1 ++ [(a, a)]) b → own ι1 b ∨ b = a := fun b h => (own_append.mp h).elim .inl fun h => .inr (h.elim id id)
  have J0 : J 0 s3 := by
    refine ⟨ι1 ++ [(a, a)], ?_, ?_, by simp, by rw [← hlen1]; simp, fun o e => hs3k _ _ e, RA.notL, fun b o e _ => hs3k _ _ e, W.frame 0 _ _ hI0 fun b _ o e => hs3k b o e, fun b hb h => ?_, Nat.zero_le _⟩
    · refine ⟨?_, fun b h => ?_, fun b o e h1 h2 => hs3k _ _ (x1.keep b o e h1 h2), hos.trans x1.os, hgs.trans x1.gens⟩
      · rw [List.take_append_of_le_length (take_pre x1.pre (Nat.le_refl _))]; exact x1.pre
      · rcases hown' b h with h | rfl
        · exact x1.owns b h
        · exact .inr ⟨hfr _ ha, R1.toRep0.freshL ha⟩
    · exact { tk := htk, scope := hc1, good := good, globals := hc3, builtins := hc4, keep := RA.keep, above := RA.above, aboveL := by rw [hc2]; exact R1.toRep0.freshH hL'
              notL := by
                rw [hc2]; intro h
                rcases hown' _ h with h | h
                · exact R1.toRep0.freshO hL' h
                · exact haL h.symm
              apart := RA.apart, len := RA.len, base := by show σ1.objs.length + 1 ≤ _; simp [hlen1], objs := RA.objs
              cel := fun i y e1 e2 => by
                cases i with
                | zero => cases e1; exact absurd (hxl.symm.trans e2) (by simp)
                | succ i =>
                  have e1' : (cs.map (·.1))[i]? = some y := by simpa [ci, capN] using e1
                  rw [List.getElem?_map] at e1'
                  obtain ⟨q, hq, rfl⟩ := Option.map_eq_some_iff.mp e1'
                  exact ⟨q.2, by simp [capL, hq]⟩
              ns := ⟨_, by rw [hc2]; exact hns3, fun i y v e1 e2 => by
                cases i with
                | zero => simp at e2
                | succ i =>
                  have e1' : (cs.map (·.1))[i]? = some y := by simpa [ci, capN] using e1
                  rw [List.getElem?_map] at e1'
                  obtain ⟨q, hq, rfl⟩ := Option.map_eq_some_iff.mp e1'
                  have e2' : v = .cel q.2 := by simp [capL, hq] at e2; exact e2.symm
                  subst e2'
                  obtain ⟨h1, r, h2, h3⟩ := hcs q (List.mem_of_getElem? hq)
                  exact ⟨_, .inr ⟨rfl, h1, r.1, h3, rfl⟩, r, by rw [List.getElem?_append_left (List.getElem?_eq_some_iff.mp h2).1]; exact h2, rfl⟩⟩ }
    · rcases hown' b h with h | rfl
      · exact (hws b hb).2 h
      · obtain ⟨o, e⟩ := W.live 0 _ hI0 _ hb; rw [ha] at e; cases e
  have main : ∀ s', J 0 s' → codeAny c.M A (.compLoop (.ListComp elt [⟨.Name x px, iter, ifs, 0⟩] scope pos) 0 it (.ref a) cenv) R s' := by
    intro s' hJ
    refine codeAny_compLoop_tests (fun k s' => ∃ i, J i s' ∧ k = xs.length + 1 - i) ?_ (xs.length + 1) ⟨0, hJ, rfl⟩ (by intro v; rfl)
    rintro k s' ⟨i, ⟨ι', x', R', hpre, hacc, hL, hnL, hst, hIt, hown, hle⟩, rfl⟩
    have RO' : Rep0 c ι' ⟨σ1.loc, σ1.objs ++ [.list (((xs.take i).filter p).map f)]⟩ env s' := outerRep (ws := ws) R1.toRep0 R'.toRep0 rfl hpre hL hnL hst
    have hwsL : ∀ b ∈ ws, ¬ own ι' b ∧ b ≠ env.locals ∧ c.G.H.get? b = none := fun b hb => ⟨hown b hb, RS.freshL (hws b hb).1, RS.toRep0.freshH (hws b hb).1⟩
    have hwsL' : ∀ b ∈ ws, b ≠ L' := fun b hb => by
      rintro rfl
      obtain ⟨o, e⟩ := W.live 0 _ hI0 _ hb; rw [hL'] at e; cases e
    have hst' : ∀ b o, s1.heap.get? b = some o → StillAt o → b ∉ ws → s'.heap.get? b = some o := fun b o e h _ => hst b o e h
    have hLn : s.heap.get? L' = none := hfr _ hL'
    obtain ⟨oL, hoL⟩ : ∃ o, s1.heap.get? env.locals = some o := let ⟨m, ⟨o, _, _, e, _⟩, _⟩ := R1.ns; ⟨o, e⟩
    -- a step of the iterator, told of the inner frame
    have stepR : ∀ s2, Stp ws s' s2 → Rep0 ci ι' ⟨none :: capL cs, σ1.objs ++ [.list (((xs.take i).filter p).map f)]⟩ cenv s2 := fun s2 st =>
      R'.toRep0.keepBut (fun b => b ∈ ws) (fun b o e h => st.1 b o h e) (fun b hb => hown b hb) (fun m hn => by
        obtain ⟨o, es, ep, ho, r⟩ := hn
        exact ⟨o, es, ep, st.1 _ _ (fun hb => hwsL' _ hb hc2) ho, r⟩) (fun b hb => (hwsL b hb).2.2) (fun b o hb e => W.nst i _ hIt b hb o e)
    have stepX : ∀ s2, Stp ws s' s2 → Ext env.locals ι.length ι s ι' s2 := fun s2 st2 =>
      ⟨x'.pre, x'.owns, fun b o e h1 h2 => st2.1 b o (fun hb => by rw [(hws b hb).1] at e; cases e) (x'.keep b o e h1 h2), st2.2.1.trans x'.os, st2.2.2.trans x'.gens⟩
    cases hd : xs[i]? with
    | none =>
      have hin : i = xs.length := Nat.le_antisymm hle (by simpa using hd)
      subst hin
      refine wpAny_mono (wpAny_toks_of (n := 1) R'.tk (W.done ι' _ s' RO' hpre (hPd _) hst' hIt)) (fun r s2 p2 => ?_) fun _ _ x => x.2.elim
      obtain ⟨ht2, rfl, st2⟩ := p2
      have R2 := W.rep ι' _ s' s2 _ RO' (hPd _) hIt st2 hwsL
      have R2i := stepR s2 st2
      rw [List.take_length] at R2
      exact fin ι' s2 (stepX s2 st2) (R2.up ht2) hacc (by obtain ⟨m, hn, _⟩ := R2i.ns; rw [hc2] at hn; exact ⟨m, hn⟩) (by have := R2i.notL; rw [hc2] at this; exact this)
    | some d =>
      have hlt : i < xs.length := (List.getElem?_eq_some_iff.mp hd).1
      have hmem : d ∈ xs := List.mem_of_getElem? hd
      refine wpAny_mono (wpAny_toks_of (n := 1) R'.tk (W.item ι' _ s' i d RO' hpre (hPd _) hst' hIt hd)) (fun r s2 p2 => ?_) fun _ _ x => x.2.elim
      obtain ⟨ht2, v, rfl, hgo⟩ := p2
      show wpAny _ A (assign _ _ v) _ _ s2
      rw [show assign (.Name x px) cenv v = ((pure () : Sem Unit) >>= fun _ => assign (.Name x px) cenv v) from rfl]
      refine wpAny_bind (wpAny_mono (wpAny_toks_of (n := 1) ht2 hgo) (fun _ s3 p3 => ?_) fun _ _ x => x.2.elim)
      obtain ⟨ht3, st3, hIt3, hdr⟩ := p3
      have R3 := (stepR s3 st3).up ht3
      have X3 := stepX s3 st3
      have hL3 : s3.heap.get? env.locals = some oL := st3.1 _ _ (fun hb => (hwsL _ hb).2.1 rfl) (hL _ hoL)
      -- from here on the inner frame alone writes
      have back : ∀ ι5 s5 acc' t, Ext cenv.locals ι'.length ι' s3 ι5 s5 → Rep ci ι5 ⟨some (.d d) :: capL cs, σ1.objs ++ [.list acc'] ++ t⟩ cenv s5 → acc' = ((xs.take (i + 1)).filter p).map f → ∃ m, m < xs.length + 1 - i ∧ ∃ i, J i s5 ∧ m = xs.length + 1 - i := by
        intro ι5 s5 acc' t x5 R5 e
        subst e
        have w : Wk ci.n₀ ⟨some (.d d) :: capL cs, σ1.objs ++ [.list (((xs.take (i + 1)).filter p).map f)] ++ t⟩ ⟨none :: capL cs, σ1.objs ++ [.list (((xs.take (i + 1)).filter p).map f)]⟩ :=
          { objs := ⟨t, rfl⟩, base := by show σ1.objs.length + 1 ≤ _; simp, okO := by simp only [List.length_append, List.length_singleton, List.all_append, List.all_cons, List.all_nil, hok, okO]; rfl, loc := .drop (LocLe.refl _), okL := okL_cap fun q hq => by
              obtain ⟨_, r, h2, _⟩ := hcs q hq
              have := (List.getElem?_eq_some_iff.mp h2).1
              rw [hlen1] at this; simp; omega }
        have hlen' : ι'.length = σ1.objs.length + 1 := by have := R'.len; simpa using this
        have pre5 : ι5.take ι'.length = ι' := by have := x5.pre; rwa [List.take_length] at this
        have cut5 : ι5.take (σ1.objs ++ [O.list (((xs.take (i + 1)).filter p).map f)]).length = ι' := by
          rw [List.length_append, List.length_singleton, ← hlen']; exact pre5
        have R6 := R5.weak (c := ci) w
        rw [cut5] at R6
        refine ⟨xs.length + 1 - (i + 1), by omega, i + 1, ⟨ι', ?_, R6, hpre, hacc, ?_, hnL, ?_, ?_, hown, hlt⟩, rfl⟩
        · have x5' : Ext cenv.locals ι'.length ι' s3 ι' s5 := ⟨rfl, fun a h => .inl h, x5.keep, x5.os, x5.gens⟩
          refine X3.inner x5' ?_ (by rw [hc2]; exact hLn) ⟨_, hL3⟩
          have := take_pre x1.pre (Nat.le_refl _); omega
        · intro o e
          rw [hoL] at e; cases e
          exact x5.keep _ _ hL3 hnL (by rw [hc2]; exact hnL'e)
        · intro b o e h
          have : s3.heap.get? b = some o := st3.1 b o (fun hb => W.nst 0 _ hI0 _ hb o e h) (hst b o e h)
          exact R3.toRep0.stillKept rfl x5 this h
        · exact W.frame _ _ _ hIt3 fun b hb o e => x5.keep b o e (hown b hb) (by rw [hc2]; exact hwsL' b hb)
      have hta : xs.take (i + 1) = xs.take i ++ [d] := by rw [List.take_add_one, hd]; rfl
      refine wpAny_mono (TA_name (c := ci) (Q := fun σ => σ = ⟨some (.d d) :: capL cs, σ1.objs ++ [.list (((xs.take i).filter p).map f)]⟩) (v := .d d) (σ := ⟨none :: capL cs, σ1.objs ++ [.list (((xs.take i).filter p).map f)]⟩) LocSet.head rfl A cenv ι' s3 v ok R3 hdr) (fun _ s4 p4 => ?_) fun _ _ x => x.elim
      obtain ⟨ι4, σ4, x4, R4, rfl⟩ := p4
      refine wpAny_mono (ifs_T (c := ci) ok R4 (turn _ d hmem)) (fun b s5 p5 => ?_) fun _ _ x => x.elim
      obtain ⟨ι5, σ5, x5, R5, hb, ⟨t5, ht5⟩, hl5, helt⟩ := p5
      obtain ⟨loc5, objs5⟩ := σ5
      dsimp only at hl5 ht5
      subst hl5 ht5
      have x35 := x4.trans (x5.less (take_pre x4.pre (Nat.le_refl _)))
      cases b with
      | false =>
        rw [if_neg Bool.false_ne_true]
        exact back ι5 s5 _ t5 x35 R5 (by rw [hta, List.filter_append, List.filter_cons_of_neg (by rw [← hb]; exact Bool.false_ne_true)]; simp)
      | true =>
        rw [if_pos rfl]
        refine wpAny_mono (helt rfl A cenv ι5 s5 ok R5) (fun y s6 p6 => ?_) fun _ _ x => x.elim
        obtain ⟨ι6, v6, σ6, x6, R6, r6, rfl, hl6, t6, ht6⟩ := p6
        obtain ⟨loc6, objs6⟩ := σ6
        dsimp only at hl6 ht6
        subst hl6 ht6
        have x36 := x35.trans (x6.less (take_pre x35.pre (Nat.le_refl _)))
        have hk6 : ι6[σ1.objs.length]? = some (a, a) := getElem?_of_pre (n := ι'.length) x36.pre (by have := R'.len; simp at this; omega) hacc
        have hmapl : (((xs.take i).filter p).map f).length ≤ 1000000 := by
          have h1 := List.length_filter_le p (xs.take i)
          have h2 := List.length_take_le i xs
          rw [List.length_map]
          have h3 : (xs.take i).length ≤ xs.length := by simp; omega
          omega
        refine wpAny_mono (TCall_append (c := ci) (k := σ1.objs.length) (xs := ((xs.take i).filter p).map f) (d := f d) (Q := fun _ σ => σ = ⟨some (.d d) :: capL cs, σ1.objs ++ [.list (((xs.take i).filter p).map f ++ [f d])] ++ t6⟩) (σ := ⟨some (.d d) :: capL cs, σ1.objs ++ [.list (((xs.take i).filter p).map f)] ++ t6⟩) (by simp) hmapl (by simp) A cenv ι6 s6 (.builtin "list.append") [.ref a, y] ok R6 rfl (VRs.cons ⟨_, hk6, rfl⟩ (VRs.cons r6 VRs.nil))) (fun _ s7 p7 => ?_) fun _ _ x => x.elim
        obtain ⟨ι7, v7, σ7, x7, R7, r7, rfl⟩ := p7
        exact back ι7 s7 _ t6 (x36.trans (x7.less (take_pre x36.pre (Nat.le_refl _)))) R7 (by rw [hta, List.filter_append, List.filter_cons_of_pos hb.symm]; simp)
  refine codeAny_compStart_list (main s3 J0) (wpAny_mono (W.self 0 s3 (W.frame 0 _ _ hI0 fun b _ o e => hs3k b o e)) (fun r s' e => ?_) fun _ _ x => x.elim)
  obtain ⟨rfl, rfl⟩ := e
  exact main _ J0
set_option Elab.async false
set_option autoImplicit true
set_option linter.unusedVariables false
set_option maxRecDepth 20000
def PComp (c : Cx) (scope : Scope) (globs : List Str) (x : Str) (ifs : List Expr) (elt : Expr) (p : D → Bool) (f : D → D) (Q : List D → St → Prop) (xs : List D) (Pd : St → Prop) (σ1 : St) : Prop :=
  (∀ acc, Pd ⟨σ1.loc, σ1.objs ++ [.list acc]⟩) ∧ σ1.objs.all (okO (σ1.objs.length + 1)) = true ∧ xs.length ≤ 100000 ∧
  (∀ acc d, d ∈ xs → TIfs ⟨c.G, c.n, σ1.objs.length + 1, scope, [x], globs⟩ ifs ⟨[some (.d d)], σ1.objs ++ [.list acc]⟩ fun b σ2 => b = p d ∧ (∃ t, σ2.objs = σ1.objs ++ [.list acc] ++ t) ∧ σ2.loc = [some (.d d)] ∧
      (b = true → TE ⟨c.G, c.n, σ1.objs.length + 1, scope, [x], globs⟩ elt σ2 fun v σ3 => v = .d (f d) ∧ σ3.loc = [some (.d d)] ∧ ∃ t, σ3.objs = σ1.objs ++ [.list acc] ++ t)) ∧ Q xs σ1
def PCompC (c : Cx) (scope' : Scope) (cs : List (Str × Nat)) (globs : List Str) (x : Str) (ifs : List Expr) (elt : Expr) (p : D → Bool) (f : D → D) (Q : List D → St → Prop) (xs : List D) (Pd : St → Prop) (σ1 : St) : Prop :=
  (∀ acc, Pd ⟨σ1.loc, σ1.objs ++ [.list acc]⟩) ∧ σ1.objs.all (okO (σ1.objs.length + 1)) = true ∧ xs.length ≤ 100000 ∧
  (∀ acc d, d ∈ xs → TIfs ⟨c.G, c.n, σ1.objs.length + 1, scope', x :: capN cs, globs⟩ ifs ⟨some (.d d) :: capL cs, σ1.objs ++ [.list acc]⟩ fun b σ2 => b = p d ∧ (∃ t, σ2.objs = σ1.objs ++ [.list acc] ++ t) ∧ σ2.loc = some (.d d) :: capL cs ∧
      (b = true → TE ⟨c.G, c.n, σ1.objs.length + 1, scope', x :: capN cs, globs⟩ elt σ2 fun v σ3 => v = .d (f d) ∧ σ3.loc = some (.d d) :: capL cs ∧ ∃ t, σ3.objs = σ1.objs ++ [.list acc] ++ t)) ∧ Q xs σ1
theorem comp_run {c : Cx} {A : Around} {env : Env} {ι : Io} {s : Shared} {σ : St} {elt iter : Expr} {x : Str} {px pos : Pos} {ifs : List Expr} {scope scope' : Scope} {globs : List Str} {cl : List (Str × Addr)} {cs : List (Str × Nat)} {E : Value → Shared → Prop}
    {p : D → Bool} {f : D → D} {Qx : List D → St → Prop} {Rr : Value → Env → Result → Shared → Prop} (ok : Ok A c.n) (RS : Rep c ι σ env s)
    (hcell : ∀ z ∈ scope.names, z.2 ≠ .cell) (hkind : scope.kind = .function) (hxl : scope'.names.lookup x = some .local) (hcs : ∀ q ∈ cs, scope'.names.lookup q.1 = some .cell ∧ ∃ r, ι[q.2]? = some r ∧ cl.lookup q.1 = some r.1)
    (good : ∀ n₀, (⟨c.G, c.n, n₀, scope', x :: capN cs, globs⟩ : Cx).Good)
    (h : TIC c (.Name x px) iter σ (PCompC c scope' cs globs x ifs elt p f Qx))
    (fin : ∀ a (cenv : Env) ι' s' xs σ1, Qx xs σ1 → Ext env.locals ι.length ι s ι' s' → Rep c ι' ⟨σ1.loc, σ1.objs ++ [.list ((xs.filter p).map f)]⟩ env s' → ι'[σ1.objs.length]? = some (a, a) → (∃ m, s'.heap.Ns cenv.locals m) → ¬ own ι' cenv.locals → s.heap.get? cenv.locals = none → Rr (.ref a) cenv (.ok .next) s') :
    wpAny c.M A (eval iter env) (fun xv s1 => wpAny c.M A (pyIter xv) (fun it s2 => wpAny c.M A (newList []) (fun acc s3 =>
      wpAny c.M A (newFunctionEnv scope env.globals cl [] env.qual none .none (some env)) (fun cenv s4 =>
        codeAny c.M A (.compStart (.ListComp elt [⟨.Name x px, iter, ifs, 0⟩] scope pos) 0 it acc { cenv with scope := scope' }) (Rr acc cenv) s4) E s3) E s2) E s1) E s := by
  refine wpAny_mono (h A env ι s ok RS) (fun xv s0 p0 => wpAny_mono p0 (fun it s1 p1 => ?_) fun _ _ x => x.elim) fun _ _ x => x.elim
  obtain ⟨ι1, σ1, xs, Pd, ws, It, x1, R1, W, hI0, hws, hPd, hok, hxs, turn, hq⟩ := p1
  refine wpAny_newObj_type (hd := by size_fits) (wpAny_newFunctionEnv hcell (by intro y hy; simp at hy) (fun h₁ hns₁ hsb₁ => ?_) hkind)
  have hsz : (s1.heap.push { cls := .type "list", data := .seq #[] }).objs.size = s1.heap.objs.size + 1 := Heap.size_push ..
  have hk : ∀ b o, s1.heap.get? b = some o → h₁.get? b = some o := fun b o e =>
    (hsb₁.2 b (by rw [hsz]; exact Nat.ne_of_lt (Nat.lt_succ_of_lt (Heap.lt_size e)))).trans (Heap.get?_push_of_some _ (Heap.get?_push_of_some _ e))
  refine comp_core (ws := ws) (xs := xs) (Pd := Pd) (It := It) (p := p) (f := f) (globs := globs) ok RS R1 x1 (fun a => fresh_back R1.toRep0 x1) W hI0 hws hPd (good _) hok hxs turn (a := s1.heap.objs.size) (L' := s1.heap.objs.size + 1)
    (fresh_size _) hk ?_ (fresh_ge (Nat.le_succ _)) (Nat.ne_of_lt (Nat.lt_succ_self _)) ?_ rfl rfl ?_ hxl (fun q hq => ?_) ⟨rfl, ?_, RS.globals, ?_⟩ ?_
  · refine (hsb₁.2 _ (by rw [hsz]; exact Nat.ne_of_lt (Nat.lt_succ_self _))).trans (Heap.get?_push_of_some _ (Heap.get?_push_size _ rfl))
  · rw [← hsz]; exact hns₁
  · exact R1.tk
  · obtain ⟨h1, r, h2, h3⟩ := hcs q hq
    exact ⟨h1, r, getElem?_of_pre (n := ι.length) x1.pre (List.getElem?_eq_some_iff.mp h2).1 h2, by simpa [newEnv] using h3⟩
  · show (newEnv _ _ _ _ _ _ _ _ _).locals = _
    simp [newEnv, hsz]
  · show (newEnv _ _ _ _ _ _ _ _ _).builtins = _
    have := RS.builtins
    simp [newEnv, this]
  · intro ι' s' x' R' hacc hn hno
    refine fin s1.heap.objs.size _ ι' s' xs σ1 hq x' R' hacc ?_ ?_ ?_
    · show ∃ m, s'.heap.Ns (s1.heap.push { cls := .type "list", data := .seq #[] }).objs.size m
      rw [hsz]; exact hn
    · show ¬ own ι' (s1.heap.push { cls := .type "list", data := .seq #[] }).objs.size
      rw [hsz]; exact hno
    · show s.heap.get? (s1.heap.push { cls := .type "list", data := .seq #[] }).objs.size = none
      rw [hsz]; exact fresh_back R1.toRep0 x1 (fresh_ge (Nat.le_succ _))
theorem Rep.drop {c : Cx} {ι' : Io} {σ : St} {env : Env} {s' : Shared} {L' : Addr} {m} {h' : Heap} (R' : Rep c ι' σ env s') (hn : s'.heap.Ns L' m) (hs' : Heap.SameBut L' s'.heap h') (hno : ¬ own ι' L') (hne : L' ≠ env.locals) (hH : c.G.H.get? L' = none) :
    Rep c ι' σ env { s' with heap := h' } := by
  have hk : ∀ b o, s'.heap.get? b = some o → b ≠ L' → h'.get? b = some o := fun b o e h => (hs'.2 b h).trans e
  refine Rep0.up (R'.toRep0.keepBut (s' := { s' with heap := h' }) (fun b => b = L') hk (fun b e h => hno (e ▸ h)) (fun m' hn' => ?_) (fun b e => e ▸ hH) (fun b o e h1 h2 => ?_)) R'.tk
  · obtain ⟨o, es, ep, ho, r⟩ := hn'
    exact ⟨o, es, ep, hk _ _ ho (Ne.symm hne), r⟩
  · subst e
    obtain ⟨o', e', es, k, hd⟩ := Heap.Ns.notStill hn
    rw [h1] at e'; cases e'
    exact h2.noDict hd
theorem Ext.drop {L n ι s ι' s' L'} {h' : Heap} (x' : Ext L n ι s ι' s') (hs' : Heap.SameBut L' s'.heap h') (hL' : s.heap.get? L' = none) : Ext L n ι s ι' { s' with heap := h' } :=
  ⟨x'.pre, x'.owns, fun b o e h1 h2 => (hs'.2 b (by rintro rfl; rw [hL'] at e; cases e)).trans (x'.keep b o e h1 h2), x'.os, x'.gens⟩
theorem TE_comp {c : Cx} {σ : St} {Q : V → St → Prop} {elt iter : Expr} {x : Str} {px pos : Pos} {ifs : List Expr} {scope : Scope} (globs : List Str) (p : D → Bool) (f : D → D)
    (h : TIC c (.Name x px) iter σ (PComp c scope globs x ifs elt p f fun xs σ1 => Q (.obj σ1.objs.length) ⟨σ1.loc, σ1.objs ++ [.list ((xs.filter p).map f)]⟩))
    (ck : CompOk scope x) (good : ∀ n₀, (⟨c.G, c.n, n₀, scope, [x], globs⟩ : Cx).Good)
    (hs : ∀ env x, foldedSetIterable iter env x = pure x := by intro _ _; rfl) : TE c (.ListComp elt [⟨.Name x px, iter, ifs, 0⟩] scope pos) σ Q := by
  intro A env ι s ok R
  refine wpAny_ListComp ck.free ck.kind ck.names (comp_run (c := c) (Rr := fun acc cenv r s' => ∃ m, s'.heap.Ns cenv.locals m ∧ ∀ h', Heap.SameBut cenv.locals s'.heap h' →
            match r with | .ok _ => PV c env ι s Q acc { s' with heap := h' } | .error x => wpAny c.M A (passOn "comprehension.variables-let-go" x { cenv with scope := scope }) (PV c env ι s Q) NoE { s' with heap := h' }) ok R ck.cell ck.kind ((good 0).loc x (List.mem_cons_self ..) |>.resolve_right (lookup_cell ck.cell _)) (cs := []) (cl := []) (scope' := scope) (by intro q hq; cases hq) good h ?_) (hs env)
  intro a cenv ι' s' xs σ1 hq x' R' hacc hn hno hL'
  obtain ⟨m, hn⟩ := hn
  exact ⟨m, hn, fun h' hs' => ⟨ι', .obj σ1.objs.length, _, x'.drop hs' hL', R'.drop hn hs' hno (R.freshL hL') (R.toRep0.freshH hL'), ⟨_, hacc, rfl⟩, hq⟩⟩
set_option Elab.async false
set_option autoImplicit true
set_option linter.unusedVariables false
set_option maxRecDepth 20000
section
variable {c : Cx} {σ : St} {Q : V → St → Prop} {QB : Bool → St → Prop}
/-- a written minus -/
theorem TE_neg {e : Expr} {pos : Pos} (h : TE c e σ fun v σ₁ => ∃ i, v = .d (.int i) ∧ Q (.d (.int (-i))) σ₁) : TE c (.UnaryOp .USub e pos) σ Q := by
  intro A env ι s ok R
  refine wpAny_UnaryOp (wpAny_mono (h A env ι s ok R) (fun v s1 p1 => ?_) fun _ _ x => x)
  obtain ⟨ι1, v, σ1, x1, R1, r1, i, rfl, q1⟩ := p1
  obtain ⟨t, rfl⟩ := vr_int_inv r1
  exact wpAny_mono (P.neg_int (PV.same R1 vr_int q1)) (fun _ _ p => PV.trans x1 p) fun _ _ x => x
theorem TTr_meth {f : Addr} {k : Nat} (q : QB true σ) : TTr c (.meth f k) σ QB := by
  intro A env ι s va ok R r
  obtain ⟨p, b, hp, rfl, hb⟩ := r
  have hT : s.TypeIs (.ref b) "method" := ⟨_, hb, rfl⟩
  unfold truthy
  refine wpAny_bind (wpAny_callSpecial?_none (name := Str.ofString "__bool__") hT (by rfl) ?_)
  refine wpAny_bind (wpAny_specialOf (name := Str.ofString "__len__") hT (by rfl) ?_)
  exact wpAny_pure (PB.here R q)
theorem DRs.append {h : Heap} {xs ys : List D} {vs us : List Value} (a : DRs h xs vs) (b : DRs h ys us) : DRs h (xs ++ ys) (vs ++ us) := by
  refine ⟨by simp [a.1, b.1], fun i d v e1 e2 => ?_⟩
  by_cases hi : i < xs.length
  · rw [List.getElem?_append_left hi] at e1
    rw [List.getElem?_append_left (a.1 ▸ hi)] at e2
    exact a.2 i d v e1 e2
  · rw [List.getElem?_append_right (by omega)] at e1
    rw [List.getElem?_append_right (by rw [← a.1]; omega), ← a.1] at e2
    exact b.2 _ d v e1 e2
theorem TBin_addl {j k : Nat} {xs ys : List D} (h1 : σ.objs[j]? = some (.list xs)) (h2 : σ.objs[k]? = some (.list ys)) (hx : xs.length + ys.length ≤ 1000000) (q : Q (.obj σ.objs.length) ⟨σ.loc, σ.objs ++ [.list (xs ++ ys)]⟩) :
    TBin c .Add (.obj j) (.obj k) σ Q := by
  intro A env ι s va vb ok R r1 r2
  obtain ⟨p, hp, rfl⟩ := r1; obtain ⟨p', hp', rfl⟩ := r2
  obtain ⟨_, items, n, hg, hd⟩ := R.objs j _ p h1 hp
  obtain ⟨_, items', n', hg', hd'⟩ := R.objs k _ p' h2 hp'
  refine P.add_list (items := items.toArray) (items2 := items'.toArray) hg hg' ?_ (by simp [← hd.1, ← hd'.1, sizeLine_eq]; omega)
  refine PV.newList R ?_ rfl rfl R.tk (hd.append hd') q
  simp
theorem repl_toArray (items : List Value) : ∀ (k : Nat) (acc : List Value), List.foldl (fun x1 x2 => x1 ++ x2) acc.toArray (List.replicate k items.toArray) = (acc ++ (List.replicate k items).flatten).toArray
  | 0, acc => by simp
  | k + 1, acc => by
    rw [List.replicate_succ, List.foldl_cons, show acc.toArray ++ items.toArray = (acc ++ items).toArray by simp, repl_toArray items k, List.replicate_succ, List.flatten_cons, List.append_assoc]
theorem DRs.rep {h : Heap} {xs : List D} {vs : List Value} (a : DRs h xs vs) : ∀ k, DRs h (List.replicate k xs).flatten (List.replicate k vs).flatten
  | 0 => ⟨rfl, fun i d v e => by simp at e⟩
  | k + 1 => by rw [List.replicate_succ, List.flatten_cons, List.replicate_succ, List.flatten_cons]; exact a.append (a.rep k)
theorem TBin_mull {j : Nat} {xs : List D} {n : Int} (h1 : σ.objs[j]? = some (.list xs)) (h0 : 0 ≤ n) (hn : n ≤ 1000000) (hx : xs.length * n.toNat ≤ 1000000) (q : Q (.obj σ.objs.length) ⟨σ.loc, σ.objs ++ [.list (List.replicate n.toNat xs).flatten]⟩) :
    TBin c .Mult (.obj j) (.d (.int n)) σ Q := by
  intro A env ι s va vb ok R r1 r2
  obtain ⟨p, hp, rfl⟩ := r1; obtain ⟨u, rfl⟩ := vr_int_inv r2
  obtain ⟨_, items, k, hg, hd⟩ := R.objs j _ p h1 hp
  have e : (List.foldl (fun x1 x2 => x1 ++ x2) #[] (List.replicate (if items.toArray.isEmpty = true then 0 else n.toNat) items.toArray)) = (List.replicate n.toNat items).flatten.toArray := by
    rw [show (#[] : Array Value) = ([] : List Value).toArray from rfl, repl_toArray]
    cases items with
    | nil => simp
    | cons a r => simp
  have hq : PV c env ι s Q (.ref s.heap.objs.size) { s with heap := s.heap.push { cls := .type "list", data := .seq (List.foldl (fun x1 x2 => x1 ++ x2) #[] (List.replicate (if items.toArray.isEmpty = true then 0 else n.toNat) items.toArray)) } } :=
    PV.newList R (by rw [e]) rfl rfl R.tk (hd.rep n.toNat) q
  have e2 : items.toArray.size = xs.length := by simp [← hd.1]
  have e3 : items.toArray.size * n.toNat ≤ 1000000 := by rw [e2]; exact hx
  exact wpAny_binaryOp_repeat_ref (T := "list") (U := "int") (by decide) ⟨_, hg, rfl⟩ (fun s' => typeIs_int s' n u) noFill_list_mul F.fills_int_mul F.slot_int_rmul repeat_list F.slot_int_index.lookup
    (call_meets F.slot_int_rmul (typeIs_int s n u) F.entry_int_rmul (F.args_int_rmul_2 _ _) (int___rmul___int_list n u p.1 items.toArray k)
      ⟨hg, rfl, ⟨_, hg, rfl⟩, call_meets F.slot_list_mul ⟨_, hg, rfl⟩ F.entry_list_mul (F.args_list_mul_2 _ _)
        (AutoListH.list___mul___list_int_3 p.1 items.toArray k n u (by simp [Builtin.List.listFitsIndex]; omega) (by omega) (by simp [Builtin.List.listTooLong, sizeLine] at e3 ⊢; omega))
        ⟨hg, hq⟩⟩)
theorem strsAre_of {h : Heap} : ∀ {xs : List (List Nat)} {items : List Value}, DRs h (xs.map D.str) items → StrsAre items (xs.map fun x => ⟨x.toArray⟩)
  | [], [], _ => .nil
  | [], _ :: _, r => by have := r.1; simp at this
  | _ :: _, [], r => by have := r.1; simp at this
  | x :: xs, v :: vs, r => by
    have h0 := r.2 0 (.str x) v rfl rfl
    have hr : DRs h (xs.map D.str) vs := ⟨by have := r.1; simpa using this, fun i d u e1 e2 => r.2 (i + 1) d u (by simpa using e1) (by simpa using e2)⟩
    cases h0
    exact .cons _ _ (strsAre_of hr)
theorem join_nil : ∀ xs : List (List Nat), Txt.join (⟨([] : List Nat).toArray⟩ : Str) (xs.map fun x => (⟨x.toArray⟩ : Str)) = ⟨xs.flatten.toArray⟩ := by
  intro xs
  show Builtin.Str.glued _ _ = _
  rw [StrLaws.glued_eq_join]
  induction xs with
  | nil => rfl
  | cons x r ih =>
    cases r with
    | nil => simp [Str.join]
    | cons y r =>
      show (⟨x.toArray⟩ : Str) ++ (⟨([] : List Nat).toArray⟩ : Str) ++ Str.join _ _ = _
      rw [ih, str_append, str_append]
      simp
theorem TCall_join {k : Nat} {xs : List (List Nat)} (ho : σ.objs[k]? = some (.list (xs.map .str))) (hx : (xs.map List.length).sum ≤ 1000000) (q : Q (.d (.str xs.flatten)) σ) : TCall c (.val (.builtin "str.join")) [.d (.str []), .obj k] σ Q := by
  intro A env ι s fv vals ok R rf rv
  cases rf
  obtain ⟨a, r, rfl, r1, r2⟩ := rv.cons_inv
  obtain ⟨b, r, rfl, r3, r4⟩ := r2.cons_inv
  obtain rfl := r4.nil_inv
  obtain ⟨t, rfl⟩ := vr_str_inv r1
  obtain ⟨p, hp, rfl⟩ := r3
  obtain ⟨_, items, n, hg, hd⟩ := R.objs k _ p ho hp
  refine liftV R (join_list (items := items.toArray) ⟨_, hg, rfl, _, rfl⟩ (strsAre_of (by simpa using hd)) ?_ fun t' tk => ?_)
  · rw [List.map_map, show ((·.length) ∘ fun x : List Nat => (⟨x.toArray⟩ : Str)) = List.length from funext fun x => len_mk x, len_mk]; simp; omega
  · rw [join_nil]; exact PV0.same R vr_str q
/-- a remainder is one of two -/
theorem TC_in_pair {n a b : Int} (q : QB (decide (n = a) || decide (n = b)) σ) : TC c .In (.d (.int n)) (.d (.tup [.int a, .int b])) σ QB := by
  intro A env ι s va vb ok R r1 r2
  obtain ⟨t, rfl⟩ := vr_int_inv r1
  have r2 : DR s.heap (.tup [.int a, .int b]) vb := r2
  cases r2 with
  | @tup ad ob k vs items hg hoc hod hl hr =>
    obtain ⟨v1, v2, rfl⟩ := two_of hl.symm
    · have h1 := hr 0 (.int a) v1 rfl rfl
      have h2 := hr 1 (.int b) v2 rfl rfl
      obtain ⟨t1, rfl⟩ : ∃ t1, v1 = .int a t1 := by cases h1; exact ⟨_, rfl⟩
      obtain ⟨t2, rfl⟩ : ∃ t2, v2 = .int b t2 := by cases h2; exact ⟨_, rfl⟩
      refine SeqAt.in_tupleAt (items := #[.int a t1, .int b t2]) (fun y => match y with | .int i _ => i == n | _ => false) ⟨_, hg, hoc, _, hod⟩ (fun y hy => ?_) ?_
      · simp only [List.mem_toArray, List.mem_cons, List.not_mem_nil, or_false] at hy
        rcases hy with rfl | rfl
        · exact SeqAt.EqAt.int_int a t1 n t
        · exact SeqAt.EqAt.int_int b t2 n t
      · have : (#[Value.int a t1, .int b t2].any fun y => match y with | .int i _ => i == n | _ => false) = (decide (n = a) || decide (n = b)) := by
          simp [Bool.beq_eq_decide_eq, eq_comm]
        rw [this]
        exact PC.here R q
theorem TC_eqbool {a b : Bool} (q : QB (a == b) σ) : TC c .Eq (.d (.bool a)) (.d (.bool b)) σ QB := by
  intro A env ι s va vb ok R r1 r2
  cases r1; cases r2
  refine eq_dataH (.bool a) (.bool b) rfl rfl (by have := ok.2.2; show A.units + 64 < 9900; omega) ?_
  have : PyData.eqv (.bool a) (.bool b) = (a == b) := by cases a <;> cases b <;> rfl
  rw [this]
  exact PC.here R q
end
set_option Elab.async false
set_option autoImplicit true
set_option linter.unusedVariables false
set_option maxRecDepth 20000
section
variable {c : Cx} {σ : St}
end
set_option Elab.async false
set_option autoImplicit true
set_option linter.unusedVariables false
set_option maxRecDepth 20000
theorem closure_of {env : Env} {scope : Scope} (h : ∀ z ∈ scope.names, z.2 = .free → ∃ a, env.cells.lookup z.1 = some a) :
    ∃ cl, closureFor scope env = pure cl ∧ ∀ y a, (y, NameKind.free) ∈ scope.names → env.cells.lookup y = some a → cl.lookup y = some a := by
  have go : ∀ (l : List (Str × NameKind)) (cs : List (Str × Addr)), (∀ z ∈ l, z.2 = .free → ∃ a, env.cells.lookup z.1 = some a) → (∀ y a, cs.lookup y = some a → env.cells.lookup y = some a) →
      ∃ cl, (forIn l cs fun (x : Str × NameKind) (r : List (Str × Addr)) => (if (x.2 == NameKind.free) = true then do let a ← cellOf env x.1; pure (ForInStep.yield ((x.1, a) :: r)) else pure (ForInStep.yield r) : Sem (ForInStep (List (Str × Addr))))) = pure cl ∧
        (∀ y a, cl.lookup y = some a → env.cells.lookup y = some a) ∧ ∀ y, (y, NameKind.free) ∈ l ∨ (cs.lookup y).isSome = true → (cl.lookup y).isSome = true := by
    intro l
    induction l with
    | nil => exact fun cs _ hc => ⟨cs, rfl, hc, fun y hy => hy.resolve_left (by simp)⟩
    | cons z l ih =>
      intro cs hl hc
      obtain ⟨n, k⟩ := z
      rw [List.forIn_cons]
      by_cases hk : k = .free
      · subst hk
        obtain ⟨a, ha⟩ := hl _ (List.mem_cons_self ..) rfl
        have hce : cellOf env n = pure a := by unfold cellOf; dsimp only at ha; rw [ha]
        obtain ⟨cl, e, h1, h2⟩ := ih ((n, a) :: cs) (fun z hz => hl z (List.mem_cons_of_mem _ hz)) (fun y b hy => by
          rw [List.lookup_cons] at hy
          cases e : y == n with
          | true => rw [e] at hy; cases hy; rw [beq_iff_eq.mp e]; exact ha
          | false => rw [e] at hy; exact hc y b hy)
        refine ⟨cl, ?_, h1, fun y hy => h2 y ?_⟩
        · simp only [beq_self_eq_true, if_true, hce, pure_bind]
          exact e
        · rcases hy with hy | hy
          · rcases List.mem_cons.mp hy with e | e
            · cases e; right; simp
            · exact .inl e
          · right
            rw [List.lookup_cons]
            split
            · rfl
            · exact hy
      · obtain ⟨cl, e, h1, h2⟩ := ih cs (fun z hz => hl z (List.mem_cons_of_mem _ hz)) hc
        refine ⟨cl, ?_, h1, fun y hy => h2 y ?_⟩
        · have : (k == NameKind.free) = false := by simpa using hk
          simp only [this, Bool.false_eq_true, if_false, pure_bind]
          exact e
        · rcases hy with hy | hy
          · rcases List.mem_cons.mp hy with e | e
            · cases e; exact absurd rfl hk
            · exact .inl e
          · exact .inr hy
  obtain ⟨cl, e, h1, h2⟩ := go scope.names [] h (fun y a hy => by cases hy)
  refine ⟨cl, ?_, fun y a hy ha => ?_⟩
  · unfold closureFor
    rw [← bind_pure (pure cl), ← e]
  · have := h2 y (.inl hy)
    obtain ⟨b, hb⟩ := Option.isSome_iff_exists.mp this
    rw [hb, ← h1 y b hb, ha]
def relab (scope sc : Scope) : Scope := { scope with names := scope.names.map fun (n, k) => if (k == .free && sc.kind == .function && sc.names.lookup n == some .cell) then (n, .cell) else (n, k) }
theorem relab_eq {scope sc : Scope} {env : Env} (h : env.scope = sc) : relabel scope env = relab scope sc := by subst h; rfl
/-- a comprehension that takes names of its frame's cells -/
theorem TE_compC {c : Cx} {σ : St} {Q : V → St → Prop} {elt iter : Expr} {x : Str} {px pos : Pos} {ifs : List Expr} {scope : Scope} (globs : List Str) (cs : List (Str × Nat)) (p : D → Bool) (f : D → D)
    (h : TIC c (.Name x px) iter σ (PCompC c (relab scope c.scope) cs globs x ifs elt p f fun xs σ1 => Q (.obj σ1.objs.length) ⟨σ1.loc, σ1.objs ++ [.list ((xs.filter p).map f)]⟩))
    (hcell : ∀ z ∈ scope.names, z.2 ≠ .cell) (hkind : scope.kind = .function) (hnames : ∀ z ∈ scope.names, z.2 = .local → scope.names.lookup z.1 = some .local) (hxl : (relab scope c.scope).names.lookup x = some .local)
    (hfree : ∀ z ∈ scope.names, z.2 = .free → z.1 ∈ capN cs) (hcs : ∀ q ∈ cs, (q.1, NameKind.free) ∈ scope.names ∧ (relab scope c.scope).names.lookup q.1 = some .cell ∧ c.scope.names.lookup q.1 = some .cell)
    (hcl : ∀ q ∈ cs, Loc c.names σ.loc q.1 (.cel q.2))
    (good : ∀ n₀, (⟨c.G, c.n, n₀, relab scope c.scope, x :: capN cs, globs⟩ : Cx).Good)
    (hs : ∀ env x, foldedSetIterable iter env x = pure x := by intro _ _; rfl) : TE c (.ListComp elt [⟨.Name x px, iter, ifs, 0⟩] scope pos) σ Q := by
  intro A env ι s ok R
  have hat : ∀ q ∈ cs, ∃ r, ι[q.2]? = some r ∧ env.cells.lookup q.1 = some r.1 := fun q hq =>
    let ⟨r, h1, _, h3⟩ := R.toRep0.celAt (hcl q hq) (hcs q hq).2.2; ⟨r, h1, h3⟩
  obtain ⟨cl, hclos, hlk⟩ := closure_of (env := env) (scope := scope) (fun z hz hf => by
    obtain ⟨q, hq, e⟩ := List.mem_map.mp (hfree z hz hf)
    obtain ⟨r, _, h3⟩ := hat q hq
    exact ⟨r.1, by rw [← e]; exact h3⟩)
  rw [eval_ListComp]
  have hre := relab_eq (scope := scope) R.scope
  refine wpAny_comprehension_free (use := none) rfl (hs env) hclos hkind hnames ?_
  rw [hre]
  refine comp_run (c := c) (cs := cs) (Rr := fun acc cenv r s' => compPost c.M A NoE none (PV c env ι s Q) acc cenv.locals r s') ok R hcell hkind hxl (fun q hq => ?_) good h ?_
  · obtain ⟨r, h1, h3⟩ := hat q hq
    exact ⟨(hcs q hq).2.1, r, h1, hlk _ _ (hcs q hq).1 h3⟩
  · intro a cenv ι' s' xs σ1 hq x' R' hacc hn hno hL'
    obtain ⟨m, hn⟩ := hn
    exact ⟨m, hn, fun h' hs' => ⟨ι', .obj σ1.objs.length, _, x'.drop hs' hL', R'.drop hn hs' hno (R.freshL hL') (R.toRep0.freshH hL'), ⟨_, hacc, rfl⟩, hq⟩⟩
set_option Elab.async false
set_option autoImplicit true
set_option linter.unusedVariables false
set_option maxRecDepth 20000
def isI (n : Int) : Value → Bool
  | .int i _ => i == n
  | _ => false
theorem any_ints {h : Heap} {n : Int} : ∀ (xs : List Int) (items : List Value), (xs.map D.int).length = items.length → (∀ (i : Nat) (d : D) (v : Value), (xs.map D.int)[i]? = some d → items[i]? = some v → DR h d v) → items.any (isI n) = decide (n ∈ xs)
  | [], [], _, _ => rfl
  | [], _ :: _, hl, _ => by simp at hl
  | _ :: _, [], hl, _ => by simp at hl
  | a :: xs, v :: items, hl, hr => by
    have h0 := hr 0 (.int a) v rfl rfl
    have ih := any_ints (n := n) xs items (by simpa using hl) fun i d v e1 e2 => hr (i + 1) d v e1 e2
    cases h0
    rw [List.any_cons, ih]
    simp only [isI, List.mem_cons, Bool.decide_or]
    congr 1
    rw [Bool.beq_eq_decide_eq]
    exact decide_eq_decide.mpr eq_comm
section
variable {c : Cx} {σ : St} {Q : V → St → Prop} {QB : Bool → St → Prop}
theorem eqAt_ints {h : Heap} {s : Shared} {M : Model} {A : Around} {n : Int} {t : Tok} {xs : List Int} {items : List Value} (hr : ∀ (i : Nat) (d : D) (v : Value), (xs.map D.int)[i]? = some d → items[i]? = some v → DR h d v) (hl : (xs.map D.int).length = items.length)
    {y : Value} (hy : y ∈ items) : ∃ a u, y = .int a u := by
  obtain ⟨i, hi⟩ := List.getElem?_of_mem hy
  have hlt : i < (xs.map D.int).length := by rw [hl]; exact (List.getElem?_eq_some_iff.mp hi).1
  have hd : (xs.map D.int)[i]? = some (xs.map D.int)[i] := List.getElem?_eq_getElem hlt
  have := hr i _ y hd hi
  rw [List.getElem_map] at this
  cases this
  exact ⟨_, _, rfl⟩
theorem TC_nin_ints {n : Int} {xs : List Int} (q : QB (!decide (n ∈ xs)) σ) : TC c .NotIn (.d (.int n)) (.d (.tup (xs.map .int))) σ QB := by
  intro A env ι s va vb ok R r1 r2
  obtain ⟨t, rfl⟩ := vr_int_inv r1
  have r2 : DR s.heap (.tup (xs.map .int)) vb := r2
  cases r2 with
  | @tup ad ob k vs items hg hoc hod hl hr =>
    refine SeqAt.notIn_tupleAt (items := items.toArray) (isI n) ⟨_, hg, hoc, _, hod⟩ (fun y hy => ?_) ?_
    · obtain ⟨a, u, rfl⟩ := eqAt_ints (s := s) (M := c.M) (A := A) (n := n) (t := t) hr hl (by simpa using hy)
      exact SeqAt.EqAt.int_int a u n t
    · have : (items.toArray.any (isI n)) = decide (n ∈ xs) := by rw [List.any_toArray]; exact any_ints xs items hl hr
      rw [this]
      exact PC.here R q
end
set_option Elab.async false
set_option autoImplicit true
set_option linter.unusedVariables false
set_option maxRecDepth 20000
/-- a list's item is laid anew: what the list is, to the letter -/
theorem setItem_at {prog : Program} {w : World} {A : Around} {E : Value → Shared → Prop} {s : Shared} {l : Addr} {items : List Value} {n : Nat} {k : Int} {t : Tok} {v : Value} {Q : Unit → Shared → Prop} (ho : s.heap.get? l = some { cls := .type "list", data := .seq items.toArray n })
    (h0 : 0 ≤ k) (hj : k.toNat < items.length) (hf : k < 2 ^ 63) (hQ : ∀ h', Heap.SameBut l s.heap h' → h'.get? l = some { cls := .type "list", data := .seq (items.set k.toNat v).toArray n } → Q () { s with heap := h' }) :
    wpAny (model prog w) A (setItem (.ref l) (.int k t) v) Q E s := by
  have hl : s.heap.IsList l items.toArray := ⟨_, ho, rfl, _, rfl⟩
  unfold setItem
  refine wpAny_holding (wpAny_bind (wpAny_sequenceKey hl.typeIs (by decide) ?_))
  refine wpAny_bind (wpAny_callSpecial?_slot (name := Str.ofString "__setitem__") hl.typeIs slot_list_setitem (wpAny_call_entry slot_list_setitem hl.typeIs entry_list_setitem ?_ (args_list_setitem _ _ _)))
  show wpAny _ _ (Builtin.List.listSubscript? (.int k t) >>= _) _ _ s
  refine wpAny_bind (wpAny_listSubscript_int (fitsIndex_of h0 hf) ?_)
  clear hf
  obtain ⟨j, rfl⟩ := Int.eq_ofNat_of_zero_le h0
  rw [Int.toNat_natCast] at hj hQ
  have hit : items.toArray[j]? = some items[j] := by simp [hj]
  show wpAny _ _ ((seqItemAt l j >>= fun r => pure (r.map (j, ·))) >>= _) _ _ s
  refine wpAny_bind (wpAny_bind (wpAny_seqItemAt ho rfl (wpAny_pure ?_)))
  rw [hit]
  show wpAny _ _ (setSeqItemAt l j v >>= _) _ _ s
  have fin : Q () { s with heap := s.heap.update l (Obj.mapSeq (·.setIfInBounds j v)) } := by
    refine hQ _ (Heap.SameBut.update ..) ?_
    rw [Heap.get?_update_self _ ho (by rfl)]
    simp [Obj.mapSeq]
  refine wpAny_bind (wpAny_setSeqItemAt ho rfl ?_)
  first
    | exact wpAny_pure ⟨.none, rfl, wpAny_pure fin⟩
    | exact wpAny_bind (wpAny_pure (wpAny_pure ⟨.none, rfl, wpAny_pure fin⟩))
theorem DRs.set {h : Heap} {xs : List D} {items : List Value} {j : Nat} {d : D} {v : Value} (r : DRs h xs items) (rd : DR h d v) : DRs h (xs.set j d) (items.set j v) := by
  refine ⟨by simpa using r.1, fun i d' v' e1 e2 => ?_⟩
  by_cases hi : j = i
  · subst hi
    have h1 : j < xs.length := by have := (List.getElem?_eq_some_iff.mp e1).1; simpa using this
    have h2 : j < items.length := by have := (List.getElem?_eq_some_iff.mp e2).1; simpa using this
    rw [List.getElem?_set_self h1] at e1
    rw [List.getElem?_set_self h2] at e2
    cases e1; cases e2; exact rd
  · rw [List.getElem?_set_ne hi] at e1 e2
    exact r.2 i d' v' e1 e2
section
variable {c : Cx} {σ : St} {Q : V → St → Prop} {QB : Bool → St → Prop}
theorem TSetI_list {k j : Nat} {xs : List D} {d : D} {Q : St → Prop} (ho : σ.objs[k]? = some (.list xs)) (hj : j < xs.length) (hx : xs.length ≤ 1000000) (q : Q ⟨σ.loc, σ.objs.set k (.list (xs.set j d))⟩) : TSetI c (.obj k) (.d (.int j)) (.d d) σ Q := by
  intro A env ι s ov iv val ok R r1 r2 r3
  obtain ⟨p, hp, rfl⟩ := r1; obtain ⟨u, rfl⟩ := vr_int_inv r2
  obtain ⟨e12, items, n, hg, hd⟩ := R.objs k _ p ho hp
  refine setItem_at hg (Int.natCast_nonneg j) (by rw [← hd.1, Int.toNat_natCast]; exact hj) (by omega) fun h' hs ho' => ?_
  have hk : ∀ b o, s.heap.get? b = some o → b ≠ p.1 → b ≠ p.2 → b ≠ env.locals → h'.get? b = some o := fun b o e h1 _ _ => (hs.2 b h1).trans e
  have hL : env.locals ≠ p.1 := fun e => R.notL (e ▸ (own_get hp).1)
  refine ⟨ι, _, Ext.change hp hk rfl rfl, Rep0.up (s := { s with heap := h' }) (R.toRep0.change ho hp hk (fun m' hn' => hn'.sameBut hs hL) (fun kS => ?_)) R.tk, q⟩
  exact ⟨e12, items.set j val, n, by rw [Int.toNat_natCast] at ho'; exact ho', (hd.mono kS).set (DR.mono kS r3)⟩
theorem TItem_neg1 {k : Nat} {xs : List D} {d : D} (ho : σ.objs[k]? = some (.list (xs ++ [d]))) (hx : xs.length ≤ 1000000) (q : Q (.d d) σ) : TItem c (.obj k) (.d (.int (-1))) σ Q := by
  intro A env ι s ov iv ok R r1 r2
  obtain ⟨p, hp, rfl⟩ := r1; obtain ⟨u, rfl⟩ := vr_int_inv r2
  obtain ⟨_, items, n, hg, hd⟩ := R.objs k _ p ho hp
  have hL : s.heap.IsList p.1 items.toArray := ⟨_, hg, rfl, _, rfl⟩
  have hlen : items.length = xs.length + 1 := by rw [← hd.1]; simp
  have e : items[xs.length]? = some items[xs.length] := List.getElem?_eq_getElem (by omega)
  have rv : VR ι s.heap (.d d) items[xs.length] := hd.2 _ d _ (by simp) e
  exact ⟨bltn_list hL, wpAny_getItem_list_neg (x := items[xs.length]) hL (by decide) (by simp; omega) (by decide) (by
    have : ((-1 : Int) + (items.toArray.size : Int)).toNat = xs.length := by simp; omega
    rw [this]; simpa using e) (PV.here R rv q)⟩
end
set_option Elab.async false
set_option autoImplicit true
set_option linter.unusedVariables false
set_option maxRecDepth 20000
section
variable {c : Cx} {σ : St} {Q : V → St → Prop} {QB : Bool → St → Prop}
theorem TCall_isbool {b : Bool} (q : Q (.d (.bool true)) σ) : TCall c (.val (.builtin "isinstance")) [.d (.bool b), .val (.type "bool")] σ Q := by
  intro A env ι s fv vals ok R rf rv
  cases rf
  obtain ⟨x, r, rfl, r1, r2⟩ := rv.cons_inv
  obtain ⟨y, r, rfl, r3, r4⟩ := r2.cons_inv
  obtain rfl := r4.nil_inv
  obtain rfl := vr_bool_inv r1
  cases r3
  exact PySem.IsiPair.bool_bool (PV.here R vr_bool q)
/-- the least of a list of ints -/
def IsMin (xs : List Int) (m : Int) : Prop := m ∈ xs ∧ ∀ a ∈ xs, m ≤ a
theorem drs_intsAre {h : Heap} : ∀ {xs : List Int} {items : List Value}, DRs h (xs.map .int) items → IntsAre items xs
  | [], [], _ => .nil
  | [], _ :: _, r => by have := r.1; simp at this
  | _ :: _, [], r => by have := r.1; simp at this
  | a :: xs, v :: items, r => by
    have h0 := r.2 0 (.int a) v rfl rfl
    have ih : IntsAre items xs := drs_intsAre ⟨by have := r.1; simpa using this, fun i d v e1 e2 => r.2 (i + 1) d v e1 e2⟩
    cases h0
    exact .cons _ _ ih
theorem TCall_minl {k : Nat} {xs : List Int} (ho : σ.objs[k]? = some (.list (xs.map .int))) (hx : 0 < xs.length) (q : ∀ m, IsMin xs m → Q (.d (.int m)) σ) : TCall c (.val (.builtin "min")) [.obj k] σ Q := by
  intro A env ι s fv vals ok R rf rv
  cases rf
  obtain ⟨x, r, rfl, r1, r2⟩ := rv.cons_inv
  obtain rfl := r2.nil_inv
  obtain ⟨p, hp, rfl⟩ := r1
  obtain ⟨_, items, n, hg, hd⟩ := R.objs k _ p ho hp
  have hL : s.heap.IsList p.1 items.toArray := ⟨_, hg, rfl, _, rfl⟩
  obtain ⟨m, hn, hm⟩ := R.ns
  refine liftV R (min_list_N ok.1 (fr_of hn) (news_of (xs := [env.locals]) (by simp)) hL (drs_intsAre hd) hx (fun h' M t tk F' N' h1 h2 => ?_))
  obtain ⟨hk, R'⟩ := R.toRep0.ledger (s' := { s with heap := h', toks := tk }) hn F' N' (fun p hp => hp)
  exact ⟨ι, .d (.int M), σ, Ext.but hk rfl rfl, R', vr_int, q M ⟨h1, h2⟩⟩
theorem rangeItr {A : Around} {target : Expr} {env : Env} {ι1 : Io} {s1 : Shared} {I : Addr} {a n : Nat} (hh : A.handled = none) (ht : ∀ it v, letOwnedTupleGo target it v = pure ()) :
    ItrC c A target (.ref I) env ι1 s1 [I] ((List.range n).map fun i => .int ((a + i : Nat) : Int)) (fun _ => True) (fun i h => IsRangeIter h I ((a : Int) + (i : Nat) * 1) ((n : Int) - (i : Nat)) 1) := by
  have W := Walks.range (prog := c.G.prog) (w := c.G.w) (A := A) hh I a 1 n
  have nst : ∀ i (h : Heap), IsRangeIter h I ((a : Int) + (i : Nat) * 1) ((n : Int) - (i : Nat)) 1 → ∀ b ∈ [I], ∀ o, h.get? b = some o → ¬ StillAt o := fun i h y b hb o e => by
    obtain rfl := List.mem_singleton.mp hb
    have y' : h.get? b = _ := y
    rw [y'] at e; cases e
    exact notStill_fields rfl rfl (by decide) (by decide)
  refine ⟨⟨fun i h h' y hk => W.frame i h h' y fun b hb o e => hk b hb o e, fun i h y b hb => ?_, fun ι' σ' s' i d R' hpre hPd hst hI hxd => ?_, fun ι' σ' s' R' hpre hPd hst hI => ?_, rep_still (Pd := fun _ => True) nst⟩, nst, fun i s y => W.self i s _ _ y ⟨rfl, rfl⟩⟩
  · obtain rfl := List.mem_singleton.mp hb
    exact ⟨_, y⟩
  · have hlt : i < n := by have := (List.getElem?_eq_some_iff.mp hxd).1; simpa using this
    refine W.item i s' _ _ hlt hI fun v h' tk hP st' hk => ⟨v, rfl, wpAny_of_eq (ht _ _) ⟨⟨fun b o hb e => hk b o hb e, rfl, rfl⟩, st', ?_⟩⟩
    obtain ⟨t, rfl⟩ := hP
    rw [List.getElem?_map, List.getElem?_range hlt] at hxd
    simp only [Option.map_some, Option.some.injEq] at hxd
    subst hxd
    have : ((a : Int) + (i : Nat) * 1) = ((a + i : Nat) : Int) := by omega
    rw [this]
    exact DR.int _ _
  · rw [List.length_map, List.length_range] at hI
    exact W.done s' _ _ hI fun h' tk hk => ⟨rfl, fun b o hb e => hk b o hb e, rfl, rfl⟩
/-- a range's numbers, for a comprehension -/
theorem TIC_range {x : Str} {np pos : Pos} {target e₁ e₂ : Expr} {Q : List D → (St → Prop) → St → Prop} (hx : x ∈ c.globs) (hg : GlobIs c.G x (.type "range"))
    (h : TArgs c [e₁, e₂] σ fun vs σ1 => ∃ a b : Nat, vs = [.d (.int a), .d (.int b)] ∧ a ≤ 100000 ∧ b ≤ 100000 ∧ Q ((List.range (b - a)).map fun i => .int ((a + i : Nat) : Int)) (fun _ => True) σ1)
    (ht : ∀ it v, letOwnedTupleGo target it v = pure () := by intro _ _; rfl) (hs : ∀ env, starEach [e₁, e₂] env = [(false, eval e₁ env), (false, eval e₂ env)] := by intro _; rfl) : TIC c target (.Call (.Name x np) [e₁, e₂] [] pos) σ Q := by
  intro A env ι s ok R
  refine callType2 hx hg ok R h (fun vals s0 p0 => ?_) (hs env)
  obtain ⟨ι1, vs, σ1, x1, R1, r1, a, b, rfl, hal, hbl, q⟩ := p0
  obtain ⟨a₁, r, rfl, ra, r2⟩ := r1.cons_inv
  obtain ⟨a₂, r, rfl, rb, rc⟩ := r2.cons_inv
  obtain rfl := rc.nil_inv
  obtain ⟨t, rfl⟩ := vr_int_inv ra
  obtain ⟨u, rfl⟩ := vr_int_inv rb
  have hsz : Builtin.Range.rangeSize (a : Int) b 1 = ((b - a : Nat) : Int) := by rw [rangeSize_one]; split <;> omega
  refine call_range_2 ?_
  refine wpAny_pyIter_range (IsRange.new s0.heap a b 1 t u s0.toks) ?_ ?_
  · unfold Builtin.Range.small
    rw [hsz]
    have f : ∀ n : Nat, n ≤ 1000000 → Builtin.Range.rangeFitsLong (n : Int) = true := fun n hn => by
      unfold Builtin.Range.rangeFitsLong
      simp only [Bool.and_eq_true, decide_eq_true_eq]; omega
    have e2 : (b : Int) + (1 - 1) = ((b : Nat) : Int) := by omega
    have e1 : (1 : Int) = ((1 : Nat) : Int) := rfl
    simp only [f a (by omega), f b (by omega), f (b - a) (by omega), Bool.and_true, Bool.true_and, show ((1 : Int) > 0) by decide, if_true, e2, Bool.or_true]
    exact f 1 (by omega)
  · rw [hsz]
    have hk : ∀ (h : Heap) (o1 o2 : Obj) (b : Addr) (o : Obj), h.get? b = some o → ((h.push o1).push o2).get? b = some o := fun h o1 o2 b o e => Heap.get?_push_of_some _ (Heap.get?_push_of_some _ e)
    have f : s0.heap.get? (s0.heap.push { cls := .type "range", data := .fields #[.int a t, .int b u, .int 1 s0.toks] }).objs.size = none := fresh_ge (by rw [Heap.size_push]; exact Nat.le_succ _)
    have xp : ∀ o1 o2 tk, Ext env.locals ι1.length ι1 s0 ι1 { s0 with heap := (s0.heap.push o1).push o2, toks := tk } := fun o1 o2 tk => Ext.grow (fun b o e => hk _ o1 o2 b o e) rfl rfl
    refine ⟨ι1, σ1, _, _, [_], _, x1.trans ((xp _ _ _).less (take_pre x1.pre (Nat.le_refl _))), Rep0.up (R1.grow fun b o e => hk _ _ _ b o e) (Nat.succ_pos _), rangeItr (a := a) (n := b - a) ok.1 ht, ?_, fun b' hb => ?_, q⟩
    · show Heap.get? _ _ = _
      rw [show (a : Int) + ((0 : Nat) : Int) * 1 = a by omega, show (((b - a : Nat) : Int) - ((0 : Nat) : Int)) = ((b - a : Nat) : Int) by omega]
      exact Heap.get?_push_size _ rfl
    · obtain rfl := List.mem_singleton.mp hb
      exact ⟨fresh_back R1.toRep0 x1 f, R1.toRep0.freshO f⟩
end
set_option Elab.async false
set_option autoImplicit true
set_option linter.unusedVariables false
set_option maxRecDepth 20000
theorem strIter_notStill {h : Heap} {I : Addr} {x : Str} {t : Tok} {i : Nat} (y : h.IsStrIter I (strIterType x) x t i) {o : Obj} (e : h.get? I = some o) : ¬ StillAt o := by
  obtain ⟨o', e', hc, hd⟩ := y
  rw [e] at e'; cases e'
  refine notStill_fields hc hd ?_ ?_ <;> (unfold strIterType; split <;> decide)
section
variable {c : Cx} {σ : St}
theorem drawsStr {A : Around} (hh : A.handled = none) (it : Addr) (x : Str) (t : Tok) :
    Draws c.G.prog c.G.w A it [it] x.cps.size (fun i v => ∃ c u, x.cps[i]? = some c ∧ v = .str ⟨#[c]⟩ u) (fun i h => h.IsStrIter it (strIterType x) x t i) := by
  unfold strIterType
  split
  · exact Draws.strAscii hh it x t
  · exact Draws.strWide hh it x t
theorem enumStrItr {A : Around} {elts : List Expr} {k : Nat} {pos : Pos} {env : Env} {ι1 : Io} {s1 : Shared} {e it : Addr} {x : List Nat} {t : Tok} (hh : A.handled = none) (hei : e ≠ it) :
    Itr c A (.Tuple elts k pos) (.ref e) env ι1 s1 [e, it] (enumD (x.map fun ch => .str [ch])) (fun _ => True) (fun i h => (∃ old, IsEnum h e it i old) ∧ h.IsStrIter it (strIterType ⟨x.toArray⟩) ⟨x.toArray⟩ t i) := by
  have hlen : (enumD (x.map fun ch => D.str [ch])).length = (⟨x.toArray⟩ : Str).cps.size := by rw [enumD_len]; simp
  refine ⟨fun i h h' y hk => ⟨let ⟨old, q⟩ := y.1; ⟨old, hk e (by simp) _ q⟩, ?_⟩, fun i h y b hb => ?_, fun ι' σ' s' i d R' hpre hPd hst hI hxd => ?_, fun ι' σ' s' R' hpre hPd hst hI => ?_,
    rep_still (Pd := fun _ => True) (It := fun i h => (∃ old, IsEnum h e it i old) ∧ h.IsStrIter it (strIterType ⟨x.toArray⟩) ⟨x.toArray⟩ t i) fun i h y b hb o q => ?_⟩
  · obtain ⟨o, q, r⟩ := y.2
    exact ⟨o, hk it (by simp) _ q, r⟩
  · simp only [List.mem_cons, List.not_mem_nil, or_false] at hb
    rcases hb with rfl | rfl
    · obtain ⟨old, q⟩ := y.1; exact ⟨_, q⟩
    · obtain ⟨o, q, _⟩ := y.2; exact ⟨o, q⟩
  · have W := (WalksT.enumerateD (drawsStr (c := c) (A := A.in1) hh it ⟨x.toArray⟩ t) e hei (by simpa using hei) (by simp)).toU
    rw [enumD_get] at hxd
    obtain ⟨d0, hd0, rfl⟩ := Option.map_eq_some_iff.mp hxd
    have hlt : i < x.length := by have := (List.getElem?_eq_some_iff.mp hd0).1; simpa using this
    refine W.item i s' _ _ (by simpa using hlt) ⟨hI.1, hI.2⟩ fun T vals h' tk hP hT hm hk => ⟨.ref T, rfl, W.go elts k pos i T _ _ _ hm fun h'' st'' hk'' => ?_⟩
    have hkk : ∀ b o, b ∉ [e, it] → s'.heap.get? b = some o → h''.get? b = some o := fun b o hb q => hk'' b o hb (hk b o hb q)
    refine ⟨⟨hkk, rfl, rfl⟩, ⟨st''.1, st''.2⟩, ?_⟩
    obtain ⟨t', y, ⟨ch, u, hch, rfl⟩, rfl⟩ := hP
    obtain ⟨oT, eT, cT, nT, dT⟩ := hT
    have eT' : h''.get? T = some oT := hk'' T oT (W.apart i T _ hm) eT
    have hch' : x[i]? = some ch := by simpa using hch
    rw [List.getElem?_map, hch'] at hd0
    simp only [Option.map_some, Option.some.injEq] at hd0
    subst hd0
    refine DR.tup (items := [.int i t', .str ⟨#[ch]⟩ u]) eT' cT dT rfl fun m dm vm a b => ?_
    match m with
    | 0 => simp at a b; subst a b; exact DR.int _ _
    | 1 => simp at a b; subst a b; exact DR.str [ch] u
    | m + 2 => simp at a
  · have W := (WalksT.enumerateD (drawsStr (c := c) (A := A.in1) hh it ⟨x.toArray⟩ t) e hei (by simpa using hei) (by simp)).toU
    rw [hlen] at hI
    exact W.done s' _ _ ⟨hI.1, hI.2⟩ fun h' tk hk => ⟨rfl, hk, rfl, rfl⟩
  · simp only [List.mem_cons, List.not_mem_nil, or_false] at hb
    rcases hb with rfl | rfl
    · obtain ⟨old, z⟩ := y.1; exact enum_notStill z q
    · exact strIter_notStill y.2 q
theorem TI_enumS {elts : List Expr} {k : Nat} {tpos : Pos} {x : Str} {np pos : Pos} {e : Expr} {Q : List D → (St → Prop) → St → Prop} (hx : x ∈ c.globs) (hg : GlobIs c.G x (.type "enumerate"))
    (h : TE c e σ fun v σ1 => ∃ xs, v = .d (.str xs) ∧ Q (enumD (xs.map fun ch => .str [ch])) (fun _ => True) σ1) (hs : ∀ env, starEach [e] env = [(false, eval e env)] := by intro _; rfl) :
    TI c (.Tuple elts k tpos) (.Call (.Name x np) [e] [] pos) σ Q := by
  intro A env ι s ok R
  refine callType1 hx hg ok R h (fun val s0 p0 => ?_) (hs env)
  obtain ⟨ι1, v, σ1, x1, R1, r1, xs, rfl, q⟩ := p0
  obtain ⟨t, rfl⟩ := vr_str_inv r1
  refine call_enumerate_str fun h' hE hI hsz hk => wpAny_pyIter_enum hE ?_
  have xp : Ext env.locals ι1.length ι1 s0 ι1 { s0 with heap := h' } := Ext.grow hk rfl rfl
  refine ⟨ι1, σ1, _, _, [s0.heap.objs.size + 1, s0.heap.objs.size], _, x1.trans (xp.less (take_pre x1.pre (Nat.le_refl _))), Rep0.up (s := { s0 with heap := h' }) (R1.grow hk) R1.tk,
    enumStrItr ok.1 (Nat.succ_ne_self _), ⟨⟨_, hE⟩, hI⟩, fun b hb => ?_, q⟩
  simp only [List.mem_cons, List.not_mem_nil, or_false] at hb
  rcases hb with rfl | rfl
  · have f : s0.heap.get? (s0.heap.objs.size + 1) = none := fresh_ge (Nat.le_succ _)
    exact ⟨fresh_back R1.toRep0 x1 f, R1.toRep0.freshO f⟩
  · have f := fresh_size s0.heap
    exact ⟨fresh_back R1.toRep0 x1 f, R1.toRep0.freshO f⟩
end
set_option Elab.async false
set_option autoImplicit true
set_option linter.unusedVariables false
set_option maxRecDepth 20000
section
variable {c : Cx} {σ : St}
def TAv (c : Cx) : List Expr → List V → St → (St → Prop) → Prop
  | [], [], σ, Q => Q σ
  | t :: ts, v :: vs, σ, Q => TA c t v σ fun σ₁ => TAv c ts vs σ₁ Q
  | _, _, _, _ => False
theorem VRs.later {ι ι' : Io} {env : Env} {n : Nat} {s s' : Shared} {vs : List V} {vals : List Value} (R : Rep0 c ι σ env s) (x : Ext env.locals n ι s ι' s') (hn : ι.length ≤ n) (r : VRs ι s.heap vs vals) : VRs ι' s'.heap vs vals :=
  ⟨r.1, fun i v val a b => R.vr x hn (r.2 i v val a b)⟩
theorem assignInOrder_V : ∀ (ts : List Expr) (vs : List V) {σ : St} {Q : St → Prop} {A env ι s} {vals : List Value}, Ok A c.n → Rep c ι σ env s → VRs ι s.heap vs vals → TAv c ts vs σ Q →
    wpAny c.M A (assignInOrder (ts.map fun t => assign t env) vals) (fun _ => PU c env ι s Q) NoE s
  | [], [], σ, Q, A, env, ι, s, vals, ok, R, r, h => wpAny_pure ⟨ι, σ, Ext.refl .., R, h⟩
  | [], _ :: _, _, _, _, _, _, _, _, _, _, _, h => h.elim
  | _ :: _, [], _, _, _, _, _, _, _, _, _, _, h => h.elim
  | t :: ts, v :: vs, σ, Q, A, env, ι, s, vals, ok, R, r, h => by
    obtain ⟨val, vals, rfl, r0, r1⟩ := r.cons_inv
    rw [List.map_cons, assignInOrder]
    refine wpAny_bind (wpAny_holding (wpAny_mono (h A env ι s val ok R r0) (fun _ s1 p1 => ?_) fun _ _ x => x))
    obtain ⟨ι1, σ1, x1, R1, q1⟩ := p1
    exact wpAny_mono (assignInOrder_V ts vs ok R1 (r1.later R.toRep0 x1 (Nat.le_refl _)) q1) (fun _ _ p => PU.trans x1 p) fun _ _ x => x
/-- names take what a written tuple holds, through a tuple -/
theorem TS_assignT {Q : Fl → St → Prop} {elts : List Expr} {k k' : Nat} {tp vp pos : Pos} {es : List Expr}
    (h : TArgs c es σ fun vs σ₁ => vs.length = elts.length ∧ vs.length ≤ 100 ∧ TAv c elts vs σ₁ fun σ₂ => Q .next σ₂)
    (hl : ∀ env, swapsWithSole [.Tuple elts k tp] (.Tuple es k' vp) pos.line env = pure false := by intro _; rfl)
    (hw : ∀ env, swappedStores [.Tuple elts k tp] (.Tuple es k' vp) env = pure none := by intro _; rfl)
    (he : ∀ env, (assignEach [.Tuple elts k tp] env).map (·.2) = [assign (.Tuple elts k tp) env] := by intro _; rfl)
    (he2 : ∀ env, assignEach elts env = elts.map (fun t => (false, assign t env)) := by intro _; rfl)
    (hs : ∀ env, starEach es env = es.map (fun e => (false, eval e env)) := by intro _; rfl) : TS c (.Assign [.Tuple elts k tp] (.Tuple es k' vp) pos) σ Q := by
  intro A env ι s ok R
  refine wpAny_Assign_stores (Tuple_ ?_) (hl env) (hw env)
  rw [hs]
  refine wpAny_mono (spliced_T es vp ok R h) (fun vals s1 p1 => ?_) fun _ _ x => x
  obtain ⟨ι1, vs, σ1, x1, R1, r1, hlen, hl100, q1⟩ := p1
  have hvl : vals.length = vs.length := r1.1.symm
  refine wpAny_newObj_type ?_ (by show (vals.toArray).size ≤ sizeLine; rw [sizeLine_eq, List.size_toArray]; omega)
  rw [he]
  have hk1 : ∀ b o, s1.heap.get? b = some o → (s1.heap.push { cls := .type "tuple", data := .seq vals.toArray }).get? b = some o := fun b o e => Heap.get?_push_of_some _ e
  refine wpAny_assign_Tuple ok.1 (items := vals.toArray) ⟨_, Heap.get?_push_size _ rfl, rfl, _, rfl⟩ (by rw [he2]; simp; omega) (by rw [he2]; simp [List.findIdx?_eq_none_iff]) fun h' hx => ?_
  have hk : ∀ b o, s1.heap.get? b = some o → h'.get? b = some o := fun b o e => hx b o (Nat.ne_of_lt (by rw [Heap.size_push]; exact Nat.lt_succ_of_lt (Heap.lt_size e))) (hk1 b o e)
  have R2 : Rep c ι1 σ1 env { s1 with heap := h' } := Rep0.up (R1.grow hk) R1.tk
  have x2 : Ext env.locals ι1.length ι1 s1 ι1 { s1 with heap := h' } := Ext.grow hk rfl rfl
  have := assignInOrder_V (A := A) elts vs ok R2 (r1.later R1.toRep0 x2 (Nat.le_refl _)) q1
  rw [he2]
  simp only [List.map_map, Function.comp_def]
  exact wpAny_mono this (fun _ _ p => PS.ofPU R (PU.trans x1 (PU.trans x2 p))) fun _ _ x => x
end
set_option Elab.async false
set_option autoImplicit true
set_option linter.unusedVariables false
set_option maxRecDepth 100000
/-! the objects of the module's top, printed by GEN.lean -/
abbrev pwx : Program := PySem.Challenge.pw_qo0004_01
abbrev S : String → Str := Str.ofString
/-- a def of the text, by its place -/
noncomputable def stAt : List Nat → Stmt
  | [i] => (pwx.main.body[i]?).getD (.Pass default)
  | [i, j] => match pwx.main.body[i]? with
    | some (.ClassDef _ _ _ body _ _ _ _ _ _ _) => (body[j]?).getD (.Pass default)
    | _ => .Pass default
  | _ => .Pass default
noncomputable def mkFn (p : List Nat) (name qual : Str) (globals : Addr) (defaults kwd doc pym : Value) (ann : Option Addr) (code clt : Value) (b : Addr) : FuncData := match stAt p with
  | .FunctionDef _ args body _ _ _ scope _ _ _ => ⟨name, qual, args, .stmts body, scope, globals, [], defaults, kwd, doc, pym, ann, code, clt, b⟩
  | _ => default
noncomputable def oxB_11 : Obj := ⟨(.type "tuple"), none, (.seq #[] 0), #[]⟩
noncomputable def oxB_12 : Obj := ⟨.none, none, (.fields #[]), #[]⟩
noncomputable def oxB_13 : Obj := ⟨(.type "code"), none, (.fields #[(.str (S "<module>") 182), (.str (S "<module>") 183), (.str (S "/claim/cut.py") 184), (.int (1) 0), (.int (0) 0), (.int (0) 0), (.int (0) 0), (.int (0) 0), (.ref 11), (.bool false), (.int (181) 0), (.ref 12), .none, .none, .none, .none, (.int (185) 0), (.int (1) 0), (.str (S "/claim/cut.py") 186)]), #[]⟩
noncomputable def oxB_14 : Obj := ⟨(.type "frame"), none, .plain, #[(some (.ref 13)), (some (.ref 3)), (some (.ref 3)), none, (some (.str (S "__main__") 164)), none, (some (.ref 0))]⟩
noncomputable def oxC_3 (P : Params) : Obj := ⟨(.type "dict"), none, (.dict #[⟨PyData.keyHash P (S "__name__"), (.str (S "__name__") 165), (.str (S "html5lib._inputstream") 188)⟩, ⟨PyData.keyHash P (S "__doc__"), (.str (S "__doc__") 166), .none⟩, ⟨PyData.keyHash P (S "__package__"), (.str (S "__package__") 167), .none⟩, ⟨PyData.keyHash P (S "__loader__"), (.str (S "__loader__") 168), (.builtin "__main__.__loader__#opaque")⟩, ⟨PyData.keyHash P (S "__spec__"), (.str (S "__spec__") 169), .none⟩, ⟨PyData.keyHash P (S "__annotations__"), (.str (S "__annotations__") 170), (.ref 6)⟩, ⟨PyData.keyHash P (S "__builtins__"), (.str (S "__builtins__") 171), (.ref 4)⟩, ⟨PyData.keyHash P (S "__file__"), (.str (S "__file__") 173), (.str (S "/claim/cut.py") 172)⟩, ⟨PyData.keyHash P (S "__cached__"), (.str (S "__cached__") 174), .none⟩, ⟨PyData.keyHash P (S "EOF"), (.str (S "EOF") 187), .none⟩, ⟨PyData.keyHash P (S "Text"), (.str (S "Text") 228), (.ref 38)⟩, ⟨PyData.keyHash P (S "_is_invalid"), (.str (S "_is_invalid") 235), (.ref 49)⟩] 12), #[]⟩
noncomputable def oxC_12 : Obj := ⟨.none, none, (.fields #[(.int (3) 0), (.int (0) 0), (.ref 20), (.int (13) 0), (.int (0) 0), (.ref 48)]), #[]⟩
noncomputable def oxC_15 : Obj := ⟨(.type "tuple"), none, (.seq #[(.type "object")] 0), #[]⟩
noncomputable def oxC_16 : Obj := ⟨(.type "builtin_function_or_method"), none, (.fields #[(.builtin "type.__prepare__"), (.type "type")]), #[]⟩
noncomputable def oxC_17 (P : Params) : Obj := ⟨(.type "dict"), none, (.dict #[⟨PyData.keyHash P (S "__module__"), (.str (S "__module__") 197), (.str (S "html5lib._inputstream") 188)⟩, ⟨PyData.keyHash P (S "__qualname__"), (.str (S "__qualname__") 199), (.str (S "Text") 198)⟩, ⟨PyData.keyHash P (S "__firstlineno__"), (.str (S "__firstlineno__") 201), (.int (3) 200)⟩, ⟨PyData.keyHash P (S "__init__"), (.str (S "__init__") 209), (.ref 28)⟩, ⟨PyData.keyHash P (S "read"), (.str (S "read") 218), (.ref 35)⟩, ⟨PyData.keyHash P (S "__static_attributes__"), (.str (S "__static_attributes__") 221), (.ref 36)⟩] 6), #[]⟩
noncomputable def oxC_18 : Obj := ⟨(.type "tuple"), none, (.seq #[] 0), #[]⟩
noncomputable def oxC_19 : Obj := ⟨.none, none, (.fields #[(.int (5) 0), (.int (4) 0), (.ref 27), (.int (9) 0), (.int (4) 0), (.ref 34)]), #[]⟩
noncomputable def oxC_20 : Obj := ⟨(.type "code"), none, (.fields #[(.str (S "Text") 192), (.str (S "Text") 193), (.str (S "/claim/cut.py") 194), (.int (3) 0), (.int (0) 0), (.int (0) 0), (.int (0) 0), (.int (0) 0), (.ref 18), (.bool false), (.int (181) 0), (.ref 19), .none, .none, .none, .none, (.int (195) 0), (.int (3) 0), (.str (S "/claim/cut.py") 196)]), #[]⟩
noncomputable def oxC_21 : Obj := ⟨(.type "frame"), none, .plain, #[(some (.ref 20)), (some (.ref 3)), (some (.ref 17)), none, (some (.str (S "html5lib._inputstream") 188)), none, (some (.ref 0))]⟩
noncomputable def oxC_22 : Obj := ⟨(.type "tuple"), none, (.seq #[] 0), #[]⟩
noncomputable def oxC_23 : Obj := ⟨.none, none, (.fields #[]), #[]⟩
noncomputable def oxC_24 : Obj := ⟨(.type "tuple"), none, (.seq #[(.str (S "self") 205), (.str (S "text") 206)] 0), #[]⟩
noncomputable def oxC_25 : Obj := ⟨(.type "tuple"), none, (.seq #[] 0), #[]⟩
noncomputable def oxC_26 : Obj := ⟨.none, none, (.func (mkFn [2, 0] (S "__init__") (S "Text.__init__") 0  .none .none .none .none none .none .none 0)), #[]⟩
noncomputable def oxC_27 : Obj := ⟨(.type "code"), none, (.fields #[(.str (S "__init__") 202), (.str (S "Text.__init__") 203), (.str (S "/claim/cut.py") 204), (.int (5) 0), (.int (2) 0), (.int (0) 0), (.int (0) 0), (.int (3) 0), (.ref 22), (.bool true), (.int (181) 0), (.ref 23), .none, (.ref 24), (.ref 25), (.ref 26), (.int (207) 0), (.int (5) 0), (.str (S "/claim/cut.py") 208)]), #[]⟩
noncomputable def oxC_28 : Obj := ⟨(.type "function"), none, (.func (mkFn [2, 0] (S "__init__") (S "Text.__init__") 3  .none .none .none (.str (S "html5lib._inputstream") 188) none (.ref 27) .none 0)), #[]⟩
noncomputable def oxC_29 : Obj := ⟨(.type "tuple"), none, (.seq #[] 0), #[]⟩
noncomputable def oxC_30 : Obj := ⟨.none, none, (.fields #[]), #[]⟩
noncomputable def oxC_31 : Obj := ⟨(.type "tuple"), none, (.seq #[(.str (S "self") 213), (.str (S "size") 214), (.str (S "part") 215)] 0), #[]⟩
noncomputable def oxC_32 : Obj := ⟨(.type "tuple"), none, (.seq #[] 0), #[]⟩
noncomputable def oxC_33 : Obj := ⟨.none, none, (.func (mkFn [2, 1] (S "read") (S "Text.read") 0  .none .none .none .none none .none .none 0)), #[]⟩
noncomputable def oxC_34 : Obj := ⟨(.type "code"), none, (.fields #[(.str (S "read") 210), (.str (S "Text.read") 211), (.str (S "/claim/cut.py") 212), (.int (9) 0), (.int (2) 0), (.int (0) 0), (.int (0) 0), (.int (3) 0), (.ref 29), (.bool true), (.int (181) 0), (.ref 30), .none, (.ref 31), (.ref 32), (.ref 33), (.int (216) 0), (.int (9) 0), (.str (S "/claim/cut.py") 217)]), #[]⟩
noncomputable def oxC_35 : Obj := ⟨(.type "function"), none, (.func (mkFn [2, 1] (S "read") (S "Text.read") 3  .none .none .none (.str (S "html5lib._inputstream") 188) none (.ref 34) .none 0)), #[]⟩
noncomputable def oxC_36 : Obj := ⟨(.type "tuple"), none, (.seq #[(.str (S "place") 219), (.str (S "text") 220)] 0), #[]⟩
noncomputable def oxC_37 (P : Params) : Obj := ⟨(.type "dict"), none, (.dict #[⟨PyData.keyHash P (S "__module__"), (.str (S "__module__") 197), (.str (S "html5lib._inputstream") 188)⟩, ⟨PyData.keyHash P (S "__firstlineno__"), (.str (S "__firstlineno__") 201), (.int (3) 200)⟩, ⟨PyData.keyHash P (S "__init__"), (.str (S "__init__") 209), (.ref 28)⟩, ⟨PyData.keyHash P (S "read"), (.str (S "read") 218), (.ref 35)⟩, ⟨PyData.keyHash P (S "__static_attributes__"), (.str (S "__static_attributes__") 221), (.ref 36)⟩, ⟨PyData.keyHash P (S "__dict__"), (.str (S "__dict__") 223), (.ref 39)⟩, ⟨PyData.keyHash P (S "__weakref__"), (.str (S "__weakref__") 225), (.ref 40)⟩, ⟨PyData.keyHash P (S "__doc__"), (.str (S "__doc__") 226), .none⟩] 4), #[]⟩
noncomputable def oxC_38 : Obj := ⟨(.type "type"), none, (.cls { name := (S "Text"), bases := [(.type "object")], mro := [(.ref 38), (.type "object")], ns := 37, qualname := (S "Text"), hasDict := true, slotNames := [], subclasses := [], abstract := false, collection := none, hasDel := false }), #[(some (.ref 15)), none, (some (.str (S "Text") 190)), (some (.str (S "Text") 198)), (some (.builtin "object.__new__")), (some (.bool true))]⟩
noncomputable def oxC_39 : Obj := ⟨(.type "getset_descriptor"), none, (.fields #[(.str (S "__dict__") 222), (.ref 38), (.builtin "function.__dict__"), (.builtin "function.__dict__#set")]), #[]⟩
noncomputable def oxC_40 : Obj := ⟨(.type "getset_descriptor"), none, (.fields #[(.str (S "__weakref__") 224), (.ref 38), (.builtin "ExceptionGroup.__weakref__"), .none]), #[]⟩
noncomputable def oxC_41 : Obj := ⟨(.type "super"), none, (.fields #[(.ref 38), (.ref 38), (.ref 38)]), #[]⟩
noncomputable def oxC_42 : Obj := ⟨(.type "builtin_function_or_method"), none, (.fields #[(.builtin "object.__init_subclass__"), (.ref 38)]), #[]⟩
noncomputable def oxC_43 : Obj := ⟨(.type "tuple"), none, (.seq #[] 0), #[]⟩
noncomputable def oxC_44 : Obj := ⟨.none, none, (.fields #[]), #[]⟩
noncomputable def oxC_45 : Obj := ⟨(.type "tuple"), none, (.seq #[(.str (S "codepoint") 232)] 0), #[]⟩
noncomputable def oxC_46 : Obj := ⟨(.type "tuple"), none, (.seq #[] 0), #[]⟩
noncomputable def oxC_47 : Obj := ⟨.none, none, (.func (mkFn [3] (S "_is_invalid") (S "_is_invalid") 0  .none .none .none .none none .none .none 0)), #[]⟩
noncomputable def oxC_48 : Obj := ⟨(.type "code"), none, (.fields #[(.str (S "_is_invalid") 229), (.str (S "_is_invalid") 230), (.str (S "/claim/cut.py") 231), (.int (13) 0), (.int (1) 0), (.int (0) 0), (.int (0) 0), (.int (3) 0), (.ref 43), (.bool true), (.int (181) 0), (.ref 44), .none, (.ref 45), (.ref 46), (.ref 47), (.int (233) 0), (.int (13) 0), (.str (S "/claim/cut.py") 234)]), #[]⟩
noncomputable def oxC_49 : Obj := ⟨(.type "function"), none, (.func (mkFn [3] (S "_is_invalid") (S "_is_invalid") 3  .none .none .none (.str (S "html5lib._inputstream") 188) none (.ref 48) .none 0)), #[]⟩
noncomputable def oxD_3 (P : Params) : Obj := ⟨(.type "dict"), none, (.dict #[⟨PyData.keyHash P (S "__name__"), (.str (S "__name__") 165), (.str (S "html5lib._inputstream") 188)⟩, ⟨PyData.keyHash P (S "__doc__"), (.str (S "__doc__") 166), .none⟩, ⟨PyData.keyHash P (S "__package__"), (.str (S "__package__") 167), .none⟩, ⟨PyData.keyHash P (S "__loader__"), (.str (S "__loader__") 168), (.builtin "__main__.__loader__#opaque")⟩, ⟨PyData.keyHash P (S "__spec__"), (.str (S "__spec__") 169), .none⟩, ⟨PyData.keyHash P (S "__annotations__"), (.str (S "__annotations__") 170), (.ref 6)⟩, ⟨PyData.keyHash P (S "__builtins__"), (.str (S "__builtins__") 171), (.ref 4)⟩, ⟨PyData.keyHash P (S "__file__"), (.str (S "__file__") 173), (.str (S "/claim/cut.py") 172)⟩, ⟨PyData.keyHash P (S "__cached__"), (.str (S "__cached__") 174), .none⟩, ⟨PyData.keyHash P (S "EOF"), (.str (S "EOF") 187), .none⟩, ⟨PyData.keyHash P (S "Text"), (.str (S "Text") 228), (.ref 38)⟩, ⟨PyData.keyHash P (S "_is_invalid"), (.str (S "_is_invalid") 235), (.ref 49)⟩, ⟨PyData.keyHash P (S "HTMLUnicodeInputStream"), (.str (S "HTMLUnicodeInputStream") 361), (.ref 131)⟩] 13), #[]⟩
noncomputable def oxD_12 : Obj := ⟨.none, none, (.fields #[(.int (3) 0), (.int (0) 0), (.ref 20), (.int (13) 0), (.int (0) 0), (.ref 48), (.int (15) 0), (.int (0) 0), (.ref 55)]), #[]⟩
noncomputable def oxD_50 : Obj := ⟨(.type "tuple"), none, (.seq #[(.type "object")] 0), #[]⟩
noncomputable def oxD_51 : Obj := ⟨(.type "builtin_function_or_method"), none, (.fields #[(.builtin "type.__prepare__"), (.type "type")]), #[]⟩
noncomputable def oxD_52 (P : Params) : Obj := ⟨(.type "dict"), none, (.dict #[⟨PyData.keyHash P (S "__module__"), (.str (S "__module__") 243), (.str (S "html5lib._inputstream") 188)⟩, ⟨PyData.keyHash P (S "__qualname__"), (.str (S "__qualname__") 245), (.str (S "HTMLUnicodeInputStream") 244)⟩, ⟨PyData.keyHash P (S "__firstlineno__"), (.str (S "__firstlineno__") 247), (.int (15) 246)⟩, ⟨PyData.keyHash P (S "_defaultChunkSize"), (.str (S "_defaultChunkSize") 249), (.int (10240) 248)⟩, ⟨PyData.keyHash P (S "__init__"), (.str (S "__init__") 257), (.ref 63)⟩, ⟨PyData.keyHash P (S "reset"), (.str (S "reset") 264), (.ref 70)⟩, ⟨PyData.keyHash P (S "openStream"), (.str (S "openStream") 273), (.ref 77)⟩, ⟨PyData.keyHash P (S "_position"), (.str (S "_position") 286), (.ref 84)⟩, ⟨PyData.keyHash P (S "position"), (.str (S "position") 295), (.ref 91)⟩, ⟨PyData.keyHash P (S "char"), (.str (S "char") 304), (.ref 98)⟩, ⟨PyData.keyHash P (S "readChunk"), (.str (S "readChunk") 314), (.ref 106)⟩, ⟨PyData.keyHash P (S "characterErrorsUCS4"), (.str (S "characterErrorsUCS4") 323), (.ref 113)⟩, ⟨PyData.keyHash P (S "charsUntil"), (.str (S "charsUntil") 335), (.ref 121)⟩, ⟨PyData.keyHash P (S "unget"), (.str (S "unget") 343), (.ref 128)⟩, ⟨PyData.keyHash P (S "__static_attributes__"), (.str (S "__static_attributes__") 354), (.ref 129)⟩] 15), #[]⟩
noncomputable def oxD_53 : Obj := ⟨(.type "tuple"), none, (.seq #[] 0), #[]⟩
noncomputable def oxD_54 : Obj := ⟨.none, none, (.fields #[(.int (18) 0), (.int (4) 0), (.ref 62), (.int (24) 0), (.int (4) 0), (.ref 69), (.int (33) 0), (.int (4) 0), (.ref 76), (.int (37) 0), (.int (4) 0), (.ref 83), (.int (48) 0), (.int (4) 0), (.ref 90), (.int (52) 0), (.int (4) 0), (.ref 97), (.int (61) 0), (.int (4) 0), (.ref 105), (.int (87) 0), (.int (4) 0), (.ref 112), (.int (92) 0), (.int (4) 0), (.ref 120), (.int (111) 0), (.int (4) 0), (.ref 127)]), #[]⟩
noncomputable def oxD_55 : Obj := ⟨(.type "code"), none, (.fields #[(.str (S "HTMLUnicodeInputStream") 238), (.str (S "HTMLUnicodeInputStream") 239), (.str (S "/claim/cut.py") 240), (.int (15) 0), (.int (0) 0), (.int (0) 0), (.int (0) 0), (.int (0) 0), (.ref 53), (.bool false), (.int (181) 0), (.ref 54), .none, .none, .none, .none, (.int (241) 0), (.int (15) 0), (.str (S "/claim/cut.py") 242)]), #[]⟩
noncomputable def oxD_56 : Obj := ⟨(.type "frame"), none, .plain, #[(some (.ref 55)), (some (.ref 3)), (some (.ref 52)), none, (some (.str (S "html5lib._inputstream") 188)), none, (some (.ref 0))]⟩
noncomputable def oxD_57 : Obj := ⟨(.type "tuple"), none, (.seq #[] 0), #[]⟩
noncomputable def oxD_58 : Obj := ⟨.none, none, (.fields #[]), #[]⟩
noncomputable def oxD_59 : Obj := ⟨(.type "tuple"), none, (.seq #[(.str (S "self") 253), (.str (S "source") 254)] 0), #[]⟩
noncomputable def oxD_60 : Obj := ⟨(.type "tuple"), none, (.seq #[] 0), #[]⟩
noncomputable def oxD_61 : Obj := ⟨.none, none, (.func (mkFn [4, 1] (S "__init__") (S "HTMLUnicodeInputStream.__init__") 0  .none .none .none .none none .none .none 0)), #[]⟩
noncomputable def oxD_62 : Obj := ⟨(.type "code"), none, (.fields #[(.str (S "__init__") 250), (.str (S "HTMLUnicodeInputStream.__init__") 251), (.str (S "/claim/cut.py") 252), (.int (18) 0), (.int (2) 0), (.int (0) 0), (.int (0) 0), (.int (3) 0), (.ref 57), (.bool true), (.int (181) 0), (.ref 58), .none, (.ref 59), (.ref 60), (.ref 61), (.int (255) 0), (.int (18) 0), (.str (S "/claim/cut.py") 256)]), #[]⟩
noncomputable def oxD_63 : Obj := ⟨(.type "function"), none, (.func (mkFn [4, 1] (S "__init__") (S "HTMLUnicodeInputStream.__init__") 3  .none .none .none (.str (S "html5lib._inputstream") 188) none (.ref 62) .none 0)), #[]⟩
noncomputable def oxD_64 : Obj := ⟨(.type "tuple"), none, (.seq #[] 0), #[]⟩
noncomputable def oxD_65 : Obj := ⟨.none, none, (.fields #[]), #[]⟩
noncomputable def oxD_66 : Obj := ⟨(.type "tuple"), none, (.seq #[(.str (S "self") 261)] 0), #[]⟩
noncomputable def oxD_67 : Obj := ⟨(.type "tuple"), none, (.seq #[] 0), #[]⟩
noncomputable def oxD_68 : Obj := ⟨.none, none, (.func (mkFn [4, 2] (S "reset") (S "HTMLUnicodeInputStream.reset") 0  .none .none .none .none none .none .none 0)), #[]⟩
noncomputable def oxD_69 : Obj := ⟨(.type "code"), none, (.fields #[(.str (S "reset") 258), (.str (S "HTMLUnicodeInputStream.reset") 259), (.str (S "/claim/cut.py") 260), (.int (24) 0), (.int (1) 0), (.int (0) 0), (.int (0) 0), (.int (3) 0), (.ref 64), (.bool true), (.int (181) 0), (.ref 65), .none, (.ref 66), (.ref 67), (.ref 68), (.int (262) 0), (.int (24) 0), (.str (S "/claim/cut.py") 263)]), #[]⟩
noncomputable def oxD_70 : Obj := ⟨(.type "function"), none, (.func (mkFn [4, 2] (S "reset") (S "HTMLUnicodeInputStream.reset") 3  .none .none .none (.str (S "html5lib._inputstream") 188) none (.ref 69) .none 0)), #[]⟩
noncomputable def oxD_71 : Obj := ⟨(.type "tuple"), none, (.seq #[] 0), #[]⟩
noncomputable def oxD_72 : Obj := ⟨.none, none, (.fields #[]), #[]⟩
noncomputable def oxD_73 : Obj := ⟨(.type "tuple"), none, (.seq #[(.str (S "self") 268), (.str (S "source") 269), (.str (S "stream") 270)] 0), #[]⟩
noncomputable def oxD_74 : Obj := ⟨(.type "tuple"), none, (.seq #[] 0), #[]⟩
noncomputable def oxD_75 : Obj := ⟨.none, none, (.func (mkFn [4, 3] (S "openStream") (S "HTMLUnicodeInputStream.openStream") 0  .none .none .none .none none .none .none 0)), #[]⟩
noncomputable def oxD_76 : Obj := ⟨(.type "code"), none, (.fields #[(.str (S "openStream") 265), (.str (S "HTMLUnicodeInputStream.openStream") 266), (.str (S "/claim/cut.py") 267), (.int (33) 0), (.int (2) 0), (.int (0) 0), (.int (0) 0), (.int (3) 0), (.ref 71), (.bool true), (.int (181) 0), (.ref 72), .none, (.ref 73), (.ref 74), (.ref 75), (.int (271) 0), (.int (33) 0), (.str (S "/claim/cut.py") 272)]), #[]⟩
noncomputable def oxD_77 : Obj := ⟨(.type "function"), none, (.func (mkFn [4, 3] (S "openStream") (S "HTMLUnicodeInputStream.openStream") 3  .none .none .none (.str (S "html5lib._inputstream") 188) none (.ref 76) .none 0)), #[]⟩
noncomputable def oxD_78 : Obj := ⟨(.type "tuple"), none, (.seq #[] 0), #[]⟩
noncomputable def oxD_79 : Obj := ⟨.none, none, (.fields #[]), #[]⟩
noncomputable def oxD_80 : Obj := ⟨(.type "tuple"), none, (.seq #[(.str (S "self") 277), (.str (S "offset") 278), (.str (S "chunk") 279), (.str (S "nLines") 280), (.str (S "positionLine") 281), (.str (S "lastLinePos") 282), (.str (S "positionColumn") 283)] 0), #[]⟩
noncomputable def oxD_81 : Obj := ⟨(.type "tuple"), none, (.seq #[] 0), #[]⟩
noncomputable def oxD_82 : Obj := ⟨.none, none, (.func (mkFn [4, 4] (S "_position") (S "HTMLUnicodeInputStream._position") 0  .none .none .none .none none .none .none 0)), #[]⟩
noncomputable def oxD_83 : Obj := ⟨(.type "code"), none, (.fields #[(.str (S "_position") 274), (.str (S "HTMLUnicodeInputStream._position") 275), (.str (S "/claim/cut.py") 276), (.int (37) 0), (.int (2) 0), (.int (0) 0), (.int (0) 0), (.int (3) 0), (.ref 78), (.bool true), (.int (181) 0), (.ref 79), .none, (.ref 80), (.ref 81), (.ref 82), (.int (284) 0), (.int (37) 0), (.str (S "/claim/cut.py") 285)]), #[]⟩
noncomputable def oxD_84 : Obj := ⟨(.type "function"), none, (.func (mkFn [4, 4] (S "_position") (S "HTMLUnicodeInputStream._position") 3  .none .none .none (.str (S "html5lib._inputstream") 188) none (.ref 83) .none 0)), #[]⟩
noncomputable def oxD_85 : Obj := ⟨(.type "tuple"), none, (.seq #[] 0), #[]⟩
noncomputable def oxD_86 : Obj := ⟨.none, none, (.fields #[]), #[]⟩
noncomputable def oxD_87 : Obj := ⟨(.type "tuple"), none, (.seq #[(.str (S "self") 290), (.str (S "line") 291), (.str (S "col") 292)] 0), #[]⟩
noncomputable def oxD_88 : Obj := ⟨(.type "tuple"), none, (.seq #[] 0), #[]⟩
noncomputable def oxD_89 : Obj := ⟨.none, none, (.func (mkFn [4, 5] (S "position") (S "HTMLUnicodeInputStream.position") 0  .none .none .none .none none .none .none 0)), #[]⟩
noncomputable def oxD_90 : Obj := ⟨(.type "code"), none, (.fields #[(.str (S "position") 287), (.str (S "HTMLUnicodeInputStream.position") 288), (.str (S "/claim/cut.py") 289), (.int (48) 0), (.int (1) 0), (.int (0) 0), (.int (0) 0), (.int (3) 0), (.ref 85), (.bool true), (.int (181) 0), (.ref 86), .none, (.ref 87), (.ref 88), (.ref 89), (.int (293) 0), (.int (48) 0), (.str (S "/claim/cut.py") 294)]), #[]⟩
noncomputable def oxD_91 : Obj := ⟨(.type "function"), none, (.func (mkFn [4, 5] (S "position") (S "HTMLUnicodeInputStream.position") 3  .none .none .none (.str (S "html5lib._inputstream") 188) none (.ref 90) .none 0)), #[]⟩
noncomputable def oxD_92 : Obj := ⟨(.type "tuple"), none, (.seq #[] 0), #[]⟩
noncomputable def oxD_93 : Obj := ⟨.none, none, (.fields #[]), #[]⟩
noncomputable def oxD_94 : Obj := ⟨(.type "tuple"), none, (.seq #[(.str (S "self") 299), (.str (S "chunkOffset") 300), (.str (S "char") 301)] 0), #[]⟩
noncomputable def oxD_95 : Obj := ⟨(.type "tuple"), none, (.seq #[] 0), #[]⟩
noncomputable def oxD_96 : Obj := ⟨.none, none, (.func (mkFn [4, 6] (S "char") (S "HTMLUnicodeInputStream.char") 0  .none .none .none .none none .none .none 0)), #[]⟩
noncomputable def oxD_97 : Obj := ⟨(.type "code"), none, (.fields #[(.str (S "char") 296), (.str (S "HTMLUnicodeInputStream.char") 297), (.str (S "/claim/cut.py") 298), (.int (52) 0), (.int (1) 0), (.int (0) 0), (.int (0) 0), (.int (3) 0), (.ref 92), (.bool true), (.int (181) 0), (.ref 93), .none, (.ref 94), (.ref 95), (.ref 96), (.int (302) 0), (.int (52) 0), (.str (S "/claim/cut.py") 303)]), #[]⟩
noncomputable def oxD_98 : Obj := ⟨(.type "function"), none, (.func (mkFn [4, 6] (S "char") (S "HTMLUnicodeInputStream.char") 3  .none .none .none (.str (S "html5lib._inputstream") 188) none (.ref 97) .none 0)), #[]⟩
noncomputable def oxD_99 : Obj := ⟨(.type "tuple"), none, (.seq #[.none] 0), #[]⟩
noncomputable def oxD_100 : Obj := ⟨(.type "tuple"), none, (.seq #[] 0), #[]⟩
noncomputable def oxD_101 : Obj := ⟨.none, none, (.fields #[]), #[]⟩
noncomputable def oxD_102 : Obj := ⟨(.type "tuple"), none, (.seq #[(.str (S "self") 308), (.str (S "chunkSize") 309), (.str (S "data") 310), (.str (S "lastv") 311)] 0), #[]⟩
noncomputable def oxD_103 : Obj := ⟨(.type "tuple"), none, (.seq #[] 0), #[]⟩
noncomputable def oxD_104 : Obj := ⟨.none, none, (.func (mkFn [4, 7] (S "readChunk") (S "HTMLUnicodeInputStream.readChunk") 0  .none .none .none .none none .none .none 0)), #[]⟩
noncomputable def oxD_105 : Obj := ⟨(.type "code"), none, (.fields #[(.str (S "readChunk") 305), (.str (S "HTMLUnicodeInputStream.readChunk") 306), (.str (S "/claim/cut.py") 307), (.int (61) 0), (.int (2) 0), (.int (0) 0), (.int (0) 0), (.int (3) 0), (.ref 100), (.bool true), (.int (181) 0), (.ref 101), .none, (.ref 102), (.ref 103), (.ref 104), (.int (312) 0), (.int (61) 0), (.str (S "/claim/cut.py") 313)]), #[]⟩
noncomputable def oxD_106 : Obj := ⟨(.type "function"), none, (.func (mkFn [4, 7] (S "readChunk") (S "HTMLUnicodeInputStream.readChunk") 3  (.ref 99) .none .none (.str (S "html5lib._inputstream") 188) none (.ref 105) .none 0)), #[]⟩
noncomputable def oxD_107 : Obj := ⟨(.type "tuple"), none, (.seq #[] 0), #[]⟩
noncomputable def oxD_108 : Obj := ⟨.none, none, (.fields #[]), #[]⟩
noncomputable def oxD_109 : Obj := ⟨(.type "tuple"), none, (.seq #[(.str (S "self") 318), (.str (S "data") 319), (.str (S "c") 320)] 0), #[]⟩
noncomputable def oxD_110 : Obj := ⟨(.type "tuple"), none, (.seq #[] 0), #[]⟩
noncomputable def oxD_111 : Obj := ⟨.none, none, (.func (mkFn [4, 8] (S "characterErrorsUCS4") (S "HTMLUnicodeInputStream.characterErrorsUCS4") 0  .none .none .none .none none .none .none 0)), #[]⟩
noncomputable def oxD_112 : Obj := ⟨(.type "code"), none, (.fields #[(.str (S "characterErrorsUCS4") 315), (.str (S "HTMLUnicodeInputStream.characterErrorsUCS4") 316), (.str (S "/claim/cut.py") 317), (.int (87) 0), (.int (2) 0), (.int (0) 0), (.int (0) 0), (.int (3) 0), (.ref 107), (.bool true), (.int (181) 0), (.ref 108), .none, (.ref 109), (.ref 110), (.ref 111), (.int (321) 0), (.int (87) 0), (.str (S "/claim/cut.py") 322)]), #[]⟩
noncomputable def oxD_113 : Obj := ⟨(.type "function"), none, (.func (mkFn [4, 8] (S "characterErrorsUCS4") (S "HTMLUnicodeInputStream.characterErrorsUCS4") 3  .none .none .none (.str (S "html5lib._inputstream") 188) none (.ref 112) .none 0)), #[]⟩
noncomputable def oxD_114 : Obj := ⟨(.type "tuple"), none, (.seq #[(.bool false)] 0), #[]⟩
noncomputable def oxD_115 : Obj := ⟨(.type "tuple"), none, (.seq #[] 0), #[]⟩
noncomputable def oxD_116 : Obj := ⟨.none, none, (.fields #[]), #[]⟩
noncomputable def oxD_117 : Obj := ⟨(.type "tuple"), none, (.seq #[(.str (S "self") 327), (.str (S "characters") 328), (.str (S "opposite") 329), (.str (S "rv") 330), (.str (S "end") 331), (.str (S "r") 332)] 0), #[]⟩
noncomputable def oxD_118 : Obj := ⟨(.type "tuple"), none, (.seq #[] 0), #[]⟩
noncomputable def oxD_119 : Obj := ⟨.none, none, (.func (mkFn [4, 9] (S "charsUntil") (S "HTMLUnicodeInputStream.charsUntil") 0  .none .none .none .none none .none .none 0)), #[]⟩
noncomputable def oxD_120 : Obj := ⟨(.type "code"), none, (.fields #[(.str (S "charsUntil") 324), (.str (S "HTMLUnicodeInputStream.charsUntil") 325), (.str (S "/claim/cut.py") 326), (.int (92) 0), (.int (3) 0), (.int (0) 0), (.int (0) 0), (.int (3) 0), (.ref 115), (.bool true), (.int (181) 0), (.ref 116), .none, (.ref 117), (.ref 118), (.ref 119), (.int (333) 0), (.int (92) 0), (.str (S "/claim/cut.py") 334)]), #[]⟩
noncomputable def oxD_121 : Obj := ⟨(.type "function"), none, (.func (mkFn [4, 9] (S "charsUntil") (S "HTMLUnicodeInputStream.charsUntil") 3  (.ref 114) .none .none (.str (S "html5lib._inputstream") 188) none (.ref 120) .none 0)), #[]⟩
noncomputable def oxD_122 : Obj := ⟨(.type "tuple"), none, (.seq #[] 0), #[]⟩
noncomputable def oxD_123 : Obj := ⟨.none, none, (.fields #[]), #[]⟩
noncomputable def oxD_124 : Obj := ⟨(.type "tuple"), none, (.seq #[(.str (S "self") 339), (.str (S "char") 340)] 0), #[]⟩
noncomputable def oxD_125 : Obj := ⟨(.type "tuple"), none, (.seq #[] 0), #[]⟩
noncomputable def oxD_126 : Obj := ⟨.none, none, (.func (mkFn [4, 10] (S "unget") (S "HTMLUnicodeInputStream.unget") 0  .none .none .none .none none .none .none 0)), #[]⟩
noncomputable def oxD_127 : Obj := ⟨(.type "code"), none, (.fields #[(.str (S "unget") 336), (.str (S "HTMLUnicodeInputStream.unget") 337), (.str (S "/claim/cut.py") 338), (.int (111) 0), (.int (2) 0), (.int (0) 0), (.int (0) 0), (.int (3) 0), (.ref 122), (.bool true), (.int (181) 0), (.ref 123), .none, (.ref 124), (.ref 125), (.ref 126), (.int (341) 0), (.int (111) 0), (.str (S "/claim/cut.py") 342)]), #[]⟩
noncomputable def oxD_128 : Obj := ⟨(.type "function"), none, (.func (mkFn [4, 10] (S "unget") (S "HTMLUnicodeInputStream.unget") 3  .none .none .none (.str (S "html5lib._inputstream") 188) none (.ref 127) .none 0)), #[]⟩
noncomputable def oxD_129 : Obj := ⟨(.type "tuple"), none, (.seq #[(.str (S "_bufferedCharacter") 344), (.str (S "chunk") 345), (.str (S "chunkOffset") 346), (.str (S "chunkSize") 347), (.str (S "dataStream") 348), (.str (S "errors") 349), (.str (S "newLines") 350), (.str (S "prevNumCols") 351), (.str (S "prevNumLines") 352), (.str (S "reportCharacterErrors") 353)] 0), #[]⟩
noncomputable def oxD_130 (P : Params) : Obj := ⟨(.type "dict"), none, (.dict #[⟨PyData.keyHash P (S "__module__"), (.str (S "__module__") 243), (.str (S "html5lib._inputstream") 188)⟩, ⟨PyData.keyHash P (S "__firstlineno__"), (.str (S "__firstlineno__") 247), (.int (15) 246)⟩, ⟨PyData.keyHash P (S "_defaultChunkSize"), (.str (S "_defaultChunkSize") 249), (.int (10240) 248)⟩, ⟨PyData.keyHash P (S "__init__"), (.str (S "__init__") 257), (.ref 63)⟩, ⟨PyData.keyHash P (S "reset"), (.str (S "reset") 264), (.ref 70)⟩, ⟨PyData.keyHash P (S "openStream"), (.str (S "openStream") 273), (.ref 77)⟩, ⟨PyData.keyHash P (S "_position"), (.str (S "_position") 286), (.ref 84)⟩, ⟨PyData.keyHash P (S "position"), (.str (S "position") 295), (.ref 91)⟩, ⟨PyData.keyHash P (S "char"), (.str (S "char") 304), (.ref 98)⟩, ⟨PyData.keyHash P (S "readChunk"), (.str (S "readChunk") 314), (.ref 106)⟩, ⟨PyData.keyHash P (S "characterErrorsUCS4"), (.str (S "characterErrorsUCS4") 323), (.ref 113)⟩, ⟨PyData.keyHash P (S "charsUntil"), (.str (S "charsUntil") 335), (.ref 121)⟩, ⟨PyData.keyHash P (S "unget"), (.str (S "unget") 343), (.ref 128)⟩, ⟨PyData.keyHash P (S "__static_attributes__"), (.str (S "__static_attributes__") 354), (.ref 129)⟩, ⟨PyData.keyHash P (S "__dict__"), (.str (S "__dict__") 356), (.ref 132)⟩, ⟨PyData.keyHash P (S "__weakref__"), (.str (S "__weakref__") 358), (.ref 133)⟩, ⟨PyData.keyHash P (S "__doc__"), (.str (S "__doc__") 359), .none⟩] 4), #[]⟩
noncomputable def oxD_131 : Obj := ⟨(.type "type"), none, (.cls { name := (S "HTMLUnicodeInputStream"), bases := [(.type "object")], mro := [(.ref 131), (.type "object")], ns := 130, qualname := (S "HTMLUnicodeInputStream"), hasDict := true, slotNames := [], subclasses := [], abstract := false, collection := none, hasDel := false }), #[(some (.ref 50)), none, (some (.str (S "HTMLUnicodeInputStream") 236)), (some (.str (S "HTMLUnicodeInputStream") 244)), (some (.builtin "object.__new__")), (some (.bool true))]⟩
noncomputable def oxD_132 : Obj := ⟨(.type "getset_descriptor"), none, (.fields #[(.str (S "__dict__") 355), (.ref 131), (.builtin "function.__dict__"), (.builtin "function.__dict__#set")]), #[]⟩
noncomputable def oxD_133 : Obj := ⟨(.type "getset_descriptor"), none, (.fields #[(.str (S "__weakref__") 357), (.ref 131), (.builtin "ExceptionGroup.__weakref__"), .none]), #[]⟩
noncomputable def oxD_134 : Obj := ⟨(.type "super"), none, (.fields #[(.ref 131), (.ref 131), (.ref 131)]), #[]⟩
noncomputable def oxD_135 : Obj := ⟨(.type "builtin_function_or_method"), none, (.fields #[(.builtin "object.__init_subclass__"), (.ref 131)]), #[]⟩
noncomputable def oxA_3 (P : Params) : Obj := ⟨(.type "dict"), none, (.dict #[⟨PyData.keyHash P (S "__name__"), (.str (S "__name__") 165), (.str (S "law_qo0004_01") 362)⟩, ⟨PyData.keyHash P (S "__doc__"), (.str (S "__doc__") 166), .none⟩, ⟨PyData.keyHash P (S "__package__"), (.str (S "__package__") 167), .none⟩, ⟨PyData.keyHash P (S "__loader__"), (.str (S "__loader__") 168), (.builtin "__main__.__loader__#opaque")⟩, ⟨PyData.keyHash P (S "__spec__"), (.str (S "__spec__") 169), .none⟩, ⟨PyData.keyHash P (S "__annotations__"), (.str (S "__annotations__") 170), (.ref 6)⟩, ⟨PyData.keyHash P (S "__builtins__"), (.str (S "__builtins__") 171), (.ref 4)⟩, ⟨PyData.keyHash P (S "__file__"), (.str (S "__file__") 173), (.str (S "/claim/cut.py") 172)⟩, ⟨PyData.keyHash P (S "__cached__"), (.str (S "__cached__") 174), .none⟩, ⟨PyData.keyHash P (S "EOF"), (.str (S "EOF") 187), .none⟩, ⟨PyData.keyHash P (S "Text"), (.str (S "Text") 228), (.ref 38)⟩, ⟨PyData.keyHash P (S "_is_invalid"), (.str (S "_is_invalid") 235), (.ref 49)⟩, ⟨PyData.keyHash P (S "HTMLUnicodeInputStream"), (.str (S "HTMLUnicodeInputStream") 361), (.ref 131)⟩, ⟨PyData.keyHash P (S "_law_SIGNS"), (.str (S "_law_SIGNS") 365), (.str ⟨#[97, 13, 10, 13, 38, 98, 10, 32, 0, 1, 12]⟩ 364)⟩] 14), #[]⟩
noncomputable def oxF_3 (P : Params) : Obj := ⟨(.type "dict"), none, (.dict #[⟨PyData.keyHash P (S "__name__"), (.str (S "__name__") 165), (.str (S "law_qo0004_01") 362)⟩, ⟨PyData.keyHash P (S "__doc__"), (.str (S "__doc__") 166), .none⟩, ⟨PyData.keyHash P (S "__package__"), (.str (S "__package__") 167), .none⟩, ⟨PyData.keyHash P (S "__loader__"), (.str (S "__loader__") 168), (.builtin "__main__.__loader__#opaque")⟩, ⟨PyData.keyHash P (S "__spec__"), (.str (S "__spec__") 169), .none⟩, ⟨PyData.keyHash P (S "__annotations__"), (.str (S "__annotations__") 170), (.ref 6)⟩, ⟨PyData.keyHash P (S "__builtins__"), (.str (S "__builtins__") 171), (.ref 4)⟩, ⟨PyData.keyHash P (S "__file__"), (.str (S "__file__") 173), (.str (S "/claim/cut.py") 172)⟩, ⟨PyData.keyHash P (S "__cached__"), (.str (S "__cached__") 174), .none⟩, ⟨PyData.keyHash P (S "EOF"), (.str (S "EOF") 187), .none⟩, ⟨PyData.keyHash P (S "Text"), (.str (S "Text") 228), (.ref 38)⟩, ⟨PyData.keyHash P (S "_is_invalid"), (.str (S "_is_invalid") 235), (.ref 49)⟩, ⟨PyData.keyHash P (S "HTMLUnicodeInputStream"), (.str (S "HTMLUnicodeInputStream") 361), (.ref 131)⟩, ⟨PyData.keyHash P (S "_law_SIGNS"), (.str (S "_law_SIGNS") 365), (.str ⟨#[97, 13, 10, 13, 38, 98, 10, 32, 0, 1, 12]⟩ 364)⟩, ⟨PyData.keyHash P (S "_law_ROWS"), (.str (S "_law_ROWS") 383), (.ref 141)⟩, ⟨PyData.keyHash P (S "_law_sign"), (.str (S "_law_sign") 391), (.ref 148)⟩, ⟨PyData.keyHash P (S "_law_faulty"), (.str (S "_law_faulty") 398), (.ref 155)⟩, ⟨PyData.keyHash P (S "_law_more"), (.str (S "_law_more") 410), (.ref 162)⟩, ⟨PyData.keyHash P (S "law"), (.str (S "law") 416), (.ref 167)⟩] 19), #[]⟩
noncomputable def oxF_12 : Obj := ⟨.none, none, (.fields #[(.int (3) 0), (.int (0) 0), (.ref 20), (.int (13) 0), (.int (0) 0), (.ref 48), (.int (15) 0), (.int (0) 0), (.ref 55), (.int (122) 0), (.int (0) 0), (.ref 147), (.int (127) 0), (.int (0) 0), (.ref 154), (.int (131) 0), (.int (0) 0), (.ref 161), (.int (138) 0), (.int (0) 0), (.ref 166)]), #[]⟩
noncomputable def oxF_136 : Obj := ⟨(.type "tuple"), none, (.seq #[(.str (S "&") 366), (.str ⟨#[10]⟩ 367)] 0), #[]⟩
noncomputable def oxF_137 : Obj := ⟨(.type "list"), none, (.seq #[(.str (S "a") 369), (.str (S " ") 370)] 0), #[]⟩
noncomputable def oxF_138 (P : Params) : Obj := ⟨(.type "dict"), none, (.dict #[⟨PyData.keyHash P ⟨#[10]⟩, (.str ⟨#[10]⟩ 371), (.int (1) 372)⟩, ⟨PyData.keyHash P (S "b"), (.str (S "b") 373), (.int (2) 374)⟩] 2), #[]⟩
noncomputable def oxF_139 : Obj := ⟨(.type "set"), none, (.set #[] 0 (.fresh 0 0 true)), #[]⟩
noncomputable def oxF_140 : Obj := ⟨(.type "tuple"), none, (.seq #[] 0), #[]⟩
noncomputable def oxF_141 : Obj := ⟨(.type "list"), none, (.seq #[(.ref 136), (.str ⟨#[98, 1]⟩ 368), (.ref 137), (.ref 138), (.ref 139), (.ref 140)] 0), #[]⟩
noncomputable def oxF_142 : Obj := ⟨(.type "tuple"), none, (.seq #[] 0), #[]⟩
noncomputable def oxF_143 : Obj := ⟨.none, none, (.fields #[]), #[]⟩
noncomputable def oxF_144 : Obj := ⟨(.type "tuple"), none, (.seq #[(.str (S "n") 387), (.str (S "point") 388)] 0), #[]⟩
noncomputable def oxF_145 : Obj := ⟨(.type "tuple"), none, (.seq #[] 0), #[]⟩
noncomputable def oxF_146 : Obj := ⟨.none, none, (.func (mkFn [8] (S "_law_sign") (S "_law_sign") 0  .none .none .none .none none .none .none 0)), #[]⟩
noncomputable def oxF_147 : Obj := ⟨(.type "code"), none, (.fields #[(.str (S "_law_sign") 384), (.str (S "_law_sign") 385), (.str (S "/claim/cut.py") 386), (.int (122) 0), (.int (1) 0), (.int (0) 0), (.int (0) 0), (.int (3) 0), (.ref 142), (.bool true), (.int (181) 0), (.ref 143), .none, (.ref 144), (.ref 145), (.ref 146), (.int (389) 0), (.int (122) 0), (.str (S "/claim/cut.py") 390)]), #[]⟩
noncomputable def oxF_148 : Obj := ⟨(.type "function"), none, (.func (mkFn [8] (S "_law_sign") (S "_law_sign") 3  .none .none .none (.str (S "law_qo0004_01") 362) none (.ref 147) .none 0)), #[]⟩
noncomputable def oxF_149 : Obj := ⟨(.type "tuple"), none, (.seq #[] 0), #[]⟩
noncomputable def oxF_150 : Obj := ⟨.none, none, (.fields #[]), #[]⟩
noncomputable def oxF_151 : Obj := ⟨(.type "tuple"), none, (.seq #[(.str (S "point") 395)] 0), #[]⟩
noncomputable def oxF_152 : Obj := ⟨(.type "tuple"), none, (.seq #[] 0), #[]⟩
noncomputable def oxF_153 : Obj := ⟨.none, none, (.func (mkFn [9] (S "_law_faulty") (S "_law_faulty") 0  .none .none .none .none none .none .none 0)), #[]⟩
noncomputable def oxF_154 : Obj := ⟨(.type "code"), none, (.fields #[(.str (S "_law_faulty") 392), (.str (S "_law_faulty") 393), (.str (S "/claim/cut.py") 394), (.int (127) 0), (.int (1) 0), (.int (0) 0), (.int (0) 0), (.int (3) 0), (.ref 149), (.bool true), (.int (181) 0), (.ref 150), .none, (.ref 151), (.ref 152), (.ref 153), (.int (396) 0), (.int (127) 0), (.str (S "/claim/cut.py") 397)]), #[]⟩
noncomputable def oxF_155 : Obj := ⟨(.type "function"), none, (.func (mkFn [9] (S "_law_faulty") (S "_law_faulty") 3  .none .none .none (.str (S "law_qo0004_01") 362) none (.ref 154) .none 0)), #[]⟩
noncomputable def oxF_156 : Obj := ⟨(.type "tuple"), none, (.seq #[] 0), #[]⟩
noncomputable def oxF_157 : Obj := ⟨.none, none, (.fields #[]), #[]⟩
noncomputable def oxF_158 : Obj := ⟨(.type "tuple"), none, (.seq #[(.str (S "text") 402), (.str (S "state") 403), (.str (S "size") 404), (.str (S "asked") 405), (.str (S "came") 406), (.str (S "held") 407)] 0), #[]⟩
noncomputable def oxF_159 : Obj := ⟨(.type "tuple"), none, (.seq #[] 0), #[]⟩
noncomputable def oxF_160 : Obj := ⟨.none, none, (.func (mkFn [10] (S "_law_more") (S "_law_more") 0  .none .none .none .none none .none .none 0)), #[]⟩
noncomputable def oxF_161 : Obj := ⟨(.type "code"), none, (.fields #[(.str (S "_law_more") 399), (.str (S "_law_more") 400), (.str (S "/claim/cut.py") 401), (.int (131) 0), (.int (3) 0), (.int (0) 0), (.int (0) 0), (.int (3) 0), (.ref 156), (.bool true), (.int (181) 0), (.ref 157), .none, (.ref 158), (.ref 159), (.ref 160), (.int (408) 0), (.int (131) 0), (.str (S "/claim/cut.py") 409)]), #[]⟩
noncomputable def oxF_162 : Obj := ⟨(.type "function"), none, (.func (mkFn [10] (S "_law_more") (S "_law_more") 3  .none .none .none (.str (S "law_qo0004_01") 362) none (.ref 161) .none 0)), #[]⟩
noncomputable def oxF_163 : Obj := ⟨(.type "tuple"), none, (.seq #[] 0), #[]⟩
noncomputable def oxF_164 : Obj := ⟨.none, none, (.fields #[]), #[]⟩
noncomputable def oxF_165 : Obj := ⟨.none, none, (.func (mkFn [11] (S "law") (S "law") 0  .none .none .none .none none .none .none 0)), #[]⟩
noncomputable def oxF_166 : Obj := ⟨(.type "code"), none, (.fields #[(.str (S "law") 411), (.str (S "law") 412), (.str (S "/claim/cut.py") 413), (.int (138) 0), (.int (1) 0), (.int (0) 0), (.int (0) 0), (.int (3) 0), (.ref 163), (.bool true), (.int (181) 0), (.ref 164), .none, .none, .none, (.ref 165), (.int (414) 0), (.int (138) 0), (.str (S "/claim/cut.py") 415)]), #[]⟩
noncomputable def oxF_167 : Obj := ⟨(.type "function"), none, (.func (mkFn [11] (S "law") (S "law") 3  .none .none .none (.str (S "law_qo0004_01") 362) none (.ref 166) .none 0)), #[]⟩
noncomputable def lxB (P : Params) : List Obj := [boot_o_0 P, boot_o_1 P, boot_o_2 P, boot_o_3 P, boot_o_4 P, boot_o_5 P, boot_o_6 P, boot_o_7 P, boot_o_8 P, boot_o_9 P, boot_o_10 P, oxB_11, oxB_12, oxB_13, oxB_14]
noncomputable def lxC (P : Params) : List Obj := [boot_o_0 P, boot_o_1 P, boot_o_2 P, oxC_3 P, boot_o_4 P, boot_o_5 P, boot_o_6 P, boot_o_7 P, boot_o_8 P, boot_o_9 P, boot_o_10 P, oxB_11, oxC_12, oxB_13, oxB_14, oxC_15, oxC_16, oxC_17 P, oxC_18, oxC_19, oxC_20, oxC_21, oxC_22, oxC_23, oxC_24, oxC_25, oxC_26, oxC_27, oxC_28, oxC_29, oxC_30, oxC_31, oxC_32, oxC_33, oxC_34, oxC_35, oxC_36, oxC_37 P, oxC_38, oxC_39, oxC_40, oxC_41, oxC_42, oxC_43, oxC_44, oxC_45, oxC_46, oxC_47, oxC_48, oxC_49]
noncomputable def lxD (P : Params) : List Obj := [boot_o_0 P, boot_o_1 P, boot_o_2 P, oxD_3 P, boot_o_4 P, boot_o_5 P, boot_o_6 P, boot_o_7 P, boot_o_8 P, boot_o_9 P, boot_o_10 P, oxB_11, oxD_12, oxB_13, oxB_14, oxC_15, oxC_16, oxC_17 P, oxC_18, oxC_19, oxC_20, oxC_21, oxC_22, oxC_23, oxC_24, oxC_25, oxC_26, oxC_27, oxC_28, oxC_29, oxC_30, oxC_31, oxC_32, oxC_33, oxC_34, oxC_35, oxC_36, oxC_37 P, oxC_38, oxC_39, oxC_40, oxC_41, oxC_42, oxC_43, oxC_44, oxC_45, oxC_46, oxC_47, oxC_48, oxC_49, oxD_50, oxD_51, oxD_52 P, oxD_53, oxD_54, oxD_55, oxD_56, oxD_57, oxD_58, oxD_59, oxD_60, oxD_61, oxD_62, oxD_63, oxD_64, oxD_65, oxD_66, oxD_67, oxD_68, oxD_69, oxD_70, oxD_71, oxD_72, oxD_73, oxD_74, oxD_75, oxD_76, oxD_77, oxD_78, oxD_79, oxD_80, oxD_81, oxD_82, oxD_83, oxD_84, oxD_85, oxD_86, oxD_87, oxD_88, oxD_89, oxD_90, oxD_91, oxD_92, oxD_93, oxD_94, oxD_95, oxD_96, oxD_97, oxD_98, oxD_99, oxD_100, oxD_101, oxD_102, oxD_103, oxD_104, oxD_105, oxD_106, oxD_107, oxD_108, oxD_109, oxD_110, oxD_111, oxD_112, oxD_113, oxD_114, oxD_115, oxD_116, oxD_117, oxD_118, oxD_119, oxD_120, oxD_121, oxD_122, oxD_123, oxD_124, oxD_125, oxD_126, oxD_127, oxD_128, oxD_129, oxD_130 P, oxD_131, oxD_132, oxD_133, oxD_134, oxD_135]
noncomputable def lxA (P : Params) : List Obj := [boot_o_0 P, boot_o_1 P, boot_o_2 P, oxA_3 P, boot_o_4 P, boot_o_5 P, boot_o_6 P, boot_o_7 P, boot_o_8 P, boot_o_9 P, boot_o_10 P, oxB_11, oxD_12, oxB_13, oxB_14, oxC_15, oxC_16, oxC_17 P, oxC_18, oxC_19, oxC_20, oxC_21, oxC_22, oxC_23, oxC_24, oxC_25, oxC_26, oxC_27, oxC_28, oxC_29, oxC_30, oxC_31, oxC_32, oxC_33, oxC_34, oxC_35, oxC_36, oxC_37 P, oxC_38, oxC_39, oxC_40, oxC_41, oxC_42, oxC_43, oxC_44, oxC_45, oxC_46, oxC_47, oxC_48, oxC_49, oxD_50, oxD_51, oxD_52 P, oxD_53, oxD_54, oxD_55, oxD_56, oxD_57, oxD_58, oxD_59, oxD_60, oxD_61, oxD_62, oxD_63, oxD_64, oxD_65, oxD_66, oxD_67, oxD_68, oxD_69, oxD_70, oxD_71, oxD_72, oxD_73, oxD_74, oxD_75, oxD_76, oxD_77, oxD_78, oxD_79, oxD_80, oxD_81, oxD_82, oxD_83, oxD_84, oxD_85, oxD_86, oxD_87, oxD_88, oxD_89, oxD_90, oxD_91, oxD_92, oxD_93, oxD_94, oxD_95, oxD_96, oxD_97, oxD_98, oxD_99, oxD_100, oxD_101, oxD_102, oxD_103, oxD_104, oxD_105, oxD_106, oxD_107, oxD_108, oxD_109, oxD_110, oxD_111, oxD_112, oxD_113, oxD_114, oxD_115, oxD_116, oxD_117, oxD_118, oxD_119, oxD_120, oxD_121, oxD_122, oxD_123, oxD_124, oxD_125, oxD_126, oxD_127, oxD_128, oxD_129, oxD_130 P, oxD_131, oxD_132, oxD_133, oxD_134, oxD_135]
noncomputable def lxF (P : Params) : List Obj := [boot_o_0 P, boot_o_1 P, boot_o_2 P, oxF_3 P, boot_o_4 P, boot_o_5 P, boot_o_6 P, boot_o_7 P, boot_o_8 P, boot_o_9 P, boot_o_10 P, oxB_11, oxF_12, oxB_13, oxB_14, oxC_15, oxC_16, oxC_17 P, oxC_18, oxC_19, oxC_20, oxC_21, oxC_22, oxC_23, oxC_24, oxC_25, oxC_26, oxC_27, oxC_28, oxC_29, oxC_30, oxC_31, oxC_32, oxC_33, oxC_34, oxC_35, oxC_36, oxC_37 P, oxC_38, oxC_39, oxC_40, oxC_41, oxC_42, oxC_43, oxC_44, oxC_45, oxC_46, oxC_47, oxC_48, oxC_49, oxD_50, oxD_51, oxD_52 P, oxD_53, oxD_54, oxD_55, oxD_56, oxD_57, oxD_58, oxD_59, oxD_60, oxD_61, oxD_62, oxD_63, oxD_64, oxD_65, oxD_66, oxD_67, oxD_68, oxD_69, oxD_70, oxD_71, oxD_72, oxD_73, oxD_74, oxD_75, oxD_76, oxD_77, oxD_78, oxD_79, oxD_80, oxD_81, oxD_82, oxD_83, oxD_84, oxD_85, oxD_86, oxD_87, oxD_88, oxD_89, oxD_90, oxD_91, oxD_92, oxD_93, oxD_94, oxD_95, oxD_96, oxD_97, oxD_98, oxD_99, oxD_100, oxD_101, oxD_102, oxD_103, oxD_104, oxD_105, oxD_106, oxD_107, oxD_108, oxD_109, oxD_110, oxD_111, oxD_112, oxD_113, oxD_114, oxD_115, oxD_116, oxD_117, oxD_118, oxD_119, oxD_120, oxD_121, oxD_122, oxD_123, oxD_124, oxD_125, oxD_126, oxD_127, oxD_128, oxD_129, oxD_130 P, oxD_131, oxD_132, oxD_133, oxD_134, oxD_135, oxF_136, oxF_137, oxF_138 P, oxF_139, oxF_140, oxF_141, oxF_142, oxF_143, oxF_144, oxF_145, oxF_146, oxF_147, oxF_148, oxF_149, oxF_150, oxF_151, oxF_152, oxF_153, oxF_154, oxF_155, oxF_156, oxF_157, oxF_158, oxF_159, oxF_160, oxF_161, oxF_162, oxF_163, oxF_164, oxF_165, oxF_166, oxF_167]
def ax : List Addr := [0, 1, 2, 3, 4, 5, 6, 7, 9, 10, 11, 13, 14, 15, 16, 17, 18, 20, 21, 22, 24, 25, 27, 28, 29, 31, 32, 34, 35, 36, 37, 38, 39, 40, 41, 42, 43, 45, 46, 48, 49, 50, 51, 52, 53, 55, 56, 57, 59, 60, 62, 63, 64, 66, 67, 69, 70, 71, 73, 74, 76, 77, 78, 80, 81, 83, 84, 85, 87, 88, 90, 91, 92, 94, 95, 97, 98, 99, 100, 102, 103, 105, 106, 107, 109, 110, 112, 113, 114, 115, 117, 118, 120, 121, 122, 124, 125, 127, 128, 129, 130, 131, 132, 133, 134, 135, 136, 137, 138, 139, 140, 141, 142, 144, 145, 147, 148, 149, 151, 152, 154, 155, 156, 158, 159, 161, 162, 163, 166, 167]
/-- a heap's tree, as the machine lays it -/
def insAll : BT → Nat → List Obj → BT
  | t, _, [] => t
  | t, i, o :: r => insAll (t.ins i o) (i + 1) r
abbrev btOf (l : List Obj) : BT := insAll .nil 0 l
def envx : Env := { scope := pwx.main.scope, locals := mainNs, globals := mainNs, cells := [], code := .ref 13, frame := some 14 }
abbrev ann6 : Option Value := some (.ref 6)
abbrev stt (T : BT) (n toks : Nat) (os : OsState) : SharedT := ⟨T, n, {}, ⟨[]⟩, {}, toks, os⟩
set_option Elab.async false
set_option autoImplicit true
set_option linter.unusedVariables false
set_option maxRecDepth 100000
/-! a stretch of the top, from a tree to what it gives -/
section
variable {p : Program} {w : World} {q : Pos} {bd : List Stmt} {env : Env}
def Rn (m : Nat) (p : Program) (w : World) (q : Pos) (bd : List Stmt) (env : Env) {α : Type} (gd : Bool → Bool) (lv : List Value → List Value) (s : SharedT) (pos : Pos) (x : Sem α) (s' : SharedT) (pos' : Pos) (a : α) : Prop :=
  ∃ n, n ≤ m ∧ ∀ (K : α → Sem Fin) (H : Value → Sem Fin) (N : Nat) (r : Shared), topRun treeTable p w 11 ann6 N s'.abs ⟨K a, .body bd env, pos', [topFrame q]⟩ = some r → topRun treeTable p w 11 ann6 (n + N) s.abs ⟨x.wrap K H gd lv, .body bd env, pos, [topFrame q]⟩ = some r
variable {m m1 m2 : Nat} {α β : Type} {gd : Bool → Bool} {lv : List Value → List Value} {s s1 s2 : SharedT} {pos pos1 pos2 : Pos}
theorem Rn.pure {a : α} : Rn 0 p w q bd env gd lv s pos (Sem.pure a) s pos a := ⟨0, Nat.le_refl _, fun K H N r h => by rw [Nat.zero_add]; exact h⟩
theorem Rn.bind {x : Sem α} {f : α → Sem β} {a : α} {b : β} (h1 : Rn m1 p w q bd env gd lv s pos x s1 pos1 a) (h2 : Rn m2 p w q bd env gd lv s1 pos1 (f a) s2 pos2 b) : Rn (m1 + m2) p w q bd env gd lv s pos (x.bind f) s2 pos2 b := by
  obtain ⟨n1, l1, h1⟩ := h1
  obtain ⟨n2, l2, h2⟩ := h2
  refine ⟨n1 + n2, Nat.add_le_add l1 l2, fun K H N r h => ?_⟩
  rw [Sem.bind_eq_wrap, Sem.wrap_wrap, Nat.add_assoc]
  exact h1 (fun a => (f a).wrap K H gd lv) H (n2 + N) r (h2 K H N r h)
theorem Rn.keep {x : Sem α} {vs : List Value} {a : α} (h : Rn m p w q bd env gd (fun l => lv (vs ++ l)) s pos x s1 pos1 a) : Rn m p w q bd env gd lv s pos (x.keep vs) s1 pos1 a := by
  obtain ⟨n, l, h⟩ := h
  refine ⟨n, l, fun K H N r hr => ?_⟩
  rw [Sem.keep_eq_wrap, Sem.wrap_wrap]
  exact h K H N r hr
theorem topRun_one {s s1 : SharedT} {t t1 : Thread} {N : Nat} {r : Shared} (nt : through t = false) (ok : stepOk 11 ann6 t = true) (h : stepT (denote treeTable) p w s t = some (s1, t1)) (k : topRun treeTable p w 11 ann6 N s1.abs t1 = some r) :
    topRun treeTable p w 11 ann6 (1 + N) s.abs t = some r := by
  rw [Nat.add_comm]
  unfold topRun
  rw [nt, ok, stepT_spec h]
  exact k
theorem Rn.one {x x1 : Sem α} {a : α} (nt : ∀ K H, through ⟨x.wrap K H gd lv, .body bd env, pos, [topFrame q]⟩ = false) (ok : ∀ K H, stepOk 11 ann6 ⟨x.wrap K H gd lv, .body bd env, pos, [topFrame q]⟩ = true)
    (hs : ∀ K H, stepT (denote treeTable) p w s ⟨x.wrap K H gd lv, .body bd env, pos, [topFrame q]⟩ = some (s1, ⟨x1.wrap K H gd lv, .body bd env, pos1, [topFrame q]⟩)) (h : Rn m p w q bd env gd lv s1 pos1 x1 s2 pos2 a) : Rn (1 + m) p w q bd env gd lv s pos x s2 pos2 a := by
  obtain ⟨n, l, h⟩ := h
  refine ⟨1 + n, Nat.add_le_add_left l 1, fun K H N r hr => ?_⟩
  rw [Nat.add_assoc]
  exact topRun_one (nt K H) (ok K H) (hs K H) (h K H N r hr)
theorem Rn.rule {t : String} {k : Unit → Sem α} {a : α} (h : Rn m p w q bd env gd lv s pos (k ()) s2 pos2 a) : Rn (1 + m) p w q bd env gd lv s pos (.rule t k) s2 pos2 a :=
  Rn.one (fun _ _ => rfl) (fun _ _ => rfl) (fun _ _ => rfl) h
theorem Rn.at {p1 : Pos} {k : Unit → Sem α} {a : α} (h : Rn m p w q bd env gd lv s p1 (k ()) s2 pos2 a) : Rn (1 + m) p w q bd env gd lv s pos (.at p1 k) s2 pos2 a :=
  Rn.one (fun _ _ => rfl) (fun _ _ => rfl) (fun _ _ => rfl) h
theorem Rn.load {ad : Addr} {pt : Option Value} {k : Obj → Sem α} {a : α} {o : Obj} (hb : Nat.blt ad s.n = true) (hg : s.tree.get ad = some o) (al : alive o = some o) (h : Rn m p w q bd env gd lv s pos (k o) s2 pos2 a) : Rn (1 + m) p w q bd env gd lv s pos (.load ad pt k) s2 pos2 a := by
  refine Rn.one (s1 := s) (pos1 := pos) (x1 := k o) (fun _ _ => rfl) (fun _ _ => rfl) (fun K H => ?_) h
  show (match Nat.blt ad s.n with | true => _ | false => _) = _
  rw [hb, hg]; dsimp only; rw [al]
theorem Rn.update {ad : Addr} {pt : Option Value} {f : Obj → Obj} {k : Unit → Sem α} {a : α} {o : Obj} (hb : Nat.blt ad s.n = true) (hg : s.tree.get ad = some o) (al : alive o = some o) (hl : Nat.ble 11 ad = true) (h : Rn m p w q bd env gd lv { s with tree := s.tree.set ad f } pos (k ()) s2 pos2 a) :
    Rn (1 + m) p w q bd env gd lv s pos (.update ad pt f k) s2 pos2 a := by
  refine Rn.one (s1 := { s with tree := s.tree.set ad f }) (pos1 := pos) (x1 := k ()) (fun _ _ => rfl) (fun K H => ?_) (fun K H => ?_) h
  · show (_ && (Nat.ble 11 ad || _ || _ || _)) = true
    rw [hl]; rfl
  · show (match Nat.blt ad s.n with | true => _ | false => _) = _
    rw [hb, hg]; dsimp only; rw [al]
/-- a stretch that the machine runs by itself -/
theorem Rn.run {x : Sem α} {a : α} (res : α → Flow) (hres : ∀ a b, res a = res b → a = b) (n : Nat) (h : segRunT treeTable p w 11 ann6 1 n s ⟨x.wrap (fun a => .pure (.done (res a))) deadEnd gd lv, .body bd env, pos, [topFrame q]⟩ = some (res a, s1, .body bd env, pos1)) :
    Rn n p w q bd env gd lv s pos x s1 pos1 a := by
  refine ⟨n, Nat.le_refl _, fun K H N r hr => ?_⟩
  obtain ⟨a', e, hN⟩ := seg_top (res := res) (K' := K) (H' := H) (B := [topFrame q]) rfl n s.abs ⟨x.wrap (fun a => .pure (.done (res a))) deadEnd gd lv, .body bd env, pos, [topFrame q]⟩ ⟨x.wrap K H gd lv, .body bd env, pos, [topFrame q]⟩ _ _ _ _ ⟨rfl, rfl, .inl ⟨rfl, rfl, x, rfl, rfl⟩⟩ (segRun_of h)
  obtain rfl := hres _ _ e
  exact hN N r hr
theorem Rn.le {x : Sem α} {a : α} (h : Rn m p w q bd env gd lv s pos x s1 pos1 a) (l : m ≤ m1) : Rn m1 p w q bd env gd lv s pos x s1 pos1 a := let ⟨n, l', h⟩ := h; ⟨n, Nat.le_trans l' l, h⟩
def posOf : Option (Flow × SharedT × Code × Pos) → Pos
  | some (_, _, _, q) => q
  | none => default
end
set_option Elab.async false
set_option autoImplicit true
set_option linter.unusedVariables false
set_option maxRecDepth 100000
section
variable {p : Program} {w : World} {q : Pos} {bd : List Stmt} {env : Env} {gd : Bool → Bool} {lv : List Value → List Value} {s s1 s2 : SharedT} {pos pos1 pos2 : Pos}
/-! a set's table, as far as it matters -/
structure TabOk (es : Array (Int × Value)) (t : SetTable) : Prop where
  d : t.dummies = #[]
  sz : t.place.size = es.size
  m : 7 ≤ t.mask
  le : es.size ≤ 3
theorem insertAt_size {α : Type} (xs : Array α) (k : Nat) (x : α) : (SetTable.insertAt xs k x).size = xs.size + 1 := by
  simp [SetTable.insertAt]; omega
theorem mem_insertAt {α : Type} (xs : Array α) (k : Nat) (x y : α) : y ∈ SetTable.insertAt xs k x ↔ y ∈ xs ∨ y = x := by
  have e : xs.toList.take k ++ xs.toList.drop k = xs.toList := List.take_append_drop ..
  simp only [SetTable.insertAt]
  rw [← Array.mem_toList_iff, ← Array.mem_toList_iff]
  simp only [Array.toList_append, Array.toList_push, Array.toList_extract, List.mem_append, List.mem_singleton]
  have h1 : (xs.toList.extract 0 k) = xs.toList.take k := by simp [List.extract_eq_take_drop]
  have h2 : (xs.toList.extract k xs.size) = xs.toList.drop k := by
    rw [List.extract_eq_take_drop, List.take_of_length_le (by simp)]
  rw [h1, h2]
  conv => rhs; rw [← e, List.mem_append]
  constructor
  · rintro ((h | h) | h)
    · exact .inl (.inl h)
    · exact .inr h
    · exact .inl (.inr h)
  · rintro ((h | h) | h)
    · exact .inl (.inl h)
    · exact .inr h
    · exact .inl (.inr h)
theorem standIn_ok {t : SetTable} {es : Array (Int × Value)} (h0 : 1 ≤ es.size) (h : es.size ≤ 3) : TabOk es (t.standIn es.size) := ⟨rfl, by simp [SetTable.standIn], by show 7 ≤ 4 * es.size + 4; omega, h⟩
theorem layNew_ok {es : Array (Int × Value)} {t : SetTable} (h : TabOk es t) (hs : es.size ≤ 2) (hh : Int) (x : Value) :
    TabOk (layNew t es hh x).1 (layNew t es hh x).2.1 ∧ (layNew t es hh x).1.size = es.size + 1 ∧ ∀ y, y ∈ (layNew t es hh x).1 ↔ y ∈ es ∨ y = (hh, x) := by
  unfold layNew
  cases t.freeSlot hh with
  | none =>
    have e : (es.push (hh, x)).size = es.size + 1 := by simp
    refine ⟨?_, e, fun y => by simp⟩
    dsimp only
    rw [← e]
    exact standIn_ok (by omega) (by omega)
  | some r =>
    obtain ⟨slot, wd⟩ := r
    dsimp only
    have e : (SetTable.insertAt es (t.put slot).2 (hh, x)).size = es.size + 1 := insertAt_size ..
    refine ⟨?_, e, fun y => mem_insertAt ..⟩
    unfold SetTable.orStandIn
    split
    · refine ⟨?_, ?_, h.m, by omega⟩
      · show (if SetTable.has t.dummies slot then _ else t.dummies) = #[]
        rw [h.d]; rfl
      · show (SetTable.insertAt t.place _ slot).size = _
        rw [insertAt_size, h.sz, e]
    · exact standIn_ok (by omega) (by omega)
def unplain (t : SetTable) : SetTable := { t with plain := false }
/-- one more element -/
def addOf (r : Array (Int × Value) × SetTable) (h : Int) (x : Value) : Array (Int × Value) × SetTable := ((layNew r.2 r.1 h x).1, unplain (layNew r.2 r.1 h x).2.1)
theorem addOf_ok {r : Array (Int × Value) × SetTable} (h : TabOk r.1 r.2) (hs : r.1.size ≤ 2) (hh : Int) (x : Value) :
    TabOk (addOf r hh x).1 (addOf r hh x).2 ∧ (addOf r hh x).1.size = r.1.size + 1 ∧ ∀ y, y ∈ (addOf r hh x).1 ↔ y ∈ r.1 ∨ y = (hh, x) := by
  obtain ⟨⟨a, b, c, d⟩, e, f⟩ := layNew_ok h hs hh x
  exact ⟨⟨a, b, c, d⟩, e, f⟩
def setO (r : Array (Int × Value) × SetTable) (ep : Nat) : Obj := ⟨.type "set", none, .set r.1 ep r.2, #[]⟩
theorem setState_run {r : Array (Int × Value) × SetTable} {ep : Nat} (hb : Nat.blt 139 s.n = true) (hg : s.tree.get 139 = some (setO r ep)) (h : TabOk r.1 r.2) : Rn 1 p w q bd env gd lv s pos (setState 139) s pos (r.1, ep, r.2) := by
  unfold setState
  refine Rn.le (m := 1 + 0) ?_ (by decide)
  refine Rn.load hb hg rfl ?_
  have e : (r.2.place.size != r.1.size || decide (r.2.fill > r.2.mask)) = false := by
    have h1 := h.sz
    have h2 := h.m
    have h3 := h.le
    have h4 : r.2.fill = r.2.place.size := by unfold SetTable.fill; rw [h.d]; rfl
    rw [h4, h1]
    simp; omega
  show Rn 0 p w q bd env gd lv s pos (if (r.2.place.size != r.1.size || decide (r.2.fill > r.2.mask)) = true then _ else _) s pos _
  rw [e]
  exact Rn.pure
theorem storeSet_run {es : Array (Int × Value)} {ep : Nat} {t : SetTable} {es' : Array (Int × Value)} {t' : SetTable} (hb : Nat.blt 139 s.n = true) (hg : s.tree.get 139 = some ⟨.type "set", none, .set es ep t, #[]⟩) (h : es'.size ≤ 3) :
    Rn 2 p w q bd env gd lv s pos (storeSet 139 es' t') { s with tree := s.tree.set 139 (Obj.putSet es' t') } pos () := by
  unfold storeSet
  refine Rn.le (m := 1 + (1 + 0)) ?_ (by decide)
  refine Rn.load hb hg rfl ?_
  have e : ¬ es'.size > sizeLine := by unfold sizeLine; omega
  show Rn (1 + 0) p w q bd env gd lv s pos (if es'.size > sizeLine then _ else _) _ pos _
  rw [if_neg e]
  exact Rn.update hb hg rfl rfl Rn.pure
theorem scan_run {r : Array (Int × Value) × SetTable} {c : Str} {tok : Tok} {hh : Int} (hs : r.1.size ≤ 2) (hstr : ∀ e ∈ r.1, ∃ c' t', e.2 = .str c' t' ∧ c' ≠ c) :
    byScan (.str c tok) r.1 = true ∧ setScan 139 (.str c tok) hh true r.1 = .pure .absent := by
  have h1 : r.1.all (·.2.scannable) = true := by
    rw [Array.all_eq_true']
    intro e he; obtain ⟨c', t', e', _⟩ := hstr e he
    rw [e']; rfl
  have h2 : (r.1.all fun e => isExactStrKey e.2) = true := by
    rw [Array.all_eq_true']
    intro e he; obtain ⟨c', t', e', _⟩ := hstr e he
    rw [e']; rfl
  have h3 : r.1.findIdx? (·.2.isStr c) = none := by
    rw [Array.findIdx?_eq_none_iff]
    intro e he; obtain ⟨c', t', e', hne⟩ := hstr e he
    rw [e']
    show (c' == c) = false
    simpa using hne
  refine ⟨?_, ?_⟩
  · unfold byScan
    rw [h1, Bool.and_true]
    show (true && decide (r.1.size < scanBound)) = true
    have : r.1.size < scanBound := by unfold scanBound; omega
    simp [this]
  · unfold setScan
    dsimp only
    rw [if_pos h2]
    unfold setScanStrs
    rw [h3]; rfl
theorem add_run {r : Array (Int × Value) × SetTable} {ep : Nat} {c : Str} {tok : Tok} {hh : Int} (hb : Nat.blt 139 s.n = true) (hg : s.tree.get 139 = some (setO r ep)) (h : TabOk r.1 r.2) (hs : r.1.size ≤ 2) (hstr : ∀ e ∈ r.1, ∃ c' t', e.2 = .str c' t' ∧ c' ≠ c) :
    Rn 20 p w q bd env gd lv s pos (setAddHashedIn 139 (.str c tok) hh 100000) { s with tree := s.tree.set 139 (Obj.putSet (addOf r hh (.str c tok)).1 (addOf r hh (.str c tok)).2) } pos true := by
  obtain ⟨e1, e2⟩ := scan_run (hh := hh) (tok := tok) hs hstr
  obtain ⟨k1, k2, _⟩ := layNew_ok h hs hh (.str c tok)
  unfold setAddHashedIn
  refine Rn.le (m := 1 + ((1 + (0 + (1 + 2))) + 0)) ?_ (by decide)
  refine Rn.bind (setState_run hb hg h) ?_
  dsimp only
  rw [if_pos e1]
  refine Rn.bind (a := some true) ?_ Rn.pure
  unfold setAddByScan
  refine Rn.bind (a := ()) (Rn.rule Rn.pure) ?_
  rw [e2]
  refine Rn.bind (a := ScanMet.absent) Rn.pure ?_
  unfold addOf
  generalize layNew r.2 r.1 hh (.str c tok) = L at *
  obtain ⟨es', t', wd, gv⟩ := L
  dsimp only at k1 k2 ⊢
  have full : (unplain t').tooFull = false := by
    have h1 := k1.sz
    have h2 := k1.m
    have h3 := k1.le
    have h4 : t'.fill = t'.place.size := by
      have := k1.d
      unfold SetTable.fill; rw [this]; rfl
    show decide (t'.fill * 5 ≥ t'.mask * 3) = false
    rw [h4, h1]; simp; omega
  have fin : ∀ (t2 : SetTable) (Y : Sem (Option Bool)), t2 = unplain t' → Rn 2 p w q bd env gd lv s pos ((storeSet 139 es' t2).bind fun _ => if (!wd && t2.tooFull) = true then Y else pure (some true)) { s with tree := s.tree.set 139 (Obj.putSet es' (unplain t')) } pos (some true) := by
    rintro _ Y rfl
    refine Rn.le (m := 2 + 0) ?_ (by decide)
    refine Rn.bind (storeSet_run hb hg k1.le) ?_
    rw [full, Bool.and_false, if_neg Bool.false_ne_true]
    exact Rn.pure
  have body : ∀ Y Z : Bool → Sem (Option Bool), Rn 2 p w q bd env gd lv s pos (if t'.plain = true then (hashByValue 8 (.str c tok)).bind fun byValue => (storeSet 139 es' (if byValue = true then t' else unplain t')).bind fun _ => if (!wd && (if byValue = true then t' else unplain t').tooFull) = true then Y byValue else pure (some true)
      else (pure true : Sem Bool).bind fun byValue => (storeSet 139 es' (if byValue = true then t' else unplain t')).bind fun _ => if (!wd && (if byValue = true then t' else unplain t').tooFull) = true then Z byValue else pure (some true)) { s with tree := s.tree.set 139 (Obj.putSet es' (unplain t')) } pos (some true) := by
    intro Y Z
    cases hp : t'.plain with
    | true =>
      rw [if_pos rfl]
      refine Rn.le (m := 0 + 2) ?_ (by decide)
      refine Rn.bind (a := false) Rn.pure ?_
      rw [if_neg Bool.false_ne_true]
      exact fin _ _ rfl
    | false =>
      rw [if_neg Bool.false_ne_true]
      refine Rn.le (m := 0 + 2) ?_ (by decide)
      refine Rn.bind (a := true) Rn.pure ?_
      rw [if_pos rfl]
      exact fin _ _ (by obtain ⟨a, b, d, e, f, g, l⟩ := t'; cases hp; rfl)
  cases gv with
  | false => exact Rn.le (m := 0 + 2) (Rn.bind (a := ()) Rn.pure (body _ _)) (by decide)
  | true => exact Rn.bind (a := ()) (Rn.rule Rn.pure) (body _ _)
end
set_option Elab.async false
set_option autoImplicit true
set_option linter.unusedVariables false
set_option maxRecDepth 100000
theorem set_set (f g : Obj → Obj) : ∀ (t : BT) (a : Nat), (t.set a f).set a g = t.set a fun o => g (f o)
  | .nil, a => rfl
  | .node v l r, a => by
    rw [BT.set_node, BT.set_node]
    by_cases h : a = 0
    · rw [if_pos h, if_pos h, BT.set_node, if_pos h]
    · rw [if_neg h, if_neg h]
      by_cases h2 : a % 2 = 1
      · rw [if_pos h2, if_pos h2, BT.set_node, if_neg h, if_pos h2, set_set f g l]
      · rw [if_neg h2, if_neg h2, BT.set_node, if_neg h, if_neg h2, set_set f g r]
section
variable (w : World) (os : OsState)
def objS (T : String) (xs : List Value) : Obj := ⟨.type T, none, .seq xs.toArray 0, #[]⟩
def c1 : Str := Str.ofString "&"
def c2 : Str := ⟨#[0]⟩
def c3 : Str := Str.ofString "a"
noncomputable def tr1 (P : Params) : BT := (btOf (lxA P)).ins 136 (objS "tuple" [.str c1 366, .str (Str.ofString "\n") 367])
noncomputable def tr3 (P : Params) : BT := (tr1 P).ins 137 (objS "list" [.str c3 369, .str (Str.ofString " ") 370])
noncomputable def tr4 (P : Params) : BT := (tr3 P).ins 138 ⟨.type "dict", none, .dict #[⟨PyData.keyHash P (Str.ofString "\n"), .str (Str.ofString "\n") 371, .int 1 372⟩, ⟨PyData.keyHash P (Str.ofString "b"), .str (Str.ofString "b") 373, .int 2 374⟩] 2, #[]⟩
def set0 (P : Params) : Array (Int × Value) × SetTable := (#[], .fresh 0 0 (!P.followText "set-order"))
noncomputable def tr5 (P : Params) : BT := (tr4 P).ins 139 (setO (set0 P) 0)
noncomputable def trX (P : Params) (X : Obj) : BT := (tr5 P).set 139 fun _ => X
noncomputable def tr6 (P : Params) (X : Obj) : BT := (trX P X).ins 140 (objS "tuple" [])
noncomputable def tr7 (P : Params) (X : Obj) : BT := (tr6 P X).ins 141 (objS "list" [.ref 136, .str (Str.ofString "b\x01") 368, .ref 137, .ref 138, .ref 139, .ref 140])
variable {gd : Bool → Bool} {lv : List Value → List Value} {pos q : Pos} {bd : List Stmt}
theorem hash_seg (X : Obj) (c : Str) (hc : c = c1 ∨ c = c2 ∨ c = c3) (tok k : Nat) : segRunT treeTable pwx w 11 ann6 1 200 (stt (trX w.params X) 140 k os) ⟨(pyHash (.str c tok)).wrap (fun a => .pure (.done (.ret (.int a 0)))) deadEnd gd lv, .body bd envx, pos, [topFrame q]⟩ =
    some (.ret (.int (PyData.keyHash w.params c) 0), stt (trX w.params X) 140 (k + 1) os, .body bd envx, pos) := by
  revert w
  rcases hc with rfl | rfl | rfl
  · exact byRow2 "special-get-raises" (fun w => by kernel_rfl) (fun w => by kernel_rfl)
  · exact byRow2 "special-get-raises" (fun w => by kernel_rfl) (fun w => by kernel_rfl)
  · exact byRow2 "special-get-raises" (fun w => by kernel_rfl) (fun w => by kernel_rfl)
theorem trX_get (P : Params) (X : Obj) : (trX P X).get 139 = some X := by kernel_rfl
theorem trX_set (P : Params) (X : Obj) (f : Obj → Obj) : (trX P X).set 139 f = trX P (f X) := set_set _ _ _ _
theorem hash_run (X : Obj) (c : Str) (hc : c = c1 ∨ c = c2 ∨ c = c3) (tok k : Nat) : Rn 200 pwx w q bd envx gd lv (stt (trX w.params X) 140 k os) pos (pyHash (.str c tok)) (stt (trX w.params X) 140 (k + 1) os) pos (PyData.keyHash w.params c) :=
  Rn.run (fun a => .ret (.int a 0)) (fun a b h => by injection h with h; injection h) 200 (hash_seg w os X c hc tok k)
theorem setAdd_run {r : Array (Int × Value) × SetTable} {ep : Nat} {c : Str} (hc : c = c1 ∨ c = c2 ∨ c = c3) {tok k : Nat} (h : TabOk r.1 r.2) (hs : r.1.size ≤ 2) (hstr : ∀ e ∈ r.1, ∃ c' t', e.2 = .str c' t' ∧ c' ≠ c) :
    Rn 220 pwx w q bd envx gd lv (stt (trX w.params (setO r ep)) 140 k os) pos (setAdd 139 (.str c tok)) (stt (trX w.params (setO (addOf r (PyData.keyHash w.params c) (.str c tok)) (ep + 1))) 140 (k + 1) os) pos true := by
  have h1 := hash_run w os (gd := gd) (lv := lv) (pos := pos) (q := q) (bd := bd) (setO r ep) c hc tok k
  have hg := trX_get w.params (setO r ep)
  have hset := fun f => trX_set w.params (setO r ep) f
  generalize trX w.params (setO r ep) = T at *
  rw [show setO (addOf r (PyData.keyHash w.params c) (.str c tok)) (ep + 1) = Obj.putSet (addOf r (PyData.keyHash w.params c) (.str c tok)).1 (addOf r (PyData.keyHash w.params c) (.str c tok)).2 (setO r ep) from rfl, ← hset]
  unfold setAdd
  exact Rn.bind (m1 := 200) (m2 := 20) h1 (add_run (s := stt T 140 (k + 1) os) rfl hg h hs hstr)
theorem unled_run {r : Array (Int × Value) × SetTable} {ep k : Nat} (h : TabOk r.1 r.2) :
    Rn 3 pwx w q bd envx gd lv (stt (trX w.params (setO r ep)) 140 k os) pos (setUnled 139) (stt (trX w.params (setO (r.1, { r.2 with led := false }) (ep + 1))) 140 k os) pos () := by
  have hg := trX_get w.params (setO r ep)
  have hset := fun f => trX_set w.params (setO r ep) f
  generalize trX w.params (setO r ep) = T at *
  rw [show setO (r.1, { r.2 with led := false }) (ep + 1) = Obj.putSet r.1 { r.2 with led := false } (setO r ep) from rfl, ← hset]
  unfold setUnled
  exact Rn.bind (m1 := 1) (m2 := 2) (setState_run (s := stt T 140 k os) rfl hg h) (storeSet_run (s := stt T 140 k os) rfl hg h.le)
theorem Rn.evalAll_str {p : Program} {w : World} {q : Pos} {bd : List Stmt} {env : Env} {m1 m2 : Nat} {s s1 s2 : SharedT} {pos pos1 pos2 : Pos} {x : Sem Value} {rest : List (Sem Value)} {c : Str} {t : Nat} {vs : List Value} (h1 : Rn m1 p w q bd env gd lv s pos x s1 pos1 (.str c t)) (h2 : Rn m2 p w q bd env gd lv s1 pos1 (evalAll rest) s2 pos2 vs) :
    Rn (m1 + (m2 + 0)) p w q bd env gd lv s pos (evalAll (x :: rest)) s2 pos2 (.str c t :: vs) := Rn.bind h1 (Rn.bind (x := evalAll rest) h2 Rn.pure)
theorem Rn.for_cons {p : Program} {w : World} {q : Pos} {bd : List Stmt} {env : Env} {m1 m2 : Nat} {s s1 s2 : SharedT} {pos pos1 pos2 : Pos} {α : Type} {x : α} {xs : List α} {f : α → PUnit → Sem (ForInStep PUnit)} (h1 : Rn m1 p w q bd env gd lv s pos (f x ⟨⟩) s1 pos1 (.yield ⟨⟩)) (h2 : Rn m2 p w q bd env gd lv s1 pos1 (forIn xs PUnit.unit f) s2 pos2 ⟨⟩) :
    Rn (m1 + m2) p w q bd env gd lv s pos (forIn (x :: xs) PUnit.unit f) s2 pos2 ⟨⟩ := by
  rw [List.forIn_cons]; exact Rn.bind h1 h2
theorem Rn.for_same {p : Program} {w : World} {q : Pos} {bd : List Stmt} {env : Env} {m1 m2 : Nat} {s s1 s2 : SharedT} {pos pos2 : Pos} {α : Type} {x : α} {xs : List α} {f : α → PUnit → Sem (ForInStep PUnit)} (h1 : Rn m1 p w q bd env gd lv s pos (f x ⟨⟩) s1 pos (.yield ⟨⟩)) (h2 : Rn m2 p w q bd env gd lv s1 pos (forIn xs PUnit.unit f) s2 pos2 ⟨⟩) :
    Rn (m1 + m2) p w q bd env gd lv s pos (forIn (x :: xs) PUnit.unit f) s2 pos2 ⟨⟩ := Rn.for_cons h1 h2
theorem Rn.spl_ref {p : Program} {w : World} {q : Pos} {bd : List Stmt} {env : Env} {m1 m2 : Nat} {s s1 s2 : SharedT} {pos pos1 pos2 : Pos} {x : Sem Value} {rest : List (Bool × Sem Value)} {ad : Addr} {vs : List Value} (h1 : Rn m1 p w q bd env gd lv s pos x s1 pos1 (.ref ad)) (h2 : Rn m2 p w q bd env gd (fun l => lv ([.ref ad] ++ l)) s1 pos1 (spliced rest) s2 pos2 vs) :
    Rn (m1 + (0 + (m2 + 0))) p w q bd env gd lv s pos (spliced ((false, x) :: rest)) s2 pos2 (.ref ad :: vs) :=
  Rn.bind h1 (Rn.bind (a := [.ref ad]) Rn.pure (Rn.bind (x := (spliced rest).keep [.ref ad]) (f := fun r => Sem.pure ([Value.ref ad] ++ r)) (Rn.keep h2) Rn.pure))
theorem Rn.spl_str {p : Program} {w : World} {q : Pos} {bd : List Stmt} {env : Env} {m1 m2 : Nat} {s s1 s2 : SharedT} {pos pos1 pos2 : Pos} {x : Sem Value} {rest : List (Bool × Sem Value)} {c : Str} {t : Nat} {vs : List Value} (h1 : Rn m1 p w q bd env gd lv s pos x s1 pos1 (.str c t)) (h2 : Rn m2 p w q bd env gd lv s1 pos1 (spliced rest) s2 pos2 vs) :
    Rn (m1 + (0 + (m2 + 0))) p w q bd env gd lv s pos (spliced ((false, x) :: rest)) s2 pos2 (.str c t :: vs) :=
  Rn.bind h1 (Rn.bind (a := [.str c t]) Rn.pure (Rn.bind (x := spliced rest) (f := fun r => Sem.pure ([Value.str c t] ++ r)) h2 Rn.pure))
theorem Rn.bindN {p : Program} {w : World} {q : Pos} {bd : List Stmt} {env : Env} {m : Nat} (m1 m2 : Nat) {s s1 s2 : SharedT} {pos pos1 pos2 : Pos} {α β : Type} {x : Sem α} {f : α → Sem β} {a : α} {b : β} (h1 : Rn m1 p w q bd env gd lv s pos x s1 pos1 a) (h2 : Rn m2 p w q bd env gd lv s1 pos1 (f a) s2 pos2 b) (hm : m1 + m2 ≤ m := by decide) : Rn m p w q bd env gd lv s pos (x.bind f) s2 pos2 b := (h1.bind h2).le hm
theorem Rn.spl_refN {p : Program} {w : World} {q : Pos} {bd : List Stmt} {env : Env} {m : Nat} (m1 m2 : Nat) {s s1 s2 : SharedT} {pos pos1 pos2 : Pos} {x : Sem Value} {rest : List (Bool × Sem Value)} {ad : Addr} {vs : List Value} (h1 : Rn m1 p w q bd env gd lv s pos x s1 pos1 (.ref ad)) (h2 : Rn m2 p w q bd env gd (fun l => lv ([.ref ad] ++ l)) s1 pos1 (spliced rest) s2 pos2 vs) (hm : m1 + m2 ≤ m := by decide) :
    Rn m p w q bd env gd lv s pos (spliced ((false, x) :: rest)) s2 pos2 (.ref ad :: vs) := (Rn.spl_ref h1 h2).le (by omega)
theorem Rn.spl_strN {p : Program} {w : World} {q : Pos} {bd : List Stmt} {env : Env} {m : Nat} (m1 m2 : Nat) {s s1 s2 : SharedT} {pos pos1 pos2 : Pos} {x : Sem Value} {rest : List (Bool × Sem Value)} {c : Str} {t : Nat} {vs : List Value} (h1 : Rn m1 p w q bd env gd lv s pos x s1 pos1 (.str c t)) (h2 : Rn m2 p w q bd env gd lv s1 pos1 (spliced rest) s2 pos2 vs) (hm : m1 + m2 ≤ m := by decide) :
    Rn m p w q bd env gd lv s pos (spliced ((false, x) :: rest)) s2 pos2 (.str c t :: vs) := (Rn.spl_str h1 h2).le (by omega)
theorem Rn.evalAll_strN {p : Program} {w : World} {q : Pos} {bd : List Stmt} {env : Env} {m : Nat} (m1 m2 : Nat) {s s1 s2 : SharedT} {pos pos1 pos2 : Pos} {x : Sem Value} {rest : List (Sem Value)} {c : Str} {t : Nat} {vs : List Value} (h1 : Rn m1 p w q bd env gd lv s pos x s1 pos1 (.str c t)) (h2 : Rn m2 p w q bd env gd lv s1 pos1 (evalAll rest) s2 pos2 vs) (hm : m1 + m2 ≤ m := by decide) :
    Rn m p w q bd env gd lv s pos (evalAll (x :: rest)) s2 pos2 (.str c t :: vs) := (Rn.evalAll_str h1 h2).le (by omega)
theorem Rn.for_sameN {p : Program} {w : World} {q : Pos} {bd : List Stmt} {env : Env} {m : Nat} (m1 m2 : Nat) {s s1 s2 : SharedT} {pos pos2 : Pos} {α : Type} {x : α} {xs : List α} {f : α → PUnit → Sem (ForInStep PUnit)} (h1 : Rn m1 p w q bd env gd lv s pos (f x ⟨⟩) s1 pos (.yield ⟨⟩)) (h2 : Rn m2 p w q bd env gd lv s1 pos (forIn xs PUnit.unit f) s2 pos2 ⟨⟩) (hm : m1 + m2 ≤ m := by decide) :
    Rn m p w q bd env gd lv s pos (forIn (x :: xs) PUnit.unit f) s2 pos2 ⟨⟩ := (Rn.for_same h1 h2).le hm
noncomputable def stRows : Stmt := match pwx.main.body with
  | [_, _, _, _, _, _, _, st, _, _, _, _] => st
  | _ => .Pass default
/-- the set, as the top leaves it -/
noncomputable def set3 (P : Params) : Array (Int × Value) × SetTable := addOf (addOf (addOf (set0 P) (PyData.keyHash P c1) (.str c1 377)) (PyData.keyHash P c2) (.str c2 378)) (PyData.keyHash P c3) (.str c3 379)
noncomputable def setX (P : Params) : Obj := setO ((set3 P).1, { (set3 P).2 with led := false }) 4
noncomputable def set1 (P : Params) : Array (Int × Value) × SetTable := addOf (set0 P) (PyData.keyHash P c1) (.str c1 377)
noncomputable def set2 (P : Params) : Array (Int × Value) × SetTable := addOf (set1 P) (PyData.keyHash P c2) (.str c2 378)
theorem set0_ok (P : Params) : TabOk (set0 P).1 (set0 P).2 := ⟨rfl, rfl, Nat.le_refl _, Nat.zero_le _⟩
theorem set1_ok (P : Params) : TabOk (set1 P).1 (set1 P).2 ∧ (set1 P).1.size = 1 ∧ ∀ y, y ∈ (set1 P).1 ↔ y = (PyData.keyHash P c1, .str c1 377) := by
  obtain ⟨a, b, c⟩ := addOf_ok (set0_ok P) (Nat.zero_le _) (PyData.keyHash P c1) (.str c1 377)
  refine ⟨a, b, fun y => ?_⟩
  rw [set1, c]
  constructor
  · rintro (h | h)
    · exact absurd h (by simp [set0])
    · exact h
  · exact .inr
theorem set2_ok (P : Params) : TabOk (set2 P).1 (set2 P).2 ∧ (set2 P).1.size = 2 ∧ ∀ y, y ∈ (set2 P).1 ↔ y = (PyData.keyHash P c1, .str c1 377) ∨ y = (PyData.keyHash P c2, .str c2 378) := by
  obtain ⟨h1, h2, h3⟩ := set1_ok P
  obtain ⟨a, b, c⟩ := addOf_ok h1 (by omega) (PyData.keyHash P c2) (.str c2 378)
  refine ⟨a, by rw [set2, b, h2], fun y => ?_⟩
  rw [set2, c, h3]
theorem set3_ok (P : Params) : TabOk (set3 P).1 (set3 P).2 ∧ (set3 P).1.size = 3 ∧ ∀ y, y ∈ (set3 P).1 ↔ (y = (PyData.keyHash P c1, .str c1 377) ∨ y = (PyData.keyHash P c2, .str c2 378)) ∨ y = (PyData.keyHash P c3, .str c3 379) := by
  obtain ⟨h1, h2, h3⟩ := set2_ok P
  obtain ⟨a, b, c⟩ := addOf_ok h1 (by omega) (PyData.keyHash P c3) (.str c3 379)
  refine ⟨a, by show (addOf (set2 P) _ _).1.size = 3; rw [b, h2], fun y => ?_⟩
  show y ∈ (addOf (set2 P) _ _).1 ↔ _
  rw [c, h3]
theorem ne12 : c1 ≠ c2 := by decide
theorem ne13 : c1 ≠ c3 := by decide
theorem ne23 : c2 ≠ c3 := by decide
theorem add1_run {k : Nat} : Rn 220 pwx w q bd envx gd lv (stt (trX w.params (setO (set0 w.params) 0)) 140 k os) pos (setAdd 139 (.str c1 377)) (stt (trX w.params (setO (set1 w.params) 1)) 140 (k + 1) os) pos true :=
  setAdd_run w os (.inl rfl) (set0_ok _) (Nat.zero_le _) (fun e he => absurd he (by simp [set0]))
theorem add2_run {k : Nat} : Rn 220 pwx w q bd envx gd lv (stt (trX w.params (setO (set1 w.params) 1)) 140 k os) pos (setAdd 139 (.str c2 378)) (stt (trX w.params (setO (set2 w.params) 2)) 140 (k + 1) os) pos true := by
  obtain ⟨h1, h2, h3⟩ := set1_ok w.params
  refine setAdd_run w os (.inr (.inl rfl)) h1 (by omega) (fun e he => ?_)
  rw [h3] at he; subst he; exact ⟨_, _, rfl, ne12⟩
theorem add3_run {k : Nat} : Rn 220 pwx w q bd envx gd lv (stt (trX w.params (setO (set2 w.params) 2)) 140 k os) pos (setAdd 139 (.str c3 379)) (stt (trX w.params (setO (set3 w.params) 3)) 140 (k + 1) os) pos true := by
  obtain ⟨h1, h2, h3⟩ := set2_ok w.params
  refine setAdd_run w os (.inr (.inr rfl)) h1 (by omega) (fun e he => ?_)
  rw [h3] at he
  rcases he with rfl | rfl
  · exact ⟨_, _, rfl, ne13⟩
  · exact ⟨_, _, rfl, ne23⟩
noncomputable def tr8 (P : Params) (X : Obj) : BT := (tr7 P X).set 3 (Obj.mapDictKeys (·.push ⟨PyData.keyHash P (Str.ofString "_law_ROWS"), .str (Str.ofString "_law_ROWS") 383, .ref 141⟩))
theorem Rn.runQ {p : Program} {w : World} {q : Pos} {bd : List Stmt} {env : Env} {s s1 : SharedT} {pos : Pos} {α : Type} {x : Sem α} {a : α} (res : α → Flow) (hres : ∀ a b, res a = res b → a = b) (n : Nat)
    (h : segRunT treeTable p w 11 ann6 1 n s ⟨x.wrap (fun a => .pure (.done (res a))) deadEnd gd lv, .body bd env, pos, [topFrame q]⟩ = some (res a, s1, .body bd env, posOf (segRunT treeTable p w 11 ann6 1 n s ⟨x.wrap (fun a => .pure (.done (res a))) deadEnd gd lv, .body bd env, pos, [topFrame q]⟩))) :
    Rn n p w q bd env gd lv s pos x s1 (posOf (segRunT treeTable p w 11 ann6 1 n s ⟨x.wrap (fun a => .pure (.done (res a))) deadEnd gd lv, .body bd env, pos, [topFrame q]⟩)) a := Rn.run res hres n h
theorem resI {a b : Value} (h : Flow.ret a = Flow.ret b) : a = b := by injection h
theorem rows_run : Rn 5000 pwx w q bd envx id id (stt (btOf (lxA w.params)) 136 366 os) pos (exec stRows envx) (stt (tr8 w.params (setX w.params)) 142 384 os) ⟨121, 0, 121, 9⟩ .next := by
  show Rn _ _ _ _ _ _ _ _ _ _ (exec (Stmt.Assign [_] (Expr.List [_, _, _, _, _, _] _) _) _) _ _ _
  with_unfolding_all refine Rn.bindN 1 4999 (a := ()) (Rn.at Rn.pure) ?_
  with_unfolding_all refine Rn.bindN 0 4999 (a := false) Rn.pure ?_
  rw [if_neg Bool.false_ne_true]
  with_unfolding_all refine Rn.bindN 4899 100 (a := .ref 141) (s1 := stt (tr7 w.params (setX w.params)) 142 383 os) (pos1 := ?pp) ?_ ?_
  rotate_left
  · with_unfolding_all refine Rn.bindN 1 4898 (a := ()) (Rn.at Rn.pure) ?_
    with_unfolding_all refine Rn.bindN 4798 100 (a := [.ref 136, .str (Str.ofString "b\x01") 368, .ref 137, .ref 138, .ref 139, .ref 140]) (s1 := stt (tr6 w.params (setX w.params)) 141 383 os) (pos1 := ?pp2) ?_ ?_
    rotate_left
    · with_unfolding_all refine Rn.spl_refN 100 4698 (pos1 := ?p1) (s1 := stt (tr1 w.params) 137 368 os) ?_ ?_
      rotate_left
      · exact Rn.runQ .ret (fun _ _ => resI) 100 (by kernel_rfl)
      with_unfolding_all refine Rn.spl_strN 100 4598 (pos1 := ?p2) (s1 := stt (tr1 w.params) 137 369 os) ?_ ?_
      rotate_left
      · exact Rn.runQ .ret (fun _ _ => resI) 100 (by kernel_rfl)
      with_unfolding_all refine Rn.spl_refN 100 4498 (pos1 := ?p3) (s1 := stt (tr3 w.params) 138 371 os) ?_ ?_
      rotate_left
      · exact Rn.runQ .ret (fun _ _ => resI) 100 (by kernel_rfl)
      with_unfolding_all refine Rn.spl_refN 100 4398 (pos1 := ?p4) (s1 := stt (tr4 w.params) 139 377 os) ?_ ?_
      rotate_left
      · refine Rn.runQ .ret (fun _ _ => resI) 100 ?_
        revert w
        exact byRow2 "special-get-raises" (fun w => by kernel_rfl) (fun w => by kernel_rfl)
      with_unfolding_all refine Rn.spl_refN 4298 100 (pos1 := ?p5) (s1 := stt (trX w.params (setX w.params)) 140 383 os) ?_ ?_
      rotate_left
      · with_unfolding_all refine Rn.bindN 1 4297 (a := ()) (Rn.at Rn.pure) ?_
        with_unfolding_all refine Rn.bindN 100 4197 (a := true) (s1 := stt (tr4 w.params) 139 377 os) (pos1 := ?q1) ?_ ?_
        rotate_left
        · exact Rn.runQ (fun b => .ret (.bool b)) (fun _ _ h => by injection h with h; injection h) 100 (by kernel_rfl)
        with_unfolding_all refine Rn.bindN 100 4097 (a := .ref 139) (s1 := stt (trX w.params (setO (set0 w.params) 0)) 140 377 os) (pos1 := ?q2) ?_ ?_
        rotate_left
        · exact Rn.runQ .ret (fun _ _ => resI) 100 (by kernel_rfl)
        with_unfolding_all refine Rn.bindN 4097 0 (a := ()) (x := Sem.keep [.ref 139] _) (pos1 := ?q3) (s1 := stt (trX w.params (setX w.params)) 140 383 os) (Rn.keep ?_) ?_
        rotate_left
        · with_unfolding_all refine Rn.bindN 300 3797 (a := [.str c1 377, .str c2 378, .str c3 379]) (s1 := stt (trX w.params (setO (set0 w.params) 0)) 140 380 os) (pos1 := ?q4) ?_ ?_
          rotate_left
          · with_unfolding_all refine Rn.evalAll_strN 100 200 (pos1 := ?q5) (s1 := stt (trX w.params (setO (set0 w.params) 0)) 140 378 os) ?_ ?_
            rotate_left
            · exact Rn.runQ .ret (fun _ _ => resI) 100 (by kernel_rfl)
            with_unfolding_all refine Rn.evalAll_strN 100 100 (pos1 := ?q6) (s1 := stt (trX w.params (setO (set0 w.params) 0)) 140 379 os) ?_ ?_
            rotate_left
            · exact Rn.runQ .ret (fun _ _ => resI) 100 (by kernel_rfl)
            with_unfolding_all refine Rn.evalAll_strN 100 0 (pos1 := ?q7) (s1 := stt (trX w.params (setO (set0 w.params) 0)) 140 380 os) ?_ ?_
            rotate_left
            · exact Rn.runQ .ret (fun _ _ => resI) 100 (by kernel_rfl)
            with_unfolding_all exact Rn.pure
          with_unfolding_all refine Rn.bindN 3797 0 (a := PUnit.unit) (s1 := stt (trX w.params (setX w.params)) 140 383 os) (pos1 := ?q8) ?_ ?_
          rotate_left
          · with_unfolding_all refine Rn.bindN 3000 797 (a := PUnit.unit) (s1 := stt (trX w.params (setO (set3 w.params) 3)) 140 383 os) (pos1 := ?q9) ?_ ?_
            rotate_left
            · with_unfolding_all refine Rn.for_sameN 220 2000 (s1 := stt (trX w.params (setO (set1 w.params) 1)) 140 381 os) ?_ ?_
              · with_unfolding_all exact Rn.bindN 220 0 (f := fun _ => Sem.pure (ForInStep.yield PUnit.unit)) (add1_run w os) Rn.pure
              with_unfolding_all refine Rn.for_sameN 220 1000 (s1 := stt (trX w.params (setO (set2 w.params) 2)) 140 382 os) ?_ ?_
              · with_unfolding_all exact Rn.bindN 220 0 (f := fun _ => Sem.pure (ForInStep.yield PUnit.unit)) (add2_run w os) Rn.pure
              with_unfolding_all refine Rn.for_sameN 220 0 (s1 := stt (trX w.params (setO (set3 w.params) 3)) 140 383 os) ?_ ?_
              · with_unfolding_all exact Rn.bindN 220 0 (f := fun _ => Sem.pure (ForInStep.yield PUnit.unit)) (add3_run w os) Rn.pure
              with_unfolding_all exact Rn.pure
            with_unfolding_all refine Rn.bindN 1 3 (a := ()) (Rn.rule Rn.pure) ?_
            with_unfolding_all exact unled_run w os (set3_ok _).1
          with_unfolding_all exact Rn.pure
        with_unfolding_all exact Rn.pure
      with_unfolding_all refine Rn.spl_refN 100 0 (pos1 := ?p6) (s1 := stt (tr6 w.params (setX w.params)) 141 383 os) ?_ ?_
      rotate_left
      · exact Rn.runQ .ret (fun _ _ => resI) 100 (by kernel_rfl)
      with_unfolding_all exact Rn.pure
    · exact Rn.runQ .ret (fun _ _ => resI) 100 (by kernel_rfl)
  · exact Rn.run id (fun _ _ h => h) 100 (by kernel_rfl)
end
set_option Elab.async false
set_option autoImplicit true
set_option linter.unusedVariables false
set_option maxRecDepth 100000
section
variable (w : World) (os : OsState)
noncomputable def defs1 : List Stmt := match pwx.main.body with
  | [_, _, _, _, _, _, _, _, a, b, c, d] => [a, b, c, d]
  | _ => []
noncomputable def trF (P : Params) (X : Obj) : BT := (btOf (lxF P)).set 139 fun _ => X
theorem defs_seg (X : Obj) (q : Pos) (bd : List Stmt) : segRunT treeTable pwx w 11 ann6 1 400 (stt (tr8 w.params X) 142 384 os) (piecesOf defs1 envx (.body bd envx) ⟨121, 0, 121, 9⟩ [topFrame q]) =
    some (.next, stt (trF w.params X) 168 417 os, .body bd envx, ⟨138, 0, 192, 95⟩) := by kernel_rfl
noncomputable def bd1 : List Stmt := behindTheImports pwx
noncomputable def preC : List Stmt := pwx.main.body.take 4
noncomputable def preD : List Stmt := (pwx.main.body.drop 4).take 1
noncomputable def preA : List Stmt := (pwx.main.body.drop 5).take 2
theorem bd1_is : bd1 = preC ++ (preD ++ (preA ++ (stRows :: defs1))) := by kernel_rfl
theorem segC (q : Pos) (bd : List Stmt) : segRunT treeTable pwx w 11 ann6 1 400 (stt (btOf (lxB w.params)) 15 187 os) (piecesOf preC envx (.body bd envx) ⟨0, 0, 0, 0⟩ [topFrame q]) =
    some (.next, stt (btOf (lxC w.params)) 50 236 os, .body bd envx, ⟨13, 0, 14, 210⟩) := by kernel_rfl
theorem segD (q : Pos) (bd : List Stmt) : segRunT treeTable pwx w 11 ann6 1 700 (stt (btOf (lxC w.params)) 50 236 os) (piecesOf preD envx (.body bd envx) ⟨13, 0, 14, 210⟩ [topFrame q]) =
    some (.next, stt (btOf (lxD w.params)) 136 362 os, .body bd envx, ⟨15, 0, 118, 59⟩) := by kernel_rfl
theorem segA (q : Pos) (bd : List Stmt) : segRunT treeTable pwx w 11 ann6 1 50 (stt (btOf (lxD w.params)) 136 362 os) (piecesOf preA envx (.body bd envx) ⟨15, 0, 118, 59⟩ [topFrame q]) =
    some (.next, stt (btOf (lxA w.params)) 136 366 os, .body bd envx, ⟨120, 0, 120, 10⟩) := by kernel_rfl
theorem pre_run : topGo treeTable pwx w 11 ann6 12 ⟨boot_heap w.params, ⟨[]⟩, boot_drawn, boot_toks, os⟩ (topStub pwx) =
    some ((stt (btOf (lxB w.params)) 15 187 os).abs, ⟨denote treeTable (.body bd1 envx), .body bd1 envx, ⟨0, 0, 0, 0⟩, [topFrame ⟨0, 0, 0, 0⟩]⟩) := by kernel_rfl
theorem block_run : segRun treeTable pwx w 11 ann6 1 1 (stt (btOf (lxB w.params)) 15 187 os).abs (blockOf bd1 envx (.body bd1 envx) ⟨0, 0, 0, 0⟩ [topFrame ⟨0, 0, 0, 0⟩]) = some (.next, (stt (btOf (lxB w.params)) 15 187 os).abs, .body bd1 envx, ⟨0, 0, 0, 0⟩) := by kernel_rfl
theorem fin_run (X : Obj) : topRun treeTable pwx w 11 ann6 2 (stt (trF w.params X) 168 417 os).abs ⟨doneF .next, .body bd1 envx, ⟨138, 0, 192, 95⟩, [topFrame ⟨0, 0, 0, 0⟩]⟩ = some (stt (trF w.params X) 168 417 os).abs := by kernel_rfl
theorem top_run : topRun treeTable pwx w 11 ann6 (12 + (1 + (400 + (700 + (50 + (5000 + (400 + 2))))))) ⟨boot_heap w.params, ⟨[]⟩, boot_drawn, boot_toks, os⟩ (topStub pwx) = some (stt (trF w.params (setX w.params)) 168 417 os).abs := by
  have k1 : topRun treeTable pwx w 11 ann6 (400 + 2) (stt (tr8 w.params (setX w.params)) 142 384 os).abs (restOf (defs1 ++ []) envx (.body bd1 envx) ⟨121, 0, 121, 9⟩ [topFrame ⟨0, 0, 0, 0⟩]) = some (stt (trF w.params (setX w.params)) 168 417 os).abs :=
    piece_app (segRun_of (defs_seg w os (setX w.params) ⟨0, 0, 0, 0⟩ bd1)) (piece_nil (fin_run w os _))
  rw [List.append_nil] at k1
  have k2 : topRun treeTable pwx w 11 ann6 (5000 + (400 + 2)) (stt (btOf (lxA w.params)) 136 366 os).abs (restOf (stRows :: defs1) envx (.body bd1 envx) ⟨120, 0, 120, 10⟩ [topFrame ⟨0, 0, 0, 0⟩]) = some (stt (trF w.params (setX w.params)) 168 417 os).abs := by
    obtain ⟨n, hn, h⟩ := rows_run w os (pos := ⟨120, 0, 120, 10⟩) (q := ⟨0, 0, 0, 0⟩) (bd := bd1)
    have := h (fun f => match f with | .next => (execs defs1 envx).wrap doneF (leaveH envx) id id | f => doneF f) (leaveH envx) (400 + 2) _ k1
    have e : restOf (stRows :: defs1) envx (.body bd1 envx) ⟨120, 0, 120, 10⟩ [topFrame ⟨0, 0, 0, 0⟩] =
      ⟨(exec stRows envx).wrap (fun f => match f with | .next => (execs defs1 envx).wrap doneF (leaveH envx) id id | f => doneF f) (leaveH envx) id id, .body bd1 envx, ⟨120, 0, 120, 10⟩, [topFrame ⟨0, 0, 0, 0⟩]⟩ := by
      unfold restOf; rw [execs_cons_wrap]
      exact congrArg (fun x => (⟨x, _, _, _⟩ : Thread)) (Sem.wrap_congr _ _ _ (fun f => by cases f <;> rfl) (fun _ => rfl))
    rw [e]
    have := topRun_mono (5000 - n) _ _ _ _ this
    rwa [show n + (400 + 2) + (5000 - n) = 5000 + (400 + 2) by omega] at this
  have k3 := piece_app (segRun_of (segC w os ⟨0, 0, 0, 0⟩ bd1)) (piece_app (segRun_of (segD w os ⟨0, 0, 0, 0⟩ bd1)) (piece_app (segRun_of (segA w os ⟨0, 0, 0, 0⟩ bd1)) k2))
  rw [← bd1_is] at k3
  exact go_top (pre_run w os) (piece_block (block_run w os) k3)
end
set_option Elab.async false
set_option autoImplicit true
set_option linter.unusedVariables false
set_option maxRecDepth 100000
noncomputable def vwx : Program := { pwx with main := { pwx.main with body := match pwx.main.body with
  | [a, _, b, c, d, _, e, f, g, h, i, j] => [a, b, c, d, e, f, g, h, i, j]
  | _ => [] } }
def loosex : List Str := [Str.ofString "HTMLUnicodeInputStream", Str.ofString "_law_ROWS"]
noncomputable def objx (P : Params) : List Obj := (lxF P).set 139 (setX P)
/-- what the walk knows of the top -/
noncomputable def fgx (P : Params) : Frag := ax.map fun a => (a, ((objx P)[a]?).getD default)
theorem fgx_as (P : Params) : ax = (fgx P).map (·.1) := by kernel_rfl
theorem size_x (w : World) : ((boot_heap w.params).isNs mainGlobals && (⟨[]⟩ : Array GenState).size == 0, (boot_heap w.params).objs.size, (boot_heap w.params).nsMap mainGlobals "__annotations__") = (true, 11, ann6) := by kernel_rfl
theorem open_x : ∀ w : World, (fencedOpening treeTable pwx w 7000).map (fun s => (s.heap, s.gens, s.drawn, s.toks)) = some (boot_heap w.params, Array.mk [], boot_drawn, boot_toks) :=
  boot_open (by kernel_rfl) rfl (fun s => by kernel_rfl)
section
variable (w : World) (os : OsState)
noncomputable def hpx (P : Params) : Heap := absHeap (trF P (setX P)) 168 {}
noncomputable abbrev sx (w : World) (os : OsState) : Shared := ⟨hpx w.params, ⟨[]⟩, {}, 417, os⟩
theorem abs_eq (T : BT) (n k : Nat) (os : OsState) : (stt T n k os).abs = ⟨absHeap T n {}, ⟨[]⟩, {}, k, os⟩ := rfl
theorem top_x : topRun treeTable pwx w 11 ann6 (12 + (1 + (400 + (700 + (50 + (5000 + (400 + 2))))))) ⟨boot_heap w.params, ⟨[]⟩, boot_drawn, boot_toks, os⟩ (topStub pwx) = some (sx w os) := by
  have h := top_run w os
  rw [abs_eq] at h
  unfold sx hpx
  exact h
theorem look1 : (staticsOk (importedModules pwx.main.body) (boot_heap w.params) (hpx w.params) && namesBound pwx (hpx w.params) && gensDone (sx w os) && laidKept (boot_heap w.params) (hpx w.params)) = true := by kernel_rfl
theorem look3 : ax.map (sx w os).heap.get? = (fgx w.params).map fun p => some p.2 := by kernel_rfl
noncomputable def xtx (s : Shared) : Bool := xlAt vwx [] s && recOk [] s
theorem look2 : openSeen vwx loosex (importedModules pwx.main.body) xtx true (sx w os) = openGood vwx loosex := by kernel_rfl
noncomputable abbrev hkx : Hook := kHook fgx ax fgx_as
theorem left_x : LeftO pwx vwx loosex xtx hkx.obs hkx.val 7000 :=
  LeftO.of_pieces (H₀ := boot_heap) (H₁ := hpx) (gs₀ := ⟨[]⟩) (gs₁ := ⟨[]⟩) (d₀ := boot_drawn) (d₁ := {}) (k₀ := boot_toks) (k₁ := 417) (m₀ := 11) (ann := ann6) open_x size_x top_x (by decide)
    fun w => funext fun os => Prod.ext (look1 w os) (Prod.ext (look2 w os) (look3 w os))
end
set_option Elab.async false
set_option autoImplicit true
set_option linter.unusedVariables false
set_option maxRecDepth 20000
theorem n1_of {α} {l : List α} (h : l.length = 1) : ∃ a, l = [a] := by
  rcases l with _ | ⟨a, _ | ⟨b, l⟩⟩ <;> first | exact ⟨_, rfl⟩ | cases h
theorem n2_of {α} {l : List α} (h : l.length = 2) : ∃ a b, l = [a, b] := by
  rcases l with _ | ⟨a, _ | ⟨b, _ | ⟨d, l⟩⟩⟩ <;> first | exact ⟨_, _, rfl⟩ | cases h
theorem n3_of {α} {l : List α} (h : l.length = 3) : ∃ a b d, l = [a, b, d] := by
  rcases l with _ | ⟨a, _ | ⟨b, _ | ⟨d, _ | ⟨e, l⟩⟩⟩⟩ <;> first | exact ⟨_, _, _, rfl⟩ | cases h
theorem FnOk.of1 {G : Cfg} {K : Frag} {f : Addr} {p1 : Str} {body : List Stmt} {scope : Scope} {oc : Value} {od : Option Addr} {osl : Array (Option Value)} {name qual : Str} {params : Arguments} {defaults kwd doc pym code clt : Value} {ann : Option Addr}
    (dv : List Value) (dn : List Str) (hK : G.K = K) (h : K.lookup f = some ⟨oc, od, .func ⟨name, qual, params, .stmts body, scope, mainGlobals, [], defaults, kwd, doc, pym, ann, code, clt, builtinsNs⟩, osl⟩)
    (hb : ∀ S a, peek K S (bindArgs ⟨name, qual, params, .stmts body, scope, mainGlobals, [], defaults, kwd, doc, pym, ann, code, clt, builtinsNs⟩ ⟨[a], []⟩) = some (([p1] ++ dn).zip ([a] ++ dv))) (hl : dn.length = dv.length) (h6 : codeIn K code qual = true)
    (co : scope.isCoroutine = false) (gen : scope.isGenerator = false) (cell : ∀ x ∈ scope.names, x.2 ≠ .cell) : FnOk G f 1 ([p1] ++ dn) dv body scope :=
  ⟨⟨oc, od, osl, _, hK ▸ h, rfl, rfl, rfl, rfl, rfl, hK ▸ h6, fun S avs hl => by obtain ⟨a, rfl⟩ := n1_of hl; exact hK ▸ hb S a⟩, co, gen, cell, by simp [hl]; omega⟩
theorem FnOk.of2 {G : Cfg} {K : Frag} {f : Addr} {p1 p2 : Str} {body : List Stmt} {scope : Scope} {oc : Value} {od : Option Addr} {osl : Array (Option Value)} {name qual : Str} {params : Arguments} {defaults kwd doc pym code clt : Value} {ann : Option Addr}
    (dv : List Value) (dn : List Str) (hK : G.K = K) (h : K.lookup f = some ⟨oc, od, .func ⟨name, qual, params, .stmts body, scope, mainGlobals, [], defaults, kwd, doc, pym, ann, code, clt, builtinsNs⟩, osl⟩)
    (hb : ∀ S a b, peek K S (bindArgs ⟨name, qual, params, .stmts body, scope, mainGlobals, [], defaults, kwd, doc, pym, ann, code, clt, builtinsNs⟩ ⟨[a, b], []⟩) = some (([p1, p2] ++ dn).zip ([a, b] ++ dv))) (hl : dn.length = dv.length) (h6 : codeIn K code qual = true)
    (co : scope.isCoroutine = false) (gen : scope.isGenerator = false) (cell : ∀ x ∈ scope.names, x.2 ≠ .cell) : FnOk G f 2 ([p1, p2] ++ dn) dv body scope :=
  ⟨⟨oc, od, osl, _, hK ▸ h, rfl, rfl, rfl, rfl, rfl, hK ▸ h6, fun S avs hl => by obtain ⟨a, b, rfl⟩ := n2_of hl; exact hK ▸ hb S a b⟩, co, gen, cell, by simp [hl]; omega⟩
theorem FnOk.of3 {G : Cfg} {K : Frag} {f : Addr} {p1 p2 p3 : Str} {body : List Stmt} {scope : Scope} {oc : Value} {od : Option Addr} {osl : Array (Option Value)} {name qual : Str} {params : Arguments} {defaults kwd doc pym code clt : Value} {ann : Option Addr}
    (dv : List Value) (dn : List Str) (hK : G.K = K) (h : K.lookup f = some ⟨oc, od, .func ⟨name, qual, params, .stmts body, scope, mainGlobals, [], defaults, kwd, doc, pym, ann, code, clt, builtinsNs⟩, osl⟩)
    (hb : ∀ S a b d, peek K S (bindArgs ⟨name, qual, params, .stmts body, scope, mainGlobals, [], defaults, kwd, doc, pym, ann, code, clt, builtinsNs⟩ ⟨[a, b, d], []⟩) = some (([p1, p2, p3] ++ dn).zip ([a, b, d] ++ dv))) (hl : dn.length = dv.length) (h6 : codeIn K code qual = true)
    (co : scope.isCoroutine = false) (gen : scope.isGenerator = false) (cell : ∀ x ∈ scope.names, x.2 ≠ .cell) : FnOk G f 3 ([p1, p2, p3] ++ dn) dv body scope :=
  ⟨⟨oc, od, osl, _, hK ▸ h, rfl, rfl, rfl, rfl, rfl, hK ▸ h6, fun S avs hl => by obtain ⟨a, b, d, rfl⟩ := n3_of hl; exact hK ▸ hb S a b d⟩, co, gen, cell, by simp [hl]; omega⟩
def sks : List Str := ["reportCharacterErrors", "newLines", "dataStream", "chunk", "chunkSize", "chunkOffset", "errors", "prevNumLines", "prevNumCols", "_bufferedCharacter"]
def tks : List Str := ["text", "place"]
theorem Cls.of {G : Cfg} {K : Frag} {C : Addr} {ks : List Str} (hK : G.K = K) (ga : findIn K (.ref C) "__getattribute__" = some (some (.builtin "object.__getattribute__"))) (gt : findIn K (.ref C) "__getattr__" = some none)
    (sa : findIn K (.ref C) "__setattr__" = some (some (.builtin "object.__setattr__"))) (po : plainOver K C = true) (hd : hasDictIn K C = true) (free : ∀ x ∈ ks, findIn K (.ref C) x = some none) : Cls G C ks := by
  subst hK; exact ⟨ga, gt, sa, po, hd, free⟩
section
variable {G : Cfg} {P : Params}
theorem cls_S (hK : G.K = fgx P) : Cls G 131 sks := Cls.of hK (by kernel_rfl) (by kernel_rfl) (by kernel_rfl) (by kernel_rfl) (by kernel_rfl) (by
  intro x hx
  simp only [sks, List.mem_cons, List.not_mem_nil, or_false] at hx
  rcases hx with rfl | rfl | rfl | rfl | rfl | rfl | rfl | rfl | rfl | rfl <;> kernel_rfl)
theorem cls_T (hK : G.K = fgx P) : Cls G 38 tks := Cls.of hK (by kernel_rfl) (by kernel_rfl) (by kernel_rfl) (by kernel_rfl) (by kernel_rfl) (by
  intro x hx
  simp only [tks, List.mem_cons, List.not_mem_nil, or_false] at hx
  rcases hx with rfl | rfl <;> kernel_rfl)
end
theorem Good.of {G : Cfg} {n n₀ : Nat} {scope : Scope} {names globs : List Str} (kind : scope.kind = .function) (nd : names.Nodup) (loc : ∀ x ∈ names, scope.names.lookup x = some .local ∨ scope.names.lookup x = some .cell) (glob : ∀ x ∈ globs, scope.names.lookup x = some .globalImplicit)
    (d1 : ("__debug__" : Str) ∉ names) (d2 : ("__debug__" : Str) ∉ globs) : (⟨G, n, n₀, scope, names, globs⟩ : Cx).Good := ⟨kind, nd, loc, glob, d1, d2⟩
section
variable {c : Cx} {σ : St}
theorem TArgs_nil {Q : List V → St → Prop} (h : Q [] σ) : TArgs c [] σ Q := h
theorem TArgs_cons {e : Expr} {r : List Expr} {Q : List V → St → Prop} (h : TE c e σ fun v σ₁ => TArgs c r σ₁ fun vs σ₂ => Q (v :: vs) σ₂) : TArgs c (e :: r) σ Q := h
theorem TAs_nil {Q : St → Prop} (h : Q σ) : TAs c [] [] σ Q := h
theorem TAs_cons {t : Expr} {ts : List Expr} {d : D} {ds : List D} {Q : St → Prop} (h : TA c t (.d d) σ fun σ₁ => TAs c ts ds σ₁ Q) : TAs c (t :: ts) (d :: ds) σ Q := h
theorem TPart_none {Q : Option Int → St → Prop} (h : Q none σ) : TPart c none σ Q := h
theorem TPart_some {e : Expr} {Q : Option Int → St → Prop} (h : TE c e σ fun v σ₁ => ∃ i, v = .d (.int i) ∧ Q (some i) σ₁) : TPart c (some e) σ Q := h
theorem s_n : Str.ofString "\n" = ⟨[10].toArray⟩ := by kernel_rfl
theorem s_r : Str.ofString "\r" = ⟨[13].toArray⟩ := by kernel_rfl
theorem s_rn : Str.ofString "\r\n" = ⟨[13, 10].toArray⟩ := by kernel_rfl
theorem s_e : Str.ofString "" = ⟨([] : List Nat).toArray⟩ := by kernel_rfl
/-- the word of an error -/
def bad : List Nat := (Str.ofString "invalid-codepoint").cps.toList
theorem s_bad : Str.ofString "invalid-codepoint" = ⟨bad.toArray⟩ := by simp [bad]
end
section
variable {G : Cfg} {P : Params}
theorem m_63 (hK : G.K = fgx P) : findIn G.K (.ref 131) "__init__" = some (some (.ref 63)) ∧ isFn G.K (.ref 63) = true ∧ keepIn G.K (.ref 63) = true := by rw [hK]; exact ⟨by kernel_rfl, by kernel_rfl, by kernel_rfl⟩
theorem m_70 (hK : G.K = fgx P) : findIn G.K (.ref 131) "reset" = some (some (.ref 70)) ∧ isFn G.K (.ref 70) = true ∧ keepIn G.K (.ref 70) = true := by rw [hK]; exact ⟨by kernel_rfl, by kernel_rfl, by kernel_rfl⟩
theorem m_77 (hK : G.K = fgx P) : findIn G.K (.ref 131) "openStream" = some (some (.ref 77)) ∧ isFn G.K (.ref 77) = true ∧ keepIn G.K (.ref 77) = true := by rw [hK]; exact ⟨by kernel_rfl, by kernel_rfl, by kernel_rfl⟩
theorem m_84 (hK : G.K = fgx P) : findIn G.K (.ref 131) "_position" = some (some (.ref 84)) ∧ isFn G.K (.ref 84) = true ∧ keepIn G.K (.ref 84) = true := by rw [hK]; exact ⟨by kernel_rfl, by kernel_rfl, by kernel_rfl⟩
theorem m_91 (hK : G.K = fgx P) : findIn G.K (.ref 131) "position" = some (some (.ref 91)) ∧ isFn G.K (.ref 91) = true ∧ keepIn G.K (.ref 91) = true := by rw [hK]; exact ⟨by kernel_rfl, by kernel_rfl, by kernel_rfl⟩
theorem m_98 (hK : G.K = fgx P) : findIn G.K (.ref 131) "char" = some (some (.ref 98)) ∧ isFn G.K (.ref 98) = true ∧ keepIn G.K (.ref 98) = true := by rw [hK]; exact ⟨by kernel_rfl, by kernel_rfl, by kernel_rfl⟩
theorem m_106 (hK : G.K = fgx P) : findIn G.K (.ref 131) "readChunk" = some (some (.ref 106)) ∧ isFn G.K (.ref 106) = true ∧ keepIn G.K (.ref 106) = true := by rw [hK]; exact ⟨by kernel_rfl, by kernel_rfl, by kernel_rfl⟩
theorem m_113 (hK : G.K = fgx P) : findIn G.K (.ref 131) "characterErrorsUCS4" = some (some (.ref 113)) ∧ isFn G.K (.ref 113) = true ∧ keepIn G.K (.ref 113) = true := by rw [hK]; exact ⟨by kernel_rfl, by kernel_rfl, by kernel_rfl⟩
theorem m_121 (hK : G.K = fgx P) : findIn G.K (.ref 131) "charsUntil" = some (some (.ref 121)) ∧ isFn G.K (.ref 121) = true ∧ keepIn G.K (.ref 121) = true := by rw [hK]; exact ⟨by kernel_rfl, by kernel_rfl, by kernel_rfl⟩
theorem m_128 (hK : G.K = fgx P) : findIn G.K (.ref 131) "unget" = some (some (.ref 128)) ∧ isFn G.K (.ref 128) = true ∧ keepIn G.K (.ref 128) = true := by rw [hK]; exact ⟨by kernel_rfl, by kernel_rfl, by kernel_rfl⟩
theorem m_28 (hK : G.K = fgx P) : findIn G.K (.ref 38) "__init__" = some (some (.ref 28)) ∧ isFn G.K (.ref 28) = true ∧ keepIn G.K (.ref 28) = true := by rw [hK]; exact ⟨by kernel_rfl, by kernel_rfl, by kernel_rfl⟩
theorem m_35 (hK : G.K = fgx P) : findIn G.K (.ref 38) "read" = some (some (.ref 35)) ∧ isFn G.K (.ref 35) = true ∧ keepIn G.K (.ref 35) = true := by rw [hK]; exact ⟨by kernel_rfl, by kernel_rfl, by kernel_rfl⟩
end
section
variable {G : Cfg} {P : Params}
theorem Cls.sub {C : Addr} {ks ks' : List Str} (cl : Cls G C ks) (h : ∀ x ∈ ks', x ∈ ks) : Cls G C ks' := ⟨cl.ga, cl.gt, cl.sa, cl.po, cl.hd, fun x hx => cl.free x (h x hx)⟩
theorem g_len (hK : G.K = fgx P) : GlobIs G "len" (.builtin "len") := .inr ⟨by rw [hK]; kernel_rfl, by decide +kernel, by kernel_rfl⟩
theorem g_ord (hK : G.K = fgx P) : GlobIs G "ord" (.builtin "ord") := .inr ⟨by rw [hK]; kernel_rfl, by decide +kernel, by kernel_rfl⟩
theorem g_chr (hK : G.K = fgx P) : GlobIs G "chr" (.builtin "chr") := .inr ⟨by rw [hK]; kernel_rfl, by decide +kernel, by kernel_rfl⟩
theorem g_min (hK : G.K = fgx P) : GlobIs G "min" (.builtin "min") := .inr ⟨by rw [hK]; kernel_rfl, by decide +kernel, by kernel_rfl⟩
theorem g_enumerate (hK : G.K = fgx P) : GlobIs G "enumerate" (.type "enumerate") := .inr ⟨by rw [hK]; kernel_rfl, by decide +kernel, by kernel_rfl⟩
theorem g_38 (hK : G.K = fgx P) : GlobIs G "Text" (.ref 38) := .inl (by rw [hK]; kernel_rfl)
theorem g_49 (hK : G.K = fgx P) : GlobIs G "_is_invalid" (.ref 49) := .inl (by rw [hK]; kernel_rfl)
theorem g_131 (hK : G.K = fgx P) : GlobIs G "HTMLUnicodeInputStream" (.ref 131) := .inl (by rw [hK]; kernel_rfl)
theorem g_EOF (hK : G.K = fgx P) : GlobIs G "EOF" .none := .inl (by rw [hK]; kernel_rfl)
theorem g_SIGNS (hK : G.K = fgx P) : GlobIs G "_law_SIGNS" (.str ⟨[97, 13, 10, 13, 38, 98, 10, 32, 0, 1, 12].toArray⟩ 364) := .inl (by rw [hK]; kernel_rfl)
theorem g_141 (hK : G.K = fgx P) : GlobIs G "_law_ROWS" (.ref 141) := .inl (by rw [hK]; kernel_rfl)
theorem g_148 (hK : G.K = fgx P) : GlobIs G "_law_sign" (.ref 148) := .inl (by rw [hK]; kernel_rfl)
theorem g_155 (hK : G.K = fgx P) : GlobIs G "_law_faulty" (.ref 155) := .inl (by rw [hK]; kernel_rfl)
theorem g_162 (hK : G.K = fgx P) : GlobIs G "_law_more" (.ref 162) := .inl (by rw [hK]; kernel_rfl)
theorem g_isinstance (hK : G.K = fgx P) : GlobIs G "isinstance" (.builtin "isinstance") := .inr ⟨by rw [hK]; kernel_rfl, by decide +kernel, by kernel_rfl⟩
theorem g_bool (hK : G.K = fgx P) : GlobIs G "bool" (.type "bool") := .inr ⟨by rw [hK]; kernel_rfl, by decide +kernel, by kernel_rfl⟩
theorem g_range (hK : G.K = fgx P) : GlobIs G "range" (.type "range") := .inr ⟨by rw [hK]; kernel_rfl, by decide +kernel, by kernel_rfl⟩
theorem k_148 (hK : G.K = fgx P) : keepIn G.K (.ref 148) = true := by rw [hK]; kernel_rfl
theorem k_155 (hK : G.K = fgx P) : keepIn G.K (.ref 155) = true := by rw [hK]; kernel_rfl
theorem k_162 (hK : G.K = fgx P) : keepIn G.K (.ref 162) = true := by rw [hK]; kernel_rfl
theorem k_70 (hK : G.K = fgx P) : keepIn G.K (.ref 70) = true := (m_70 hK).2.2
theorem k_77 (hK : G.K = fgx P) : keepIn G.K (.ref 77) = true := (m_77 hK).2.2
theorem k_84 (hK : G.K = fgx P) : keepIn G.K (.ref 84) = true := (m_84 hK).2.2
theorem k_91 (hK : G.K = fgx P) : keepIn G.K (.ref 91) = true := (m_91 hK).2.2
theorem k_98 (hK : G.K = fgx P) : keepIn G.K (.ref 98) = true := (m_98 hK).2.2
theorem k_106 (hK : G.K = fgx P) : keepIn G.K (.ref 106) = true := (m_106 hK).2.2
theorem k_121 (hK : G.K = fgx P) : keepIn G.K (.ref 121) = true := (m_121 hK).2.2
theorem k_128 (hK : G.K = fgx P) : keepIn G.K (.ref 128) = true := (m_128 hK).2.2
theorem k_35 (hK : G.K = fgx P) : keepIn G.K (.ref 35) = true := (m_35 hK).2.2
theorem k_38 (hK : G.K = fgx P) : keepIn G.K (.ref 38) = true := by rw [hK]; kernel_rfl
theorem k_49 (hK : G.K = fgx P) : keepIn G.K (.ref 49) = true := by rw [hK]; kernel_rfl
theorem k_131 (hK : G.K = fgx P) : keepIn G.K (.ref 131) = true := by rw [hK]; kernel_rfl
end
theorem set_at {α} {l : List α} {k : Nat} {x y : α} (h : l[k]? = some y) : (l.set k x)[k]? = some x := List.getElem?_set_self (List.getElem?_eq_some_iff.mp h).1
theorem set_ne {α} {l : List α} {j k : Nat} {x y : α} (hne : j ≠ k) (h : l[k]? = some y) : (l.set j x)[k]? = some y := by rw [List.getElem?_set_ne hne]; exact h
theorem app_l {α} {l m : List α} {k : Nat} {y : α} (h : l[k]? = some y) : (l ++ m)[k]? = some y := by rw [List.getElem?_append_left (List.getElem?_eq_some_iff.mp h).1]; exact h
theorem app_new {α} {l : List α} {x : α} : (l ++ [x])[l.length]? = some x := by simp
def svs (k kN kT kE : Nat) (chunk : List Nat) (sz off pl pc : Int) (buf : D) : List V := [.meth 113 k, .obj kN, .obj kT, .d (.str chunk), .d (.int sz), .d (.int off), .obj kE, .d (.int pl), .d (.int pc), .d buf]
section
variable {c : Cx} {σ : St} {Q : V → St → Prop}
theorem TA_name' {x : Str} {pos : Pos} {v : V} {l loc' : List (Option V)} {os : List O} {Q : St → Prop} (h : LocSet c.names l x v loc') (q : Q ⟨loc', os⟩) : TA c (.Name x pos) v ⟨l, os⟩ Q := TA_name h q
theorem TE_name' {x : Str} {pos : Pos} {v : V} {l : List (Option V)} {os : List O} (hv : Loc c.names l x v) (q : Q v ⟨l, os⟩) (hc : isCel v = false := by first | with_unfolding_all rfl | assumption) : TE c (.Name x pos) ⟨l, os⟩ Q := TE_name hv q hc
theorem TGet_o' {k C ks vs x v} {l : List (Option V)} {os : List O} (ho : os[k]? = some (.inst C ks vs)) (cl : Cls c.G C ks) (hv : Fld ks vs x v) (hx : ∀ y, v ≠ .val y) (q : Q v ⟨l, os⟩) : TGet c (.obj k) x ⟨l, os⟩ Q := TGet_own cl ho hv hx q
theorem TSetA_o' {k C ks vs x v vs'} {l : List (Option V)} {os : List O} {Q : St → Prop} (ho : os[k]? = some (.inst C ks vs)) (cl : Cls c.G C ks) (hv : FldSet ks vs x v vs') (q : Q ⟨l, os.set k (.inst C ks vs')⟩) (hz : ks.length ≤ 100 := by decide) : TSetA c (.obj k) x v ⟨l, os⟩ Q := TSetA_old cl ho hv q hz
theorem TMeth_o {k C ks vs x f} {Q : V → List V → St → Prop} {l : List (Option V)} {os : List O} (ho : os[k]? = some (.inst C ks vs)) (cl : Cls c.G C ks) (hx : x ∉ ks) (hf : findIn c.G.K (.ref C) x = some (some (.ref f)) ∧ isFn c.G.K (.ref f) = true ∧ keepIn c.G.K (.ref f) = true)
    (q : Q (.val (.ref f)) [.obj k] ⟨l, os⟩) : TMeth c (.obj k) x ⟨l, os⟩ Q := TMeth_fn cl ho hx hf.1 hf.2.1 q
theorem TSetA_n {k C ks vs x v} {l : List (Option V)} {os : List O} {Q : St → Prop} (ho : os[k]? = some (.inst C ks vs)) (cl : Cls c.G C (ks ++ [x])) (hx : x ∉ ks) (q : Q ⟨l, os.set k (.inst C (ks ++ [x]) (vs ++ [v]))⟩) (hz : ks.length ≤ 100 := by decide) : TSetA c (.obj k) x v ⟨l, os⟩ Q := TSetA_new cl ho hx q hz
theorem TE_globv {x : Str} {pos : Pos} {val : Value} {l : List (Option V)} {os : List O} (hx : x ∈ c.globs) (hg : GlobIs c.G x val) (q : Q (.val val) ⟨l, os⟩) : TE c (.Name x pos) ⟨l, os⟩ Q := TE_glob (v := .val val) hx hg (fun _ _ => rfl) q
theorem TE_globd {x : Str} {pos : Pos} {val : Value} {d : D} {l : List (Option V)} {os : List O} (hx : x ∈ c.globs) (hg : GlobIs c.G x val) (hr : ∀ h, DR h d val) (q : Q (.d d) ⟨l, os⟩) : TE c (.Name x pos) ⟨l, os⟩ Q := TE_glob (v := .d d) hx hg (fun _ h => hr h) q
/-- a call's end: nothing new is kept -/
theorem Rt_same {v : V} {σ' : St} (hv : okV σ.objs.length v = true) (hO : σ.objs.all (okO σ.objs.length) = true) {t : List O} (e : σ'.objs = σ.objs ++ t) (q : Q v σ) : Rt σ Q (.ret v) σ' := ⟨σ.objs, ⟨⟨t, e⟩, Nat.le_refl _, hO, hv⟩, q⟩
theorem Rt_set {v : V} {σ' : St} {os : List O} {t : List O} (e : σ'.objs = os ++ t) (hl : σ.objs.length = os.length) (hv : okV os.length v = true) (hO : os.all (okO os.length) = true) (q : Q v ⟨σ.loc, os⟩) : Rt σ Q (.ret v) σ' := ⟨os, ⟨⟨t, e⟩, Nat.le_of_eq hl, hO, hv⟩, q⟩
end
theorem okO_set {os : List O} {k : Nat} {o : O} (h : os.all (okO os.length) = true) (ho : okO os.length o = true) : (os.set k o).all (okO (os.set k o).length) = true := by
  rw [List.length_set, List.all_eq_true] at *
  intro x hx
  rcases List.mem_or_eq_of_mem_set hx with hx | rfl
  · exact h x hx
  · exact ho
theorem okO_get {os : List O} {k : Nat} {o : O} (h : os.all (okO os.length) = true) (e : os[k]? = some o) : okO os.length o = true := List.all_eq_true.mp h o (List.mem_of_getElem? e)
/-- where a place stands -/
def posL (chunk : List Nat) (j : Int) (pl : Int) : Int := pl + ((chunk.take j.toNat).count 10 : Nat)
def posC (chunk : List Nat) (j : Int) (pc : Int) : Int := match lastIx 10 (chunk.take j.toNat) with | some i => j - (i + 1) | none => pc + j
set_option Elab.async false
set_option autoImplicit true
set_option linter.unusedVariables false
set_option maxRecDepth 20000
/-! law's text, by its places -/
noncomputable def lawB : List Stmt := match stAt [11] with
  | .FunctionDef _ _ body _ _ _ _ _ _ _ => body
  | _ => []
noncomputable def lawS : Scope := match stAt [11] with
  | .FunctionDef _ _ _ _ _ _ scope _ _ _ => scope
  | _ => default
noncomputable def forB : Option Stmt → List Stmt
  | some (.For _ _ body _ _) => body
  | _ => []
noncomputable def turnB : List Stmt := forB lawB[9]?
theorem part_of {o : Option Stmt} {a st : Stmt} {P : Stmt → Prop} (e : o = some a) (h : o = some st) (p : P a) : P st := by rw [e] at h; cases h; exact p
def lawG : List Str := ["enumerate", "len", "_law_faulty", "ord", "HTMLUnicodeInputStream", "isinstance", "bool", "_law_more", "_law_ROWS", "min", "range"]
def lawN : List Str := ["script", "numbers", "n", "text", "kept", "count", "told", "spots", "place", "sign", "line", "column", "stream", "state", "start", "fresh", "deed", "size", "came", "due", "row", "end"]
theorem cell_kept : lawS.names.lookup ("kept" : Str) = some NameKind.cell := by decide +kernel
theorem cell_deed : lawS.names.lookup ("deed" : Str) = some NameKind.cell := by decide +kernel
theorem cell_row : lawS.names.lookup ("row" : Str) = some NameKind.cell := by decide +kernel
theorem law_good (G : Cfg) (n n₀ : Nat) : (⟨G, n, n₀, lawS, lawN, lawG⟩ : Cx).Good := Good.of (by decide +kernel) (by decide +kernel) (by decide +kernel) (by decide +kernel) (by decide +kernel) (by decide +kernel)
section
variable {c : Cx}
theorem TE_cell' {x : Str} {pos : Pos} {k : Nat} {v : V} {l : List (Option V)} {os : List O} {Q : V → St → Prop} (hv : Loc c.names l x (.cel k)) (ho : os[k]? = some (.cell (some v))) (hx : c.scope.names.lookup x = some .cell) (q : Q v ⟨l, os⟩) : TE c (.Name x pos) ⟨l, os⟩ Q := TE_cell hv ho q hx
theorem TA_cell' {x : Str} {pos : Pos} {k : Nat} {ov : Option V} {v : V} {l : List (Option V)} {os : List O} {Q : St → Prop} (hv : Loc c.names l x (.cel k)) (ho : os[k]? = some (.cell ov)) (hx : c.scope.names.lookup x = some .cell) (q : Q ⟨l, os.set k (.cell (some v))⟩) : TA c (.Name x pos) v ⟨l, os⟩ Q := TA_cell hv ho q hx
end
set_option Elab.async false
set_option autoImplicit true
set_option linter.unusedVariables false
set_option maxRecDepth 20000
set_option compiler.extract_closed false
local macro_rules | `(tactic| walk_at "tg") => `(tactic| exact Good.of rfl (by decide +kernel) (by decide +kernel) (by decide +kernel) (by decide +kernel) (by decide +kernel))
local macro_rules | `(tactic| walk_at "tz") => `(tactic| first | exact Loc.head | exact LocSet.head | exact Fld.head | exact FldSet.head | (apply Loc.tail; walk_at "tz") | (apply LocSet.tail; walk_at "tz") | (apply Fld.tail; walk_at "tz") | (apply FldSet.tail; walk_at "tz"))
local macro_rules | `(tactic| walk_at "tl") => `(tactic| (dsimp only [List.map, List.append, List.cons_append, List.nil_append, sks, tks, svs]; with_reducible walk_at "tz"))
local macro_rules | `(tactic| walk_at "to") => `(tactic| first | assumption | with_reducible exact app_new | (with_reducible refine set_at (by walk_at "to")) | (with_reducible refine set_ne (by first | assumption | omega) (by walk_at "to")) | (with_reducible refine app_l (by walk_at "to")) | rfl)
local macro_rules | `(tactic| walk_at "tc") => `(tactic| with_reducible (first | exact cell_kept | exact cell_deed | exact cell_row | assumption))
local macro_rules | `(tactic| walk_at "tm") => `(tactic| ((with_reducible first | apply m_63 | apply m_70 | apply m_77 | apply m_84 | apply m_91 | apply m_98 | apply m_106 | apply m_113 | apply m_121 | apply m_128 | apply m_28 | apply m_35) ; assumption))
local macro_rules | `(tactic| walk_at "tk") => `(tactic| ((with_reducible first | apply k_38 | apply k_49 | apply k_131 | apply k_148 | apply k_155 | apply k_162 | apply k_63 | apply k_70 | apply k_77 | apply k_84 | apply k_91 | apply k_98 | apply k_106 | apply k_113 | apply k_121 | apply k_128 | apply k_28 | apply k_35) ; assumption))
local macro_rules | `(tactic| walk_at "tb") => `(tactic| ((with_reducible first | apply g_len | apply g_ord | apply g_chr | apply g_min | apply g_enumerate | apply g_38 | apply g_49 | apply g_131 | apply g_141 | apply g_148 | apply g_155 | apply g_162 | apply g_isinstance | apply g_bool | apply g_range) ; assumption))
local macro_rules | `(tactic| walk_at "ts") => `(tactic| first
  | (with_reducible first | refine TB_cons ?_ | refine TB_nil ?_ | refine Nx_next ?_ | refine Nx_brk ?_ | refine Nx_ret ?_ | refine TS_ret ?_ | refine TS_break ?_ | refine TS_if ?_ | refine TS_augA ?_ | refine TE_int ?_ | refine TE_none ?_ | refine TE_bool ?_ | refine TE_bin ?_ | refine TE_neg ?_ | refine TE_if ?_ | refine TE_slice ?_ | refine TE_cmp ?_ | refine TT_cmp ?_ | refine TT_cmp2 ?_ | refine TT_not ?_ | refine TT_and ?_ | refine TT_and0 ?_ | refine TT_or ?_ | refine TT_or0 ?_ | refine TA_attr ?_ | refine TArgs_cons ?_ | refine TArgs_nil ?_ | refine TAs_cons ?_ | refine TAs_nil ?_ | refine TPart_none ?_ | refine TPart_some ?_ | refine TBin_add ?_ | refine TBin_sub ?_ | refine TInp_add ?_ | refine TC_lt ?_ | refine TC_le ?_ | refine TC_gt ?_ | refine TC_ge ?_ | refine TC_eq ?_ | refine TC_ne ?_ | refine TTr_bool ?_)
  | ((with_reducible show TS _ _ _ _); first | refine TS_assign ?_ | refine TS_assign2 ?_ | refine TS_expr ?_ | refine TS_aug (by walk_at "tl") ?_)
  | ((with_reducible show TE _ (Expr.Name _ _) _ _); first | refine TE_name' (by walk_at "tl") ?_ | refine TE_cell' (by walk_at "tl") (by walk_at "to") (by walk_at "tc") ?_ | refine TE_globv (by dsimp only; decide +kernel) (by walk_at "tb") ?_ | refine TE_globd (d := .none) (by dsimp only; decide +kernel) (by exact g_EOF (by assumption)) (fun _ => DR.none) ?_ | refine TE_globd (d := .str [97, 13, 10, 13, 38, 98, 10, 32, 0, 1, 12]) (by dsimp only; decide +kernel) (by exact g_SIGNS (by assumption)) (fun _ => DR.str _ _) ?_)
  | ((with_reducible show TE _ _ _ _); first | (with_reducible first | refine TE_str s_n ?_ | refine TE_str s_r ?_ | refine TE_str s_rn ?_ | refine TE_str s_e ?_ | refine TE_str s_bad ?_) | refine TE_meth ?_ | refine TE_call ?_ | refine TE_attr ?_ | refine TE_sub ?_ | refine TE_list ?_ | refine TE_tuple ?_)
  | ((with_reducible show TT _ _ _ _); refine TT_plain ?_)
  | ((with_reducible show TA _ _ _ _ _); first | refine TA_name' (by walk_at "tl") ?_ | refine TA_cell' (by walk_at "tl") (by walk_at "to") (by walk_at "tc") ?_ | refine TA_tup ?_ rfl)
  | ((with_reducible show TKeep _ _ ∧ _); first | refine ⟨TKeep_b, ?_⟩ | refine ⟨TKeep_K (by walk_at "tk"), ?_⟩)
  | ((with_reducible show ∃ i, V.d (D.int _) = V.d (D.int i) ∧ _); refine ⟨_, rfl, ?_⟩)
  | ((with_reducible show TGet _ (V.obj _) _ _ _); refine TGet_o' (by walk_at "to") (by assumption) (by walk_at "tl") (by intro _ h; cases h) ?_)
  | ((with_reducible show TSetA _ (V.obj _) _ _ _ _); first | refine TSetA_o' (by walk_at "to") (by assumption) (by walk_at "tl") ?_ | refine TSetA_n (by walk_at "to") (by first | exact Cls.sub (ks := sks) (by assumption) (by decide +kernel) | exact Cls.sub (ks := tks) (by assumption) (by decide +kernel)) (by decide +kernel) ?_)
  | ((with_reducible show TMeth _ _ _ _ _); first | refine TMeth_str F.slot_str_count rfl ?_ | refine TMeth_str F.slot_str_rfind rfl ?_ | refine TMeth_str F.slot_str_join rfl ?_ | refine TMeth_o (by walk_at "to") (by assumption) (by decide +kernel) (by walk_at "tm") ?_)
  | ((with_reducible show ∃ l, LocSet _ _ _ _ l ∧ _); refine ⟨_, by walk_at "tl", ?_⟩; dsimp only)
  | ((with_reducible show ∃ ds, _ = List.map V.d ds ∧ _ ∧ _); first | refine ⟨[_, _], rfl, Nat.le_of_ble_eq_true rfl, ?_⟩ | refine ⟨[_], rfl, Nat.le_of_ble_eq_true rfl, ?_⟩ | refine ⟨[], rfl, Nat.le_of_ble_eq_true rfl, ?_⟩))
section
variable {c : Cx} {σ : St} {Q : V → St → Prop} {P : Params} {n : Nat}
theorem c_position (hK : c.G.K = fgx P) (hn : c.n = n + 1) {k kN kT kE : Nat} {chunk : List Nat} {sz off pl pc : Int} {buf : D} {j : Int} (ho : σ.objs[k]? = some (.inst 131 sks (svs k kN kT kE chunk sz off pl pc buf)))
    (hO : σ.objs.all (okO σ.objs.length) = true) (h0 : 0 ≤ j) (h1 : j ≤ chunk.length) (q : Q (.d (.tup [.int (posL chunk j pl), .int (posC chunk j pc)])) σ) : TCallC c (.val (.ref 84)) [.obj k, .d (.int j)] σ Q := by
  refine TCallC_fn (n := n) (names := ["self", "offset", "chunk", "nLines", "positionLine", "lastLinePos", "positionColumn"]) (globs := []) (rest := ["chunk", "nLines", "positionLine", "lastLinePos", "positionColumn"]) (ds := []) (FnOk.of2 (p1 := "self") (p2 := "offset") [] [] hK rfl (fun _ _ _ => rfl) rfl (by kernel_rfl) rfl rfl (by decide)) hn rfl (fun _ _ => VRs.nil) rfl (by walk_at "tg") ?_
  have cS : Cls c.G 131 sks := cls_S hK
  repeat walk_at "ts"
  refine TCall_count4 h0 h1 ?_
  repeat walk_at "ts"
  refine TCall_rfind4 h0 h1 ?_
  repeat walk_at "ts"
  cases hl : lastIx 10 (chunk.take j.toNat) with
  | none =>
    rw [if_pos (by decide)]
    repeat walk_at "ts"
    refine Rt_same (by rfl) hO (t := []) (by simp) ?_
    have e1 : posC chunk j pc = pc + j := by rw [posC, hl]
    rw [e1] at q; exact q
  | some i =>
    rw [if_neg (by simp)]
    repeat walk_at "ts"
    refine Rt_same (by rfl) hO (t := []) (by simp) ?_
    have e1 : posC chunk j pc = j - (i + 1) := by rw [posC, hl]
    rw [e1] at q; exact q
theorem c_position1 (hK : c.G.K = fgx P) (hn : c.n = n + 1 + 1) {k kN kT kE : Nat} {chunk : List Nat} {sz off pl pc : Int} {buf : D} (ho : σ.objs[k]? = some (.inst 131 sks (svs k kN kT kE chunk sz off pl pc buf)))
    (hO : σ.objs.all (okO σ.objs.length) = true) (h0 : 0 ≤ off) (h1 : off ≤ chunk.length) (q : Q (.d (.tup [.int (posL chunk off pl + 1), .int (posC chunk off pc)])) σ) : TCallC c (.val (.ref 91)) [.obj k] σ Q := by
  refine TCallC_fn (n := n + 1) (names := ["self", "line", "col"]) (globs := []) (rest := ["line", "col"]) (ds := []) (FnOk.of1 (p1 := "self") [] [] hK rfl (fun _ _ => rfl) rfl (by kernel_rfl) rfl rfl (by decide)) hn rfl (fun _ _ => VRs.nil) rfl (by walk_at "tg") ?_
  have cS : Cls c.G 131 sks := cls_S hK
  repeat walk_at "ts"
  refine TCall_of ?_
  refine c_position (by exact hK) rfl (by exact ho) (by exact hO) h0 h1 ?_
  repeat walk_at "ts"
  exact Rt_same (by rfl) hO (t := []) (by simp) q
/-! the text -/
theorem c_tinit (hK : c.G.K = fgx P) (hn : c.n = n + 1) {k : Nat} {text : List Nat} (ho : σ.objs[k]? = some (.inst 38 [] [])) (hO : σ.objs.all (okO σ.objs.length) = true)
    (q : Q (.d .none) ⟨σ.loc, σ.objs.set k (.inst 38 tks [.d (.str text), .d (.int 0)])⟩) : TCallC c (.val (.ref 28)) [.obj k, .d (.str text)] σ Q := by
  refine TCallC_fn (n := n) (names := ["self", "text"]) (globs := []) (rest := []) (ds := []) (FnOk.of2 (p1 := "self") (p2 := "text") [] [] hK rfl (fun _ _ _ => rfl) rfl (by kernel_rfl) rfl rfl (by decide)) hn rfl (fun _ _ => VRs.nil) rfl (by walk_at "tg") ?_
  have cT : Cls c.G 38 tks := cls_T hK
  repeat walk_at "ts"
  dsimp only [List.nil_append, List.cons_append]
  rw [List.set_set]
  refine ⟨σ.objs.set k (.inst 38 tks [.d (.str text), .d (.int 0)]), ⟨⟨[], by simp; rfl⟩, by simp, okO_set hO rfl, rfl⟩, q⟩
theorem c_read (hK : c.G.K = fgx P) (hn : c.n = n + 1) {k : Nat} {text : List Nat} {place size : Int} (ho : σ.objs[k]? = some (.inst 38 tks [.d (.str text), .d (.int place)])) (hO : σ.objs.all (okO σ.objs.length) = true) (hx : text.length ≤ 1000000)
    (q : Q (.d (.str (sl text (some place) (some (place + size))))) ⟨σ.loc, σ.objs.set k (.inst 38 tks [.d (.str text), .d (.int (place + (sl text (some place) (some (place + size))).length))])⟩) : TCallC c (.val (.ref 35)) [.obj k, .d (.int size)] σ Q := by
  refine TCallC_fn (n := n) (names := ["self", "size", "part"]) (globs := ["len"]) (rest := ["part"]) (ds := []) (FnOk.of2 (p1 := "self") (p2 := "size") [] [] hK rfl (fun _ _ _ => rfl) rfl (by kernel_rfl) rfl rfl (by decide)) hn rfl (fun _ _ => VRs.nil) rfl (by walk_at "tg") ?_
  have cT : Cls c.G 38 tks := cls_T hK
  repeat walk_at "ts"
  refine TSlc_str hx ?_
  repeat walk_at "ts"
  refine TCall_len_str (Nat.le_trans (sl_len ..) hx) ?_
  repeat walk_at "ts"
  exact Rt_set (t := []) (by simp) (by simp) (by rfl) (okO_set hO rfl) q
end
set_option Elab.async false
set_option autoImplicit true
set_option linter.unusedVariables false
set_option maxRecDepth 20000
section
variable {c : Cx} {σ : St} {Q : V → St → Prop} {P : Params} {n : Nat}
/-- a code point that is told of -/
def inval (p : Int) : Bool := (decide (1 ≤ p) && decide (p ≤ 8)) || decide (p = 11) || (decide (14 ≤ p) && decide (p ≤ 31)) || (decide (127 ≤ p) && decide (p ≤ 159)) || (decide (64976 ≤ p) && decide (p ≤ 65007)) || (decide (p % 65536 = 65534) || decide (p % 65536 = 65535)) || (decide (55296 ≤ p) && decide (p ≤ 57343))
theorem TE_mono {e : Expr} {Q Q' : V → St → Prop} (h : TE c e σ Q) (hq : ∀ v σ, Q v σ → Q' v σ) : TE c e σ Q' := fun A env ι s ok R =>
  wpAny_mono (h A env ι s ok R) (fun _ _ ⟨ι', v, σ', x, R', r, q⟩ => ⟨ι', v, σ', x, R', r, hq _ _ q⟩) fun _ _ x => x
/-- a chain of two, the first told by ≤ -/
theorem TE_chain {l r₁ r₂ : Expr} {op₂ : CmpOp} {pos : Pos} {Q : V → St → Prop} (f : Int → Int → Bool) {d : Int} (hf : ∀ b σ' QB, QB (f b d) σ' → TC c op₂ (.d (.int b)) (.d (.int d)) σ' QB)
    (h : TE c l σ fun a' σ₁ => TE c r₁ σ₁ fun b' σ₂ => ∃ a b, a' = .d (.int a) ∧ b' = .d (.int b) ∧ Q (.d (.bool (decide (a ≤ b) && f b d))) σ₂) (h2 : ∀ σ' (Q : V → St → Prop), Q (.d (.int d)) σ' → TE c r₂ σ' Q)
    (hm : lastMarks [.LtE, op₂] [r₁, r₂] = false := by with_unfolding_all rfl) : TE c (.Compare l [.LtE, op₂] [r₁, r₂] pos) σ Q := by
  refine TE_cmp2 (TE_mono h fun a' σ₁ h1 => TE_mono h1 fun b' σ₂ h2' => ?_) hm
  obtain ⟨a, b, rfl, rfl, q⟩ := h2'
  refine TC_le ?_
  cases hb : decide (a ≤ b)
  · rw [hb] at q; exact q
  · rw [hb, Bool.true_and] at q
    exact h2 _ _ (hf _ _ _ q)
theorem TE_orb {e₁ e₂ : Expr} {r : List Expr} {pos : Pos} {Q : V → St → Prop} (h : TE c e₁ σ fun v σ₁ => ∃ b, v = .d (.bool b) ∧ (b = true → Q (.d (.bool true)) σ₁) ∧ (b = false → TE c (.BoolOp .Or (e₂ :: r) pos) σ₁ Q)) : TE c (.BoolOp .Or (e₁ :: e₂ :: r) pos) σ Q := by
  refine TE_or (TE_mono h fun v σ₁ h1 => ?_)
  obtain ⟨b, rfl, h1, h2⟩ := h1
  refine TTr_bool ?_
  cases b
  · exact h2 rfl
  · exact h1 rfl
theorem TT_mono {e : Expr} {Q Q' : Bool → St → Prop} (h : TT c e σ Q) (hq : ∀ v σ, Q v σ → Q' v σ) : TT c e σ Q' := fun A env ι s ok R =>
  wpAny_mono (h A env ι s ok R) (fun _ _ ⟨ι', σ', x, R', q⟩ => ⟨ι', σ', x, R', hq _ _ q⟩) fun _ _ x => x
/-- the same chain as a test -/
theorem TT_chain {l r₁ r₂ : Expr} {op₂ : CmpOp} {pos : Pos} {QB : Bool → St → Prop} (f : Int → Int → Bool) {d : Int} (hf : ∀ b σ' QB, QB (f b d) σ' → TC c op₂ (.d (.int b)) (.d (.int d)) σ' QB)
    (h : TE c l σ fun a' σ₁ => TE c r₁ σ₁ fun b' σ₂ => ∃ a b, a' = .d (.int a) ∧ b' = .d (.int b) ∧ QB (decide (a ≤ b) && f b d) σ₂) (h2 : ∀ σ' (Q : V → St → Prop), Q (.d (.int d)) σ' → TE c r₂ σ' Q)
    (hm : lastMarks [.LtE, op₂] [r₁, r₂] = false := by with_unfolding_all rfl) : TT c (.Compare l [.LtE, op₂] [r₁, r₂] pos) σ QB := by
  refine TT_cmp2 (TE_mono h fun a' σ₁ h1 => TE_mono h1 fun b' σ₂ h2' => ?_) hm
  obtain ⟨a, b, rfl, rfl, q⟩ := h2'
  refine TC_le ?_
  cases hb : decide (a ≤ b)
  · rw [hb] at q; exact q
  · rw [hb, Bool.true_and] at q
    exact h2 _ _ (hf _ _ _ q)
theorem c_invalid (hK : c.G.K = fgx P) (hn : c.n = n + 1) {p : Int} (hO : σ.objs.all (okO σ.objs.length) = true)
    (q : Q (.d (.bool (inval p))) σ) : TCallC c (.val (.ref 49)) [.d (.int p)] σ Q := by
  refine TCallC_fn (n := n) (names := ["codepoint"]) (globs := []) (rest := []) (ds := []) (FnOk.of1 (p1 := "codepoint") [] [] hK rfl (fun _ _ => rfl) rfl (by kernel_rfl) rfl rfl (by decide)) hn rfl (fun _ _ => VRs.nil) rfl (by walk_at "tg") ?_
  have fin : ∀ (b : Bool) (σ' : St), σ'.objs = σ.objs → b = inval p → Rt σ Q (.ret (.d (.bool b))) σ' := fun b σ' e hb => by subst hb; exact Rt_same (by rfl) hO (t := []) (by simp [e]) q
  repeat walk_at "ts"
  refine TE_orb ?_
  refine TE_chain (fun b d => decide (b ≤ d)) (fun _ _ _ q => TC_le q) ?_ (fun _ _ q => TE_int q)
  repeat walk_at "ts"
  refine ⟨_, _, rfl, rfl, _, rfl, fun h1 => fin _ _ rfl (by simp [inval, h1]), fun h1 => ?_⟩
  refine TE_orb ?_
  repeat walk_at "ts"
  refine ⟨_, rfl, fun h2 => fin _ _ rfl (by simp [inval, h2]), fun h2 => ?_⟩
  refine TE_orb ?_
  refine TE_chain (fun b d => decide (b ≤ d)) (fun _ _ _ q => TC_le q) ?_ (fun _ _ q => TE_int q)
  repeat walk_at "ts"
  refine ⟨_, _, rfl, rfl, _, rfl, fun h3 => fin _ _ rfl (by simp [inval, h3]), fun h3 => ?_⟩
  refine TE_orb ?_
  refine TE_chain (fun b d => decide (b ≤ d)) (fun _ _ _ q => TC_le q) ?_ (fun _ _ q => TE_int q)
  repeat walk_at "ts"
  refine ⟨_, _, rfl, rfl, _, rfl, fun h4 => fin _ _ rfl (by simp [inval, h4]), fun h4 => ?_⟩
  refine TE_orb ?_
  refine TE_chain (fun b d => decide (b ≤ d)) (fun _ _ _ q => TC_le q) ?_ (fun _ _ q => TE_int q)
  repeat walk_at "ts"
  refine ⟨_, _, rfl, rfl, _, rfl, fun h5 => fin _ _ rfl (by simp [inval, h5]), fun h5 => ?_⟩
  refine TE_orb ?_
  repeat walk_at "ts"
  refine TBin_mod (by decide) ?_
  repeat walk_at "ts"
  refine TC_in_pair ?_
  refine ⟨_, rfl, fun h6 => fin _ _ rfl (by simp [inval, h6]), fun h6 => ?_⟩
  refine TE_bool1 ?_
  refine TE_chain (fun b d => decide (b ≤ d)) (fun _ _ _ q => TC_le q) ?_ (fun _ _ q => TE_int q)
  repeat walk_at "ts"
  refine ⟨_, _, rfl, rfl, fin _ _ rfl ?_⟩
  simp only [inval, h1, h2, h3, h4, h5, h6, Bool.false_or]
end
set_option Elab.async false
set_option autoImplicit true
set_option linter.unusedVariables false
set_option maxRecDepth 20000
section
variable {c : Cx} {σ : St} {Q : V → St → Prop} {P : Params} {n : Nat}
theorem set_same {α} {l : List α} {k : Nat} {x : α} (h : l[k]? = some x) : l.set k x = l := by
  obtain ⟨h1, rfl⟩ := List.getElem?_eq_some_iff.mp h; exact List.set_getElem_self h1
/-- the errors of a text -/
def errsOf (x : List Nat) : List D := (x.filter fun ch => inval (ch : Nat)).map fun _ => .str bad
theorem errsOf_len (x : List Nat) : (errsOf x).length ≤ x.length := by simp [errsOf]; exact List.length_filter_le ..
theorem c_errors (hK : c.G.K = fgx P) (hn : c.n = n + 1 + 1) {k kN kT kE : Nat} {chunk : List Nat} {sz off pl pc : Int} {buf : D} {errs : List D} {x : List Nat} (ho : σ.objs[k]? = some (.inst 131 sks (svs k kN kT kE chunk sz off pl pc buf)))
    (he : σ.objs[kE]? = some (.list errs)) (hO : σ.objs.all (okO σ.objs.length) = true) (hl : errs.length + x.length ≤ 1000000)
    (q : Q (.d .none) ⟨σ.loc, σ.objs.set kE (.list (errs ++ errsOf x))⟩) : TCallC c (.val (.ref 113)) [.obj k, .d (.str x)] σ Q := by
  have hk : k < σ.objs.length := (List.getElem?_eq_some_iff.mp ho).1
  have hne : kE ≠ k := by rintro rfl; rw [ho] at he; cases he
  refine TCallC_fn (n := n + 1) (names := ["self", "data", "c"]) (globs := ["_is_invalid", "ord"]) (rest := ["c"]) (ds := []) (FnOk.of2 (p1 := "self") (p2 := "data") [] [] hK rfl (fun _ _ _ => rfl) rfl (by kernel_rfl) rfl rfl (by decide)) hn rfl (fun _ _ => VRs.nil) rfl (by walk_at "tg") ?_
  have cS : Cls c.G 131 sks := cls_S hK
  dsimp only [List.map, List.append, List.cons_append, List.nil_append]
  refine TB_cons ?_
  refine TS_for (TI_of (TIC_str ?_))
  repeat walk_at "ts"
  refine ⟨x, rfl, fun i σ2 => σ2 = ⟨[some (.obj k), some (.d (.str x)), none], σ.objs.set kE (.list (errs ++ errsOf (x.take i)))⟩, ?_, ?_, ?_, ?_⟩
  · simp [errsOf, set_same he]
  · rintro i _ rfl; simp
  · rintro i d _ hd rfl
    obtain ⟨ch, hch, rfl⟩ : ∃ ch, x[i]? = some ch ∧ d = .str [ch] := by
      rw [List.getElem?_map] at hd
      cases e : x[i]? with
      | none => rw [e] at hd; cases hd
      | some ch => rw [e] at hd; cases hd; exact ⟨ch, rfl, rfl⟩
    have hlen : (x.take i).length ≤ x.length := by simp; omega
    have hta : errsOf (x.take (i + 1)) = errsOf (x.take i) ++ errsOf [ch] := by
      rw [List.take_add_one, hch]; simp [errsOf]
    dsimp only [Cx.floor]
    repeat walk_at "ts"
    refine TCall_ord ?_
    repeat walk_at "ts"
    refine TCall_of ?_
    refine c_invalid (by exact hK) rfl (okO_set hO rfl) ?_
    repeat walk_at "ts"
    cases hb : inval (ch : Nat)
    · rw [if_neg Bool.false_ne_true]
      repeat walk_at "ts"
      refine ⟨_, { objs := ⟨[], ?_⟩, base := ?_, okO := okO_set hO rfl, loc := .same (.same (.drop .nil)), okL := ?_ }, rfl⟩
      · rw [hta]; simp [errsOf, hb]
      · simp
      · simp [okL, okV, hk]
    · rw [if_pos rfl]
      repeat walk_at "ts"
      refine TMeth_append (set_at he) ?_
      repeat walk_at "ts"
      refine TCall_append (set_at he) ?_ ?_
      · have := errsOf_len (x.take i); simp at this ⊢; omega
      repeat walk_at "ts"
      dsimp only
      refine ⟨_, { objs := ⟨[], ?_⟩, base := ?_, okO := okO_set hO rfl, loc := .same (.same (.drop .nil)), okL := ?_ }, rfl⟩
      · rw [hta, List.set_set]; simp [errsOf, hb]
      · simp
      · simp [okL, okV, hk]
  · rintro σ2 rfl
    repeat walk_at "ts"
    refine ⟨_, ⟨⟨[], (List.append_nil _).symm⟩, by simp, okO_set hO rfl, rfl⟩, ?_⟩
    rw [List.length_map, List.take_length]; exact q
end
set_option Elab.async false
set_option autoImplicit true
set_option linter.unusedVariables false
set_option maxRecDepth 20000
section
variable {c : Cx} {σ : St} {Q : V → St → Prop} {P : Params} {n : Nat}
/-- a sign that waits for the next piece -/
def hold (ch : Nat) : Bool := decide ((ch : Int) = 13) || (decide ((55296 : Int) ≤ ch) && decide ((ch : Int) ≤ 56319))
def bufD : Option Nat → D
  | none => .none
  | some ch => .str [ch]
def rcIn (b : Option Nat) (part : List Nat) : List Nat := match b with | none => part | some ch => ch :: part
def rcHeld (data : List Nat) : Bool := decide (1 < data.length) && (match data.getLast? with | some ch => hold ch | none => false)
def rcOut (data : List Nat) : List Nat := if rcHeld data then data.dropLast else data
def rcBuf (data : List Nat) : Option Nat := if rcHeld data then data.getLast? else none
def effN (dsz : D) (N : Int) : Prop := dsz = .int N ∨ (dsz = .none ∧ N = 10240)
def strm (k kN kT kE : Nat) (chunk : List Nat) (off pl pc : Int) (b : Option Nat) : O := .inst 131 sks (svs k kN kT kE chunk chunk.length off pl pc (bufD b))
def txt (text : List Nat) (place : Int) : O := .inst 38 tks [.d (.str text), .d (.int place)]
theorem ite_t {p : Bool} {A B : Prop} (h : p = true) (a : A) : if p = true then A else B := by rw [if_pos h]; exact a
theorem ite_f {p : Bool} {A B : Prop} (h : p = false) (a : B) : if p = true then A else B := by rw [if_neg (by rw [h]; exact Bool.false_ne_true)]; exact a
theorem TItem_last {pre : List Nat} {ch : Nat} (hl : pre.length ≤ 900000) (q : Q (.d (.str [ch])) σ) : TItem c (.d (.str (pre ++ [ch]))) (.d (.int (-1))) σ Q := by
  refine TItem_str (j := pre.length) (ch := ch) ?_ (by simp) (by omega) q
  simp [seqIndex?]; omega
/-- on behind, in one state -/
def Only (σ₁ : St) (fl : Fl) (σ' : St) : Prop := fl = .next ∧ σ' = σ₁
theorem TS_mono {st : Stmt} {Q Q' : Fl → St → Prop} (h : TS c st σ Q) (hq : ∀ fl σ, Q fl σ → Q' fl σ) : TS c st σ Q' := fun A env ι s ok R =>
  wpAny_mono (h A env ι s ok R) (fun _ _ ⟨ι', v, σ', x, R', r, q⟩ => ⟨ι', v, σ', x, R', r, hq _ _ q⟩) fun _ _ x => x
theorem TB_to {st : Stmt} {r : List Stmt} {Q : Fl → St → Prop} (σ₁ : St) (h1 : TS c st σ (Only σ₁)) (h2 : TB c r σ₁ Q) : TB c (st :: r) σ Q :=
  TB_cons (TS_mono h1 fun fl σ' h => by obtain ⟨rfl, rfl⟩ := h; exact h2)
def OnlyW (n₀ : Nat) (σ₁ : St) (fl : Fl) (σ' : St) : Prop := fl = .next ∧ Wk n₀ σ' σ₁
theorem TB_toW {st : Stmt} {r : List Stmt} {Q : Fl → St → Prop} (σ₁ : St) (h1 : TS c st σ (OnlyW c.n₀ σ₁)) (h2 : TB c r σ₁ Q) : TB c (st :: r) σ Q :=
  TB_cons (TS_mono h1 fun fl σ' h => by obtain ⟨rfl, w⟩ := h; exact TB_wk w h2)
set_option maxHeartbeats 4000000 in
theorem rc_all (hK : c.G.K = fgx P) : ∃ body scope, FnOk c.G 106 2 ["self", "chunkSize"] [] body scope ∧ FnOk c.G 106 1 ["self", "chunkSize"] [.none] body scope ∧
    (∀ n n₀, (⟨c.G, n, n₀, scope, ["self", "chunkSize", "data", "lastv"], ["len", "ord"]⟩ : Cx).Good) ∧
    ∀ (σ : St) (Q : V → St → Prop) (n : Nat) (dsz : D) (N : Int) (k kN kT kE : Nat) (chunk : List Nat) (off pl pc : Int) (b : Option Nat) (errs : List D) (text : List Nat) (place : Int), effN dsz N → 0 ≤ N →
      σ.objs[k]? = some (strm k kN kT kE chunk off pl pc b) → σ.objs[kT]? = some (txt text place) → σ.objs[kE]? = some (.list errs) → σ.objs.all (okO σ.objs.length) = true → errs.length ≤ 100000 → text.length ≤ 100000 → chunk.length ≤ 100000 → 0 ≤ place →
      (rcIn b (sl text (some place) (some (place + N))) = [] → Q (.d (.bool false)) ⟨σ.loc, σ.objs.set k (strm k kN kT kE [] 0 (posL chunk chunk.length pl) (posC chunk chunk.length pc) none)⟩) →
      (rcIn b (sl text (some place) (some (place + N))) ≠ [] → Q (.d (.bool true)) ⟨σ.loc, ((σ.objs.set k (strm k kN kT kE (nrm (rcOut (rcIn b (sl text (some place) (some (place + N)))))) 0 (posL chunk chunk.length pl) (posC chunk chunk.length pc)
        (rcBuf (rcIn b (sl text (some place) (some (place + N))))))).set kT (txt text (place + (sl text (some place) (some (place + N))).length))).set kE (.list (errs ++ errsOf (rcOut (rcIn b (sl text (some place) (some (place + N)))))))⟩) →
      TB ⟨c.G, n + 1 + 1, σ.objs.length, scope, ["self", "chunkSize", "data", "lastv"], ["len", "ord"]⟩ body ⟨[some (.obj k), some (.d dsz), none, none], σ.objs⟩ (Rt σ Q) := by
  refine ⟨_, _, FnOk.of2 (p1 := "self") (p2 := "chunkSize") [] [] hK rfl (fun _ _ _ => rfl) rfl (by kernel_rfl) rfl rfl (by decide), FnOk.of1 (p1 := "self") [.none] ["chunkSize"] hK rfl (fun _ _ => rfl) rfl (by kernel_rfl) rfl rfl (by decide), fun _ _ => by walk_at "tg", ?_⟩
  intro σ Q n dsz N k kN kT kE chunk off pl pc b errs text place hN h0N ho ht he hO hel htl hcl h0p q0 q1
  have cS : Cls c.G 131 sks := cls_S hK
  have cT : Cls c.G 38 tks := cls_T hK
  have hne1 : k ≠ kT := by rintro rfl; rw [ho] at ht; cases ht
  have hne2 : k ≠ kE := by rintro rfl; rw [ho] at he; cases he
  have hne3 : kT ≠ kE := by rintro rfl; rw [ht] at he; cases he
  have ho' : σ.objs[k]? = some (.inst 131 sks (svs k kN kT kE chunk chunk.length off pl pc (bufD b))) := ho
  have ht' : σ.objs[kT]? = some (.inst 38 tks [.d (.str text), .d (.int place)]) := ht
  -- the head: how many are asked for
  refine TB_to ⟨[some (.obj k), some (.d (.int N)), none, none], σ.objs⟩ ?_ ?_
  · repeat walk_at "ts"
    refine TC_isn ?_
    rcases hN with rfl | ⟨rfl, rfl⟩
    · refine ite_f rfl ?_
      repeat walk_at "ts"
      exact ⟨rfl, rfl⟩
    · refine ite_t rfl ?_
      repeat walk_at "ts"
      refine TGet_cls (v := .d (.int 10240)) (val := .int 10240 248) cS ho' (by decide +kernel) (by dsimp only; rw [hK]; kernel_rfl) (by dsimp only; rw [hK]; kernel_rfl) (by kernel_rfl) (by decide +kernel) (fun _ _ => DR.int _ _) ?_
      repeat walk_at "ts"
      exact ⟨rfl, rfl⟩
  -- where the last piece ends
  refine TB_to ⟨[some (.obj k), some (.d (.int N)), none, none], σ.objs.set k (.inst 131 sks (svs k kN kT kE chunk chunk.length off (posL chunk chunk.length pl) (posC chunk chunk.length pc) (bufD b)))⟩ ?_ ?_
  · repeat walk_at "ts"
    refine TCall_of ?_
    refine c_position (by exact hK) rfl (by exact ho') (by exact hO) (by omega) (by omega) ?_
    repeat walk_at "ts"
    refine ⟨rfl, ?_⟩
    rw [List.set_set]; rfl
  generalize hpl : posL chunk chunk.length pl = pl1 at *
  generalize hpc : posC chunk chunk.length pc = pc1 at *
  have hok : ∀ chunk sz off pl pc buf, okO σ.objs.length (.inst 131 sks (svs k kN kT kE chunk sz off pl pc buf)) = true := by
    have := okO_get hO ho'
    intro chunk sz off pl pc buf
    simpa [okO, svs, okV] using this
  have hkl : k < σ.objs.length := (List.getElem?_eq_some_iff.mp ho').1
  refine TB_to ⟨[some (.obj k), some (.d (.int N)), none, none], σ.objs.set k (.inst 131 sks (svs k kN kT kE [] chunk.length off pl1 pc1 (bufD b)))⟩ ?_ ?_
  · repeat walk_at "ts"
    refine ⟨rfl, ?_⟩
    rw [List.set_set]; rfl
  refine TB_to ⟨[some (.obj k), some (.d (.int N)), none, none], σ.objs.set k (.inst 131 sks (svs k kN kT kE [] 0 off pl1 pc1 (bufD b)))⟩ ?_ ?_
  · repeat walk_at "ts"
    refine ⟨rfl, ?_⟩
    rw [List.set_set]; rfl
  refine TB_to ⟨[some (.obj k), some (.d (.int N)), none, none], σ.objs.set k (.inst 131 sks (svs k kN kT kE [] 0 0 pl1 pc1 (bufD b)))⟩ ?_ ?_
  · repeat walk_at "ts"
    refine ⟨rfl, ?_⟩
    rw [List.set_set]; rfl
  generalize hpart : sl text (some place) (some (place + N)) = part at *
  have hpl' : part.length ≤ text.length := by rw [← hpart]; exact sl_len ..
  -- the piece
  refine TB_to ⟨[some (.obj k), some (.d (.int N)), some (.d (.str part)), none], (σ.objs.set k (.inst 131 sks (svs k kN kT kE [] 0 0 pl1 pc1 (bufD b)))).set kT (txt text (place + part.length))⟩ ?_ ?_
  · repeat walk_at "ts"
    refine TCall_of ?_
    refine c_read (by exact hK) rfl (set_ne hne1 ht') (okO_set hO (hok ..)) (by omega) ?_
    rw [hpart]
    repeat walk_at "ts"
    exact ⟨rfl, rfl⟩
  by_cases hnil : rcIn b part = []
  · -- nothing came
    obtain ⟨rfl, rfl⟩ : b = none ∧ part = [] := by
      cases b with
      | none => exact ⟨rfl, hnil⟩
      | some ch => simp [rcIn] at hnil
    repeat walk_at "ts"
    refine TTr_none ?_
    refine ite_f rfl ?_
    repeat walk_at "ts"
    refine TTr_str (by simp) ?_
    refine ite_t rfl ?_
    repeat walk_at "ts"
    refine Rt_set (t := []) (os := σ.objs.set k (strm k kN kT kE [] 0 pl1 pc1 none)) ?_ (by simp) rfl (okO_set hO (hok ..)) (q0 hnil)
    rw [List.append_nil]
    exact set_same (set_ne hne1 (by simpa using ht))
  have q1 := q1 hnil
  refine TB_to ⟨[some (.obj k), some (.d (.int N)), some (.d (.str (rcIn b part))), none], (σ.objs.set k (.inst 131 sks (svs k kN kT kE [] 0 0 pl1 pc1 .none))).set kT (txt text (place + part.length))⟩ ?_ ?_
  · cases b with
    | none =>
      repeat walk_at "ts"
      refine TTr_none ?_
      refine ite_f rfl ?_
      repeat walk_at "ts"
      refine TTr_str (by omega) ?_
      have hp : part.isEmpty = false := by cases part with | nil => exact absurd rfl hnil | cons _ _ => rfl
      refine ite_f (by rw [hp]; rfl) ?_
      repeat walk_at "ts"
      exact ⟨rfl, rfl⟩
    | some ch =>
      repeat walk_at "ts"
      refine TTr_str (by simp) ?_
      refine ite_t rfl ?_
      repeat walk_at "ts"
      refine TBin_adds (by simp; omega) ?_
      repeat walk_at "ts"
      refine ⟨rfl, ?_⟩
      rw [List.set_comm _ _ (Ne.symm hne1), List.set_set]; rfl
  have hdl : (rcIn b part).length ≤ 100001 := by cases b <;> simp [rcIn] <;> omega
  generalize rcIn b part = data at *
  -- a sign that waits
  refine TB_toW ⟨[some (.obj k), some (.d (.int N)), some (.d (.str (rcOut data))), none], (σ.objs.set k (.inst 131 sks (svs k kN kT kE [] 0 0 pl1 pc1 (bufD (rcBuf data))))).set kT (txt text (place + part.length))⟩ ?_ ?_
  · have wk : ∀ (x : List Nat) (lv : Option V) (buf : D) (os : List O), os = (σ.objs.set k (.inst 131 sks (svs k kN kT kE [] 0 0 pl1 pc1 buf))).set kT (txt text (place + part.length)) → x = rcOut data → buf = bufD (rcBuf data) → (hlv : noCel lv = true := by first | with_unfolding_all rfl | assumption) →
        Wk σ.objs.length ⟨[some (.obj k), some (.d (.int N)), some (.d (.str x)), lv], os⟩ ⟨[some (.obj k), some (.d (.int N)), some (.d (.str (rcOut data))), none], (σ.objs.set k (.inst 131 sks (svs k kN kT kE [] 0 0 pl1 pc1 (bufD (rcBuf data))))).set kT (txt text (place + part.length))⟩ := by
      rintro x lv buf os rfl rfl rfl hlv
      exact { objs := ⟨[], by simp⟩, base := by simp, okO := okO_set (okO_set hO (hok ..)) rfl, loc := by cases lv <;> first | exact .same (.same (.same (.same .nil))) | exact .same (.same (.same (.drop .nil))), okL := by simp [okL, okV, hkl] }
    repeat walk_at "ts"
    refine TCall_len_str (by omega) ?_
    repeat walk_at "ts"
    by_cases h1 : 1 < data.length
    · refine ite_t (by simp; omega) ?_
      obtain ⟨pre, ch, rfl⟩ : ∃ pre ch, data = pre ++ [ch] := by
        rcases List.eq_nil_or_concat data with h | ⟨p, c, h⟩
        · exact absurd h hnil
        · exact ⟨p, c, by simpa using h⟩
      have hpl2 : pre.length ≤ 900000 := by simp at hdl; omega
      have hgl : (pre ++ [ch]).getLast? = some ch := by simp
      repeat walk_at "ts"
      refine TItem_last hpl2 ?_
      repeat walk_at "ts"
      refine TCall_ord ?_
      repeat walk_at "ts"
      by_cases h13 : (ch : Int) = 13
      · have hcase : (ch : Int) = 13 ∨ ((55296 : Int) ≤ ch ∧ (ch : Int) ≤ 56319) := .inl h13
        refine ite_t (by simp [h13]) (ite_t rfl ?_)
        repeat walk_at "ts"
        refine TItem_last hpl2 ?_
        repeat walk_at "ts"
        refine TSlc_str (by simp; omega) ?_
        repeat walk_at "ts"
        have hh : rcHeld (pre ++ [ch]) = true := by simp only [rcHeld, hgl]; simp only [decide_eq_true h1, Bool.true_and]; simp [hold, hcase]
        exact ⟨rfl, wk _ _ _ _ (by rw [List.set_comm _ _ (Ne.symm hne1), List.set_set]; rfl) (by rw [sl_init]; simp [rcOut, hh]) (by simp [rcBuf, hh, bufD])⟩
      · refine ite_f (by simp [h13]) ?_
        refine TT_or ?_
        refine TT_chain (fun b d => decide (b ≤ d)) (fun _ _ _ q => TC_le q) ?_ (fun _ _ q => TE_int q)
        repeat walk_at "ts"
        refine ⟨_, _, rfl, rfl, ?_⟩
        by_cases h2 : (55296 : Int) ≤ ch ∧ (ch : Int) ≤ 56319
        · have hcase : (ch : Int) = 13 ∨ ((55296 : Int) ≤ ch ∧ (ch : Int) ≤ 56319) := .inr h2
          refine ite_t (by simp [h2]) (ite_t rfl ?_)
          repeat walk_at "ts"
          refine TItem_last hpl2 ?_
          repeat walk_at "ts"
          refine TSlc_str (by simp; omega) ?_
          repeat walk_at "ts"
          have hh : rcHeld (pre ++ [ch]) = true := by simp only [rcHeld, hgl]; simp only [decide_eq_true h1, Bool.true_and]; simp [hold, hcase]
          exact ⟨rfl, wk _ _ _ _ (by rw [List.set_comm _ _ (Ne.symm hne1), List.set_set]; rfl) (by rw [sl_init]; simp [rcOut, hh]) (by simp [rcBuf, hh, bufD])⟩
        · refine ite_f (by simp; omega) ?_
          refine TT_or0 (ite_f rfl ?_)
          repeat walk_at "ts"
          have hh : rcHeld (pre ++ [ch]) = false := by
            simp only [rcHeld, hgl, hold]; simp; intro _; exact ⟨by omega, by omega⟩
          exact ⟨rfl, wk _ _ _ _ rfl (by simp [rcOut, hh]) (by simp [rcBuf, hh, bufD])⟩
    · refine ite_f (by simp; omega) ?_
      repeat walk_at "ts"
      have hh : rcHeld data = false := by simp [rcHeld, h1]
      exact ⟨rfl, wk _ _ _ _ rfl (by simp [rcOut, hh]) (by simp [rcBuf, hh, bufD])⟩
  have hol : (rcOut data).length ≤ 100001 := by
    have : (rcOut data).length ≤ data.length := by unfold rcOut; split <;> simp
    omega
  generalize rcOut data = out at *
  generalize rcBuf data = buf at *
  have hset : ∀ (A B : O) (T E : O), (((σ.objs.set k A).set kT T).set kE E).set k B = ((σ.objs.set k B).set kT T).set kE E := by
    intro A B T E
    rw [List.set_comm _ _ (Ne.symm hne2), List.set_comm _ _ (Ne.symm hne1), List.set_set]
  have hokS : ∀ (A T E : O), okO σ.objs.length A = true → okO σ.objs.length T = true → okO σ.objs.length E = true → (((σ.objs.set k A).set kT T).set kE E).all (okO (((σ.objs.set k A).set kT T).set kE E).length) = true := by
    intro A T E h1 h2 h3
    refine okO_set (okO_set (okO_set hO h1) ?_) ?_ <;> simpa using by assumption
  refine TB_to ⟨[some (.obj k), some (.d (.int N)), some (.d (.str out)), none], ((σ.objs.set k (.inst 131 sks (svs k kN kT kE [] 0 0 pl1 pc1 (bufD buf)))).set kT (txt text (place + part.length))).set kE (.list (errs ++ errsOf out))⟩ ?_ ?_
  · repeat walk_at "ts"
    refine TTr_meth ?_
    refine ite_t rfl ?_
    repeat walk_at "ts"
    refine TMeth_own cS (set_ne (Ne.symm hne1) (set_at ho')) (by walk_at "tl") (by intro _ h; cases h) ?_
    repeat walk_at "ts"
    refine ⟨TKeep_m (by dsimp only; rw [hK]; kernel_rfl), TCall_meth ?_⟩
    refine c_errors (by exact hK) rfl (set_ne (Ne.symm hne1) (set_at ho')) (set_ne hne3 (set_ne hne2 he)) (okO_set (okO_set hO (hok ..)) rfl) (by omega) ?_
    repeat walk_at "ts"
    exact ⟨rfl, rfl⟩
  refine TB_to ⟨[some (.obj k), some (.d (.int N)), some (.d (.str (crlf out))), none], ((σ.objs.set k (.inst 131 sks (svs k kN kT kE [] 0 0 pl1 pc1 (bufD buf)))).set kT (txt text (place + part.length))).set kE (.list (errs ++ errsOf out))⟩ ?_ ?_
  · refine TS_assign ?_
    refine TE_replace (by decide +kernel) (by decide +kernel) ?_
    repeat walk_at "ts"
    refine ⟨_, crlf out, rfl, by omega, by rw [s_rn, s_n]; exact replace_crlf out, ?_⟩
    repeat walk_at "ts"
    exact ⟨rfl, rfl⟩
  have hcl2 : (crlf out).length ≤ 100001 := by have := crlf_len out; omega
  refine TB_to ⟨[some (.obj k), some (.d (.int N)), some (.d (.str (nrm out))), none], ((σ.objs.set k (.inst 131 sks (svs k kN kT kE [] 0 0 pl1 pc1 (bufD buf)))).set kT (txt text (place + part.length))).set kE (.list (errs ++ errsOf out))⟩ ?_ ?_
  · refine TS_assign ?_
    refine TE_replace (by decide +kernel) (by decide +kernel) ?_
    repeat walk_at "ts"
    refine ⟨_, nrm out, rfl, by omega, by rw [s_r, s_n]; exact replace_cr (crlf out), ?_⟩
    repeat walk_at "ts"
    exact ⟨rfl, rfl⟩
  have hnl : (nrm out).length ≤ 100001 := by simp [nrm, cr]; omega
  generalize nrm out = mended at *
  have hk0 : (((σ.objs.set k (.inst 131 sks (svs k kN kT kE [] 0 0 pl1 pc1 (bufD buf)))).set kT (txt text (place + part.length))).set kE (.list (errs ++ errsOf out)))[k]? = some (.inst 131 sks (svs k kN kT kE [] 0 0 pl1 pc1 (bufD buf))) := set_ne (Ne.symm hne2) (set_ne (Ne.symm hne1) (set_at ho'))
  refine TB_to ⟨[some (.obj k), some (.d (.int N)), some (.d (.str mended)), none], ((σ.objs.set k (.inst 131 sks (svs k kN kT kE mended 0 0 pl1 pc1 (bufD buf)))).set kT (txt text (place + part.length))).set kE (.list (errs ++ errsOf out))⟩ ?_ ?_
  · repeat walk_at "ts"
    exact ⟨rfl, by rw [hset]; rfl⟩
  have hk1 : (((σ.objs.set k (.inst 131 sks (svs k kN kT kE mended 0 0 pl1 pc1 (bufD buf)))).set kT (txt text (place + part.length))).set kE (.list (errs ++ errsOf out)))[k]? = some (.inst 131 sks (svs k kN kT kE mended 0 0 pl1 pc1 (bufD buf))) := set_ne (Ne.symm hne2) (set_ne (Ne.symm hne1) (set_at ho'))
  refine TB_to ⟨[some (.obj k), some (.d (.int N)), some (.d (.str mended)), none], ((σ.objs.set k (strm k kN kT kE mended 0 pl1 pc1 buf)).set kT (txt text (place + part.length))).set kE (.list (errs ++ errsOf out))⟩ ?_ ?_
  · repeat walk_at "ts"
    refine TCall_len_str (by omega) ?_
    repeat walk_at "ts"
    exact ⟨rfl, by rw [hset]; rfl⟩
  repeat walk_at "ts"
  exact Rt_set (t := []) (List.append_nil _).symm (by simp) rfl (hokS _ _ _ (hok ..) rfl rfl) q1
theorem c_readChunk (hK : c.G.K = fgx P) (hn : c.n = n + 1 + 1 + 1) {N : Int} {k kN kT kE : Nat} {chunk : List Nat} {off pl pc : Int} {b : Option Nat} {errs : List D} {text : List Nat} {place : Int} (h0N : 0 ≤ N)
    (ho : σ.objs[k]? = some (strm k kN kT kE chunk off pl pc b)) (ht : σ.objs[kT]? = some (txt text place)) (he : σ.objs[kE]? = some (.list errs)) (hO : σ.objs.all (okO σ.objs.length) = true) (hel : errs.length ≤ 100000) (htl : text.length ≤ 100000) (hcl : chunk.length ≤ 100000) (h0p : 0 ≤ place)
    (q0 : rcIn b (sl text (some place) (some (place + N))) = [] → Q (.d (.bool false)) ⟨σ.loc, σ.objs.set k (strm k kN kT kE [] 0 (posL chunk chunk.length pl) (posC chunk chunk.length pc) none)⟩)
    (q1 : rcIn b (sl text (some place) (some (place + N))) ≠ [] → Q (.d (.bool true)) ⟨σ.loc, ((σ.objs.set k (strm k kN kT kE (nrm (rcOut (rcIn b (sl text (some place) (some (place + N)))))) 0 (posL chunk chunk.length pl) (posC chunk chunk.length pc)
        (rcBuf (rcIn b (sl text (some place) (some (place + N))))))).set kT (txt text (place + (sl text (some place) (some (place + N))).length))).set kE (.list (errs ++ errsOf (rcOut (rcIn b (sl text (some place) (some (place + N)))))))⟩) :
    TCallC c (.val (.ref 106)) [.obj k, .d (.int N)] σ Q := by
  obtain ⟨body, scope, F2, F1, good, h⟩ := rc_all (c := c) hK
  exact TCallC_fn (n := n + 1 + 1) (names := ["self", "chunkSize", "data", "lastv"]) (globs := ["len", "ord"]) (rest := ["data", "lastv"]) (ds := []) F2 hn rfl (fun _ _ => VRs.nil) rfl (good _ _) (h σ Q n _ N k kN kT kE chunk off pl pc b errs text place (.inl rfl) h0N ho ht he hO hel htl hcl h0p q0 q1)
theorem c_readChunk0 (hK : c.G.K = fgx P) (hn : c.n = n + 1 + 1 + 1) {k kN kT kE : Nat} {chunk : List Nat} {off pl pc : Int} {b : Option Nat} {errs : List D} {text : List Nat} {place : Int}
    (ho : σ.objs[k]? = some (strm k kN kT kE chunk off pl pc b)) (ht : σ.objs[kT]? = some (txt text place)) (he : σ.objs[kE]? = some (.list errs)) (hO : σ.objs.all (okO σ.objs.length) = true) (hel : errs.length ≤ 100000) (htl : text.length ≤ 100000) (hcl : chunk.length ≤ 100000) (h0p : 0 ≤ place)
    (q0 : rcIn b (sl text (some place) (some (place + 10240))) = [] → Q (.d (.bool false)) ⟨σ.loc, σ.objs.set k (strm k kN kT kE [] 0 (posL chunk chunk.length pl) (posC chunk chunk.length pc) none)⟩)
    (q1 : rcIn b (sl text (some place) (some (place + 10240))) ≠ [] → Q (.d (.bool true)) ⟨σ.loc, ((σ.objs.set k (strm k kN kT kE (nrm (rcOut (rcIn b (sl text (some place) (some (place + 10240)))))) 0 (posL chunk chunk.length pl) (posC chunk chunk.length pc)
        (rcBuf (rcIn b (sl text (some place) (some (place + 10240))))))).set kT (txt text (place + (sl text (some place) (some (place + 10240))).length))).set kE (.list (errs ++ errsOf (rcOut (rcIn b (sl text (some place) (some (place + 10240)))))))⟩) :
    TCallC c (.val (.ref 106)) [.obj k] σ Q := by
  obtain ⟨body, scope, F2, F1, good, h⟩ := rc_all (c := c) hK
  exact TCallC_fn (n := n + 1 + 1) (names := ["self", "chunkSize", "data", "lastv"]) (globs := ["len", "ord"]) (rest := ["data", "lastv"]) (ds := [.d .none]) F1 hn rfl (fun _ _ => VRs.cons DR.none VRs.nil) rfl (good _ _) (h σ Q n _ 10240 k kN kT kE chunk off pl pc b errs text place (.inr ⟨rfl, rfl⟩) (by omega) ho ht he hO hel htl hcl h0p q0 q1)
end
set_option Elab.async false
set_option autoImplicit true
set_option linter.unusedVariables false
set_option maxRecDepth 20000
section
variable {c : Cx} {σ : St} {Q : V → St → Prop} {P : Params} {n : Nat}
theorem nrm_ne {x : List Nat} (h : x ≠ []) : nrm x ≠ [] := by
  intro e
  have : crlf x = [] := by simpa [nrm, cr] using e
  match x, h, this with
  | a :: r, _, this =>
    unfold crlf at this
    split at this <;> simp_all
theorem seqIx0 {n : Nat} (h : 0 < n) : seqIndex? 0 n = some 0 := by
  have h' : (0 : Int) < n := by omega
  show (if (decide ((0 : Int) ≤ 0) && decide ((0 : Int) < n)) = true then some (0 : Int).toNat else none) = _
  rw [decide_eq_true h']; rfl
theorem rcOut_ne {x : List Nat} (h : x ≠ []) : rcOut x ≠ [] := by
  unfold rcOut
  split
  · rename_i hh
    simp only [rcHeld, Bool.and_eq_true, decide_eq_true_eq] at hh
    intro e
    have := congrArg List.length e
    simp at this; omega
  · exact h
theorem c_char (hK : c.G.K = fgx P) (hn : c.n = n + 1 + 1 + 1 + 1) {k kN kT kE : Nat} {chunk : List Nat} {off pl pc : Int} {b : Option Nat} {errs : List D} {text : List Nat} {place : Int}
    (ho : σ.objs[k]? = some (strm k kN kT kE chunk off pl pc b)) (ht : σ.objs[kT]? = some (txt text place)) (he : σ.objs[kE]? = some (.list errs)) (hO : σ.objs.all (okO σ.objs.length) = true) (hel : errs.length ≤ 100000) (htl : text.length ≤ 100000) (hcl : chunk.length ≤ 100000) (h0p : 0 ≤ place)
    (h0 : 0 ≤ off) (h1 : off ≤ chunk.length)
    (qA : ∀ ch, off < chunk.length → chunk[off.toNat]? = some ch → Q (.d (.str [ch])) ⟨σ.loc, σ.objs.set k (strm k kN kT kE chunk (off + 1) pl pc b)⟩)
    (q0 : off = chunk.length → rcIn b (sl text (some place) (some (place + 10240))) = [] → Q (.d .none) ⟨σ.loc, σ.objs.set k (strm k kN kT kE [] 0 (posL chunk chunk.length pl) (posC chunk chunk.length pc) none)⟩)
    (q1 : off = chunk.length → ∀ data ch, data = rcIn b (sl text (some place) (some (place + 10240))) → data ≠ [] → (nrm (rcOut data))[0]? = some ch → Q (.d (.str [ch])) ⟨σ.loc, ((σ.objs.set k (strm k kN kT kE (nrm (rcOut data)) 1 (posL chunk chunk.length pl) (posC chunk chunk.length pc)
        (rcBuf data))).set kT (txt text (place + (sl text (some place) (some (place + 10240))).length))).set kE (.list (errs ++ errsOf (rcOut data)))⟩) :
    TCallC c (.val (.ref 98)) [.obj k] σ Q := by
  have cS : Cls c.G 131 sks := cls_S hK
  have hne1 : k ≠ kT := by rintro rfl; rw [ho] at ht; cases ht
  have hne2 : k ≠ kE := by rintro rfl; rw [ho] at he; cases he
  have hne3 : kT ≠ kE := by rintro rfl; rw [ht] at he; cases he
  have ho' : σ.objs[k]? = some (.inst 131 sks (svs k kN kT kE chunk chunk.length off pl pc (bufD b))) := ho
  have hok : ∀ chunk sz off pl pc buf, okO σ.objs.length (.inst 131 sks (svs k kN kT kE chunk sz off pl pc buf)) = true := by
    have := okO_get hO ho'
    intro chunk sz off pl pc buf
    simpa [okO, svs, okV] using this
  refine TCallC_fn (n := n + 1 + 1 + 1) (names := ["self", "chunkOffset", "char"]) (globs := ["EOF"]) (rest := ["chunkOffset", "char"]) (ds := []) (FnOk.of1 (p1 := "self") [] [] hK rfl (fun _ _ => rfl) rfl (by kernel_rfl) rfl rfl (by decide)) hn rfl (fun _ _ => VRs.nil) rfl (by walk_at "tg") ?_
  dsimp only [List.map, List.append, List.cons_append, List.nil_append]
  by_cases hlt : off < chunk.length
  · obtain ⟨ch, hch⟩ : ∃ ch, chunk[off.toNat]? = some ch := ⟨_, List.getElem?_eq_getElem (by omega)⟩
    refine TB_to ⟨[some (.obj k), none, none], σ.objs⟩ ?_ ?_
    · repeat walk_at "ts"
      refine ite_f (by simp; omega) ?_
      repeat walk_at "ts"
      exact ⟨rfl, rfl⟩
    repeat walk_at "ts"
    refine TItem_str (j := off.toNat) (ch := ch) (sIx (Int.toNat_of_nonneg h0).symm (by omega)) hch (by omega) ?_
    repeat walk_at "ts"
    exact Rt_set (t := []) (List.append_nil _).symm (by simp) rfl (okO_set hO (hok ..)) (qA ch hlt hch)
  · have hoff : off = chunk.length := by omega
    subst hoff
    repeat walk_at "ts"
    refine ite_t (by simp) ?_
    repeat walk_at "ts"
    refine TCall_of ?_
    refine c_readChunk0 (by exact hK) rfl (by exact ho) (by exact ht) (by exact he) (by exact hO) hel htl hcl h0p (fun hnil => ?_) (fun hnil => ?_)
    · repeat walk_at "ts"
      refine ite_t rfl ?_
      repeat walk_at "ts"
      exact Rt_set (t := []) (List.append_nil _).symm (by simp) rfl (okO_set hO (hok ..)) (q0 rfl hnil)
    · have q1 := fun ch => q1 rfl _ ch rfl hnil
      generalize rcIn b (sl text (some place) (some (place + 10240))) = data at *
      obtain ⟨ch, hch⟩ : ∃ ch, (nrm (rcOut data))[0]? = some ch := ⟨_, List.getElem?_eq_getElem (List.length_pos_iff.mpr (nrm_ne (rcOut_ne hnil)))⟩
      have q1 := q1 ch hch
      generalize posL chunk chunk.length pl = pl1 at *
      generalize posC chunk chunk.length pc = pc1 at *
      generalize (sl text (some place) (some (place + 10240))) = part at *
      generalize nrm (rcOut data) = mended at *
      have hset : ∀ (A B : O) (T E : O), (((σ.objs.set k A).set kT T).set kE E).set k B = ((σ.objs.set k B).set kT T).set kE E := by
        intro A B T E
        rw [List.set_comm _ _ (Ne.symm hne2), List.set_comm _ _ (Ne.symm hne1), List.set_set]
      have hokS : ∀ (A T E : O), okO σ.objs.length A = true → okO σ.objs.length T = true → okO σ.objs.length E = true → (((σ.objs.set k A).set kT T).set kE E).all (okO (((σ.objs.set k A).set kT T).set kE E).length) = true := by
        intro A T E h1 h2 h3
        refine okO_set (okO_set (okO_set hO h1) ?_) ?_ <;> simpa using by assumption
      have hk0 : (((σ.objs.set k (strm k kN kT kE mended 0 pl1 pc1 (rcBuf data))).set kT (txt text (place + part.length))).set kE (.list (errs ++ errsOf (rcOut data))))[k]? = some (.inst 131 sks (svs k kN kT kE mended mended.length 0 pl1 pc1 (bufD (rcBuf data)))) := set_ne (Ne.symm hne2) (set_ne (Ne.symm hne1) (set_at ho'))
      repeat walk_at "ts"
      refine ite_f rfl ?_
      repeat walk_at "ts"
      refine TItem_str (j := 0) (ch := ch) (seqIx0 (List.getElem?_eq_some_iff.mp hch).1) hch (by omega) ?_
      repeat walk_at "ts"
      refine Rt_set (t := []) (os := ((σ.objs.set k (strm k kN kT kE mended 1 pl1 pc1 (rcBuf data))).set kT (txt text (place + part.length))).set kE (.list (errs ++ errsOf (rcOut data)))) ?_ (by simp) rfl (hokS _ _ _ (hok ..) rfl rfl) q1
      rw [List.append_nil]
      exact hset _ _ _ _
end
set_option Elab.async false
set_option autoImplicit true
set_option linter.unusedVariables false
set_option maxRecDepth 20000
section
variable {c : Cx} {σ : St} {Q : V → St → Prop} {P : Params} {n : Nat}
theorem okO_mono {n m : Nat} (h : n ≤ m) {o : O} (ho : okO n o = true) : okO m o = true := by
  cases o with
  | list xs => rfl
  | cell v =>
    cases v with
    | none => rfl
    | some u =>
      have this : okV n u = true := ho
      show okV m u = true
      cases u <;> simp [okV] at this ⊢ <;> omega
  | inst C ks vs =>
    simp only [okO, List.all_eq_true] at ho ⊢
    intro v hv
    have := ho v hv
    cases v <;> simp [okV] at this ⊢ <;> omega
theorem okO_app {os ns : List O} (h : os.all (okO os.length) = true) (hn : ns.all (okO (os ++ ns).length) = true) : (os ++ ns).all (okO (os ++ ns).length) = true := by
  rw [List.all_append, hn, Bool.and_true]
  rw [List.all_eq_true] at h ⊢
  exact fun o ho => okO_mono (by simp) (h o ho)
theorem c_open (hK : c.G.K = fgx P) (hn : c.n = n + 1 + 1 + 1) {k : Nat} {text : List Nat} (hO : σ.objs.all (okO σ.objs.length) = true) 
    (q : Q (.obj σ.objs.length) ⟨σ.loc, σ.objs ++ [txt text 0]⟩) : TCallC c (.val (.ref 77)) [.obj k, .d (.str text)] σ Q := by
  refine TCallC_fn (n := n + 1 + 1) (names := ["self", "source", "stream"]) (globs := ["Text"]) (rest := ["stream"]) (ds := []) (FnOk.of2 (p1 := "self") (p2 := "source") [] [] hK rfl (fun _ _ _ => rfl) rfl (by kernel_rfl) rfl rfl (by decide)) hn rfl (fun _ _ => VRs.nil) rfl (by walk_at "tg") ?_
  repeat walk_at "ts"
  refine TCall_cls (n := n + 1) rfl (by dsimp only; rw [hK]; kernel_rfl) (m_28 (by exact hK)).1 (m_28 (by exact hK)).2.1 ?_
  have hO2 : (σ.objs ++ [O.inst 38 [] []]).all (okO (σ.objs ++ [O.inst 38 [] []]).length) = true := okO_app hO rfl
  refine c_tinit (by exact hK) rfl (by exact app_new) hO2 ⟨rfl, ?_⟩
  repeat walk_at "ts"
  have e : (σ.objs ++ [O.inst 38 [] []]).set σ.objs.length (.inst 38 tks [.d (.str text), .d (.int 0)]) = σ.objs ++ [txt text 0] := by simp [txt]
  refine ⟨σ.objs ++ [txt text 0], ⟨⟨[], by simpa using e⟩, by simp, okO_app hO rfl, by simp [retOf, okV]⟩, q⟩
theorem c_reset (hK : c.G.K = fgx P) (hn : c.n = n + 1) {k kN kT : Nat} (ho : σ.objs[k]? = some (.inst 131 ["reportCharacterErrors", "newLines", "dataStream"] [.meth 113 k, .obj kN, .obj kT])) (hO : σ.objs.all (okO σ.objs.length) = true)
    (q : Q (.d .none) ⟨σ.loc, σ.objs.set k (strm k kN kT σ.objs.length [] 0 0 0 none) ++ [.list []]⟩) : TCallC c (.val (.ref 70)) [.obj k] σ Q := by
  refine TCallC_fn (n := n) (names := ["self"]) (globs := []) (rest := []) (ds := []) (FnOk.of1 (p1 := "self") [] [] hK rfl (fun _ _ => rfl) rfl (by kernel_rfl) rfl rfl (by decide)) hn rfl (fun _ _ => VRs.nil) rfl (by walk_at "tg") ?_
  have cS : Cls c.G 131 sks := cls_S hK
  dsimp only [List.map, List.append, List.cons_append, List.nil_append]
  repeat walk_at "ts"
  have hk : k < σ.objs.length := (List.getElem?_eq_some_iff.mp ho).1
  have hv := okO_get hO ho
  have hN : kN < σ.objs.length ∧ kT < σ.objs.length := by simpa [okO, okV, hk] using hv
  refine ⟨σ.objs.set k (strm k kN kT σ.objs.length [] 0 0 0 none) ++ [O.list []], ⟨⟨[], ?_⟩, by simp, ?_, rfl⟩, q⟩
  · simp [List.set_append, hk, strm, svs, sks, bufD]
  · rw [List.all_append, List.all_eq_true.mpr]
    · rfl
    · intro o ho'
      rcases List.mem_or_eq_of_mem_set ho' with h | rfl
      · exact okO_mono (by simp) (List.all_eq_true.mp hO o h)
      · simp [strm, svs, okO, okV]; omega
theorem c_init (hK : c.G.K = fgx P) (hn : c.n = n + 1 + 1 + 1 + 1) {k : Nat} {text : List Nat} (ho : σ.objs[k]? = some (.inst 131 [] [])) (hO : σ.objs.all (okO σ.objs.length) = true)
    (q : Q (.d .none) ⟨σ.loc, σ.objs.set k (strm k σ.objs.length (σ.objs.length + 1) (σ.objs.length + 2) [] 0 0 0 none) ++ [.list [.int 0], txt text 0, .list []]⟩) : TCallC c (.val (.ref 63)) [.obj k, .d (.str text)] σ Q := by
  refine TCallC_fn (n := n + 1 + 1 + 1) (names := ["self", "source"]) (globs := []) (rest := []) (ds := []) (FnOk.of2 (p1 := "self") (p2 := "source") [] [] hK rfl (fun _ _ _ => rfl) rfl (by kernel_rfl) rfl rfl (by decide)) hn rfl (fun _ _ => VRs.nil) rfl (by walk_at "tg") ?_
  have cS : Cls c.G 131 sks := cls_S hK
  have c0 : Cls c.G 131 [] := cS.sub (by simp)
  have hk : k < σ.objs.length := (List.getElem?_eq_some_iff.mp ho).1
  dsimp only [List.map, List.append, List.cons_append, List.nil_append]
  have c2 : Cls c.G 131 ["reportCharacterErrors", "newLines"] := cS.sub (by decide +kernel)
  have c3 : Cls c.G 131 ["reportCharacterErrors", "newLines", "dataStream"] := cS.sub (by decide +kernel)
  have hsa : ∀ (A B : O) (t : List O), (σ.objs.set k A ++ t).set k B = σ.objs.set k B ++ t := by
    intro A B t
    rw [List.set_append_left _ _ (by simpa using hk), List.set_set]
  have hall : ∀ (A : O) (t : List O), okO (σ.objs.length + t.length) A = true → t.all (okO (σ.objs.length + t.length)) = true → (σ.objs.set k A ++ t).all (okO (σ.objs.set k A ++ t).length) = true := by
    intro A t h1 h2
    rw [List.length_append, List.length_set, List.all_append, h2, Bool.and_true, List.all_eq_true]
    intro o ho'
    rcases List.mem_or_eq_of_mem_set ho' with h | rfl
    · exact okO_mono (by omega) (List.all_eq_true.mp hO o h)
    · exact h1
  refine TB_to ⟨[some (.obj k), some (.d (.str text))], σ.objs.set k (.inst 131 ["reportCharacterErrors"] [.meth 113 k])⟩ ?_ ?_
  · repeat walk_at "ts"
    refine TGet_bound c0 ho (by simp) (m_113 (by exact hK)).1 (m_113 (by exact hK)).2.1 (by dsimp only; rw [hK]; kernel_rfl) (by dsimp only; rw [hK]; kernel_rfl) (by decide +kernel) ?_
    repeat walk_at "ts"
    exact ⟨rfl, rfl⟩
  refine TB_to ⟨[some (.obj k), some (.d (.str text))], σ.objs.set k (.inst 131 ["reportCharacterErrors", "newLines"] [.meth 113 k, .obj σ.objs.length]) ++ [O.list [.int 0]]⟩ ?_ ?_
  · repeat walk_at "ts"
    refine ⟨rfl, ?_⟩
    dsimp only
    rw [hsa]; simp
  refine TB_to ⟨[some (.obj k), some (.d (.str text))], σ.objs.set k (.inst 131 ["reportCharacterErrors", "newLines", "dataStream"] [.meth 113 k, .obj σ.objs.length, .obj (σ.objs.length + 1)]) ++ [O.list [.int 0], txt text 0]⟩ ?_ ?_
  · repeat walk_at "ts"
    refine TCall_of ?_
    refine c_open (by exact hK) rfl (hall _ _ (by simp [okO, okV]; omega) rfl) ?_
    repeat walk_at "ts"
    refine ⟨rfl, ?_⟩
    dsimp only [List.append, List.cons_append, List.nil_append]
    rw [List.append_assoc, hsa]; simp
  · repeat walk_at "ts"
    refine TCall_of ?_
    refine c_reset (by exact hK) rfl (app_l (set_at ho)) (hall _ _ (by simp [okO, okV]; omega) rfl) ?_
    repeat walk_at "ts"
    refine ⟨σ.objs.set k (strm k σ.objs.length (σ.objs.length + 1) (σ.objs.length + 2) [] 0 0 0 none) ++ [.list [.int 0], txt text 0, .list []], ⟨⟨[], ?_⟩, by simp, hall _ _ (by simp [strm, svs, okO, okV]; omega) rfl, rfl⟩, q⟩
    dsimp only
    rw [hsa]; simp
end
set_option Elab.async false
set_option autoImplicit true
set_option linter.unusedVariables false
/-! the plain law of a stream: what is read, against the whole text -/
theorem crlf_app : ∀ (x y : List Nat), ¬ (x.getLast? = some 13 ∧ y.head? = some 10) → crlf (x ++ y) = crlf x ++ crlf y := by
  intro x
  fun_induction crlf x with
  | case1 r ih =>
    intro y h
    rw [List.cons_append, List.cons_append, crlf, ih y, List.cons_append]
    rintro ⟨h1, h2⟩
    refine h ⟨?_, h2⟩
    cases r with
    | nil => simp at h1
    | cons a r => simpa [List.getLast?_cons_cons] using h1
  | case2 a r hne ih =>
    intro y h
    rw [List.cons_append, crlf_cons, ih y, List.cons_append]
    · rintro ⟨h1, h2⟩
      refine h ⟨?_, h2⟩
      cases r with
      | nil => simp at h1
      | cons b r => simpa [List.getLast?_cons_cons] using h1
    · rintro ⟨rfl, h2⟩
      cases r with
      | nil => exact h ⟨rfl, by simpa using h2⟩
      | cons b r =>
        simp at h2; subst h2
        exact hne r rfl rfl
  | case3 => intro y _; rfl
theorem nrm_app {x y : List Nat} (h : ¬ (x.getLast? = some 13 ∧ y.head? = some 10)) : nrm (x ++ y) = nrm x ++ nrm y := by
  unfold nrm; rw [crlf_app x y h]; simp [cr]
theorem nrm_len (x : List Nat) : (nrm x).length + nCRLF x = x.length := by rw [← crlf_len x]; simp [nrm, cr]
/-- no CR with its LF is cut here -/
def cut (t : List Nat) (i : Nat) : Prop := ∀ j, i = j + 1 → t[j]? = some 13 → t[i]? ≠ some 10
def seg (t : List Nat) (u d : Nat) : List Nat := (t.take d).drop u
theorem cut_zero (t : List Nat) : cut t 0 := fun j e => by omega
theorem getLast?_take {t : List Nat} {i : Nat} (h : i + 1 ≤ t.length) : (t.take (i + 1)).getLast? = t[i]? := by
  rw [List.getLast?_eq_getElem?, List.length_take, Nat.min_eq_left h, List.getElem?_take]; simp
theorem cut_app {t : List Nat} {i : Nat} (h : cut t i) {y : List Nat} (hy : y.head? = t[i]? ∨ y = []) : ¬ ((t.take i).getLast? = some 13 ∧ y.head? = some 10) := by
  rintro ⟨h1, h2⟩
  rcases hy with hy | rfl
  · cases i with
    | zero => simp at h1
    | succ i =>
      by_cases hl : i + 1 ≤ t.length
      · rw [getLast?_take hl] at h1
        exact h i rfl h1 (hy ▸ h2)
      · have : t[i + 1]? = none := List.getElem?_eq_none (by omega)
        rw [hy, this] at h2; cases h2
  · cases h2
theorem nrm_cut {t : List Nat} {i : Nat} (h : cut t i) : nrm t = nrm (t.take i) ++ nrm (t.drop i) := by
  have := nrm_app (cut_app h (y := t.drop i) (.inl (by rw [List.head?_drop])))
  rwa [List.take_append_drop] at this
theorem seg_app {t : List Nat} {u d : Nat} (h : u ≤ d) : t.take d = t.take u ++ seg t u d := by
  unfold seg
  have := (List.take_append_drop u (t.take d)).symm
  rwa [List.take_take, Nat.min_eq_left h] at this
theorem seg_head {t : List Nat} {u d : Nat} : (seg t u d).head? = t[u]? ∨ seg t u d = [] := by
  unfold seg
  by_cases h : u < d
  · left; rw [List.head?_drop, List.getElem?_take, if_pos h]
  · right; rw [List.drop_eq_nil_iff]; simp; omega
theorem nrm_seg {t : List Nat} {u d : Nat} (h : u ≤ d) (hc : cut t u) : nrm (t.take d) = nrm (t.take u) ++ nrm (seg t u d) := by
  rw [seg_app h]; exact nrm_app (cut_app hc seg_head)
theorem lastIx_app (ch : Nat) : ∀ (a b : List Nat), lastIx ch (a ++ b) = match lastIx ch b with | some i => some (a.length + i) | none => lastIx ch a := by
  intro a b
  induction a with
  | nil => simp only [List.nil_append, List.length_nil, Nat.zero_add]; cases lastIx ch b <;> rfl
  | cons x a ih =>
    rw [List.cons_append, lastIx, lastIx, ih]
    cases lastIx ch b with
    | none => rfl
    | some i => simp only [List.length_cons]; congr 1; omega
/-- the line and the column behind a text -/
def lnOf (x : List Nat) : Int := (x.count 10 : Nat)
def clOf (x : List Nat) : Int := match lastIx 10 x with | some i => (x.length : Int) - (i + 1) | none => x.length
theorem posL_of (a chunk : List Nat) (j : Nat) : posL chunk j (lnOf a) = lnOf (a ++ chunk.take j) := by
  simp [posL, lnOf]
theorem posC_of (a chunk : List Nat) {j : Nat} (h : j ≤ chunk.length) : posC chunk j (clOf a) = clOf (a ++ chunk.take j) := by
  unfold posC clOf
  rw [lastIx_app]
  cases h1 : lastIx 10 (chunk.take (j : Int).toNat) with
  | some i =>
    have : lastIx 10 (chunk.take j) = some i := by simpa using h1
    rw [this]
    have hl : (chunk.take j).length = j := by simp; omega
    simp only [List.length_append, hl]; omega
  | none =>
    have : lastIx 10 (chunk.take j) = none := by simpa using h1
    rw [this]
    have hl : (chunk.take j).length = j := by simp; omega
    simp only [List.length_append, hl]
    cases lastIx 10 a <;> simp <;> omega
/-- where a stream stands: the piece from u to d, its place, what was asked for, the sign held back -/
structure SS where
  u : Nat
  d : Nat
  off : Nat
  place : Nat
  b : Option Nat
/-- what is asked for next, what comes -/
def nA (t : List Nat) (a N : Nat) : Nat := min (a + N) t.length
def nD (t : List Nat) (a d : Nat) : Nat := if d + 1 < a ∧ t[a - 1]? = some 13 then a - 1 else a
def nB (t : List Nat) (a d : Nat) : Option Nat := if d + 1 < a ∧ t[a - 1]? = some 13 then some 13 else none
def SS.read (s : SS) (t : List Nat) (N : Nat) : SS := ⟨s.d, nD t (nA t s.place N) s.d, 0, nA t s.place N, nB t (nA t s.place N) s.d⟩
structure SI (t : List Nat) (s : SS) : Prop where
  ud : s.u ≤ s.d
  dl : s.d ≤ t.length
  cu : cut t s.u
  cd : cut t s.d
  ho : s.off ≤ (nrm (seg t s.u s.d)).length
  hb : (s.b = none ∧ s.place = s.d) ∨ (s.b = some 13 ∧ s.place = s.d + 1 ∧ t[s.d]? = some 13)
def NoSur (t : List Nat) : Prop := ∀ ch ∈ t, ¬ (55296 ≤ ch ∧ ch ≤ 56319)
section
variable {t : List Nat} {s : SS}
theorem SI.pl (h : SI t s) : s.d ≤ s.place ∧ s.place ≤ t.length := by
  rcases h.hb with ⟨_, e⟩ | ⟨_, e, e2⟩
  · have := h.dl; omega
  · have := (List.getElem?_eq_some_iff.mp e2).1; omega
theorem SI.data (h : SI t s) (N : Nat) : rcIn s.b (sl t (some (s.place : Int)) (some ((s.place : Int) + N))) = seg t s.d (nA t s.place N) := by
  have hp := h.pl
  rw [sl_mid _ (by omega) (by omega)]
  have e1 : ((s.place : Int) + N).toNat - (s.place : Int).toNat = N := by omega
  rw [e1, Int.toNat_natCast]
  have e2 : (t.drop s.place).take N = seg t s.place (nA t s.place N) := by
    unfold seg nA
    rw [List.drop_take]
    by_cases hN : s.place + N ≤ t.length
    · rw [Nat.min_eq_left hN, show s.place + N - s.place = N by omega]
    · rw [Nat.min_eq_right (by omega), List.take_of_length_le (by simp; omega), List.take_of_length_le (by simp)]
  rw [e2]
  rcases h.hb with ⟨hb, e⟩ | ⟨hb, e, e3⟩
  · rw [hb, e]; rfl
  · rw [hb]
    show 13 :: seg t s.place _ = _
    obtain ⟨hl, e4⟩ := List.getElem?_eq_some_iff.mp e3
    have ha : s.d < nA t s.place N := by unfold nA; omega
    unfold seg
    rw [e, List.drop_eq_getElem_cons (l := t.take (nA t (s.d + 1) N)) (i := s.d) (by rw [List.length_take, ← e]; omega)]
    rw [List.getElem_take, e4]
theorem seg_len (t : List Nat) {u d : Nat} (h : d ≤ t.length) : (seg t u d).length = d - u := by simp [seg]; omega
theorem SI.len (h : SI t s) (N : Nat) : s.place + (sl t (some (s.place : Int)) (some ((s.place : Int) + N))).length = nA t s.place N := by
  have hp := h.pl
  have e : ((s.place : Int) + (N : Int)).toNat = s.place + N := Int.toNat_natCast (s.place + N)
  rw [sl_mid _ (Int.natCast_nonneg _) (Int.add_nonneg (Int.natCast_nonneg _) (Int.natCast_nonneg _)), List.length_take, List.length_drop, e, Int.toNat_natCast, Nat.add_sub_cancel_left]
  unfold nA
  rw [← Nat.add_min_add_left, Nat.add_sub_cancel' hp.2]
theorem SI.data_nil (h : SI t s) {N : Nat} (hN : 0 < N) : seg t s.d (nA t s.place N) = [] ↔ s.d = t.length := by
  have hp := h.pl
  have hl : nA t s.place N ≤ t.length := by unfold nA; omega
  constructor
  · intro e
    have := seg_len t (u := s.d) hl
    rw [e] at this; simp at this
    unfold nA at this; omega
  · intro e
    apply List.eq_nil_of_length_eq_zero
    rw [seg_len t hl]; unfold nA; omega
theorem SI.held (h : SI t s) (ns : NoSur t) (N : Nat) : rcHeld (seg t s.d (nA t s.place N)) = decide (s.d + 1 < nA t s.place N ∧ t[nA t s.place N - 1]? = some 13) := by
  have hp := h.pl
  have hl : nA t s.place N ≤ t.length := by unfold nA; omega
  generalize nA t s.place N = a at *
  unfold rcHeld
  rw [seg_len t hl]
  by_cases h1 : s.d + 1 < a
  · have hg : (seg t s.d a).getLast? = t[a - 1]? := by
      unfold seg
      rw [List.getLast?_drop, if_neg (by simp; omega)]
      obtain ⟨i, rfl⟩ : ∃ i, a = i + 1 := ⟨a - 1, by omega⟩
      rw [getLast?_take hl]; rfl
    rw [hg]
    obtain ⟨ch, hch⟩ : ∃ ch, t[a - 1]? = some ch := ⟨_, List.getElem?_eq_getElem (by omega)⟩
    have hs := ns ch (List.mem_of_getElem? hch)
    rw [hch]
    simp only [hold]
    have e1 : decide (1 < a - s.d) = true := by simp; omega
    rw [e1, Bool.true_and]
    by_cases h13 : ch = 13
    · subst h13; simp [h1]
    · have : ¬ ((ch : Int) = 13) := by omega
      have : ¬ ((55296 : Int) ≤ ch ∧ (ch : Int) ≤ 56319) := by omega
      simp [h13, h1]; omega
  · have e1 : decide (1 < a - s.d) = false := by simp; omega
    rw [e1]; simp [h1]
theorem SI.out (h : SI t s) (ns : NoSur t) (N : Nat) : rcOut (seg t s.d (nA t s.place N)) = seg t s.d (s.read t N).d := by
  have hl : nA t s.place N ≤ t.length := by unfold nA; omega
  unfold rcOut
  rw [h.held ns]
  show _ = seg t s.d (nD t (nA t s.place N) s.d)
  generalize nA t s.place N = a at *
  unfold nD
  by_cases hc : s.d + 1 < a ∧ t[a - 1]? = some 13
  · rw [if_pos hc, if_pos (by simpa using hc), List.dropLast_eq_take, seg_len t hl]
    unfold seg
    rw [List.take_drop, List.take_take]
    congr 2
    omega
  · rw [if_neg hc, if_neg (by simpa using hc)]
theorem SI.buf (h : SI t s) (ns : NoSur t) (N : Nat) : rcBuf (seg t s.d (nA t s.place N)) = (s.read t N).b := by
  have hl : nA t s.place N ≤ t.length := by unfold nA; omega
  unfold rcBuf
  rw [h.held ns]
  show _ = nB t (nA t s.place N) s.d
  generalize nA t s.place N = a at *
  unfold nB
  by_cases hc : s.d + 1 < a ∧ t[a - 1]? = some 13
  · rw [if_pos hc, if_pos (by simpa using hc)]
    unfold seg
    rw [List.getLast?_drop, if_neg (by simp; omega)]
    obtain ⟨i, rfl⟩ : ∃ i, a = i + 1 := ⟨a - 1, by omega⟩
    rw [getLast?_take hl]; exact hc.2
  · rw [if_neg hc, if_neg (by simpa using hc)]
theorem SI.next (h : SI t s) {N : Nat} (hN : 2 ≤ N) : SI t (s.read t N) := by
  have hp := h.pl
  have hl : nA t s.place N ≤ t.length := by unfold nA; omega
  have ha : s.d ≤ nA t s.place N := by unfold nA; omega
  have ha2 : nA t s.place N = t.length ∨ s.d + 1 < nA t s.place N := by unfold nA; omega
  show SI t ⟨s.d, nD t (nA t s.place N) s.d, 0, nA t s.place N, nB t (nA t s.place N) s.d⟩
  generalize nA t s.place N = a at *
  by_cases hc : s.d + 1 < a ∧ t[a - 1]? = some 13
  · have e1 : nD t a s.d = a - 1 := by rw [nD, if_pos hc]
    have e2 : nB t a s.d = some 13 := by rw [nB, if_pos hc]
    rw [e1, e2]
    refine ⟨by simp only; omega, by simp only; omega, h.cd, ?_, Nat.zero_le _, .inr ⟨rfl, by simp only; omega, hc.2⟩⟩
    intro j e _; simp only; rw [hc.2]; simp
  · have e1 : nD t a s.d = a := by rw [nD, if_neg hc]
    have e2 : nB t a s.d = none := by rw [nB, if_neg hc]
    rw [e1, e2]
    refine ⟨ha, hl, h.cd, ?_, Nat.zero_le _, .inl ⟨rfl, rfl⟩⟩
    intro j e hj
    simp only at *
    rcases ha2 with ha2 | ha2
    · rw [ha2]; simp
    · exact absurd ⟨ha2, by rw [e]; exact hj⟩ hc
theorem SI.grow (h : SI t s) {N : Nat} (hN : 2 ≤ N) (hd : s.d < t.length) : s.d < (s.read t N).d := by
  have hp := h.pl
  show s.d < nD t (nA t s.place N) s.d
  have ha : s.d < nA t s.place N := by unfold nA; omega
  unfold nD; split <;> omega
theorem SI.read_end (h : SI t s) {N : Nat} (hd : s.d = t.length) : s.read t N = ⟨s.d, s.d, 0, s.place, none⟩ := by
  have hp := h.pl
  have e : nA t s.place N = s.place := by unfold nA; omega
  have e2 : s.place = s.d := by omega
  unfold SS.read
  rw [e, e2]
  have hn : ¬ (s.d + 1 < s.d ∧ t[s.d - 1]? = some 13) := by omega
  rw [nD, nB, if_neg hn, if_neg hn]
/-- the place in the mended text; where the piece ends -/
def SS.p (s : SS) (t : List Nat) : Nat := (nrm (t.take s.u)).length + s.off
def SS.e (s : SS) (t : List Nat) : Nat := (nrm (t.take s.d)).length
theorem SI.end_eq (h : SI t s) : s.e t = (nrm (t.take s.u)).length + (nrm (seg t s.u s.d)).length := by
  unfold SS.e; rw [nrm_seg h.ud h.cu]; simp
theorem SI.whole (h : SI t s) : nrm t = nrm (t.take s.u) ++ (nrm (seg t s.u s.d) ++ nrm (t.drop s.d)) := by
  rw [nrm_cut h.cd, nrm_seg h.ud h.cu, List.append_assoc]
theorem SI.taken (h : SI t s) : (nrm t).take (s.p t) = nrm (t.take s.u) ++ (nrm (seg t s.u s.d)).take s.off := by
  rw [h.whole, SS.p, List.take_length_add_append, List.take_append_of_le_length h.ho]
theorem SI.left (h : SI t s) : (nrm t).drop (s.p t) = (nrm (seg t s.u s.d)).drop s.off ++ nrm (t.drop s.d) := by
  rw [h.whole, SS.p, List.drop_length_add_append, List.drop_append_of_le_length h.ho]
theorem SI.at (h : SI t s) (hlt : s.off < (nrm (seg t s.u s.d)).length) : (nrm t)[s.p t]? = (nrm (seg t s.u s.d))[s.off]? := by
  rw [h.whole, SS.p, List.getElem?_append_right (by omega), Nat.add_sub_cancel_left, List.getElem?_append_left hlt]
theorem SI.p_le (h : SI t s) : s.p t ≤ s.e t ∧ s.e t ≤ (nrm t).length := by
  have := h.ho
  refine ⟨by rw [h.end_eq, SS.p]; omega, ?_⟩
  rw [SS.e, nrm_cut h.cd]; simp
theorem nrm_nil {x : List Nat} : nrm x = [] ↔ x = [] := by
  constructor
  · intro e
    apply Classical.byContradiction
    intro hx; exact nrm_ne hx e
  · rintro rfl; rfl
theorem SI.end_iff (h : SI t s) : s.e t = (nrm t).length ↔ s.d = t.length := by
  constructor
  · intro e
    have := congrArg List.length (nrm_cut h.cd)
    rw [List.length_append, ← SS.e, e] at this
    have h0 : nrm (t.drop s.d) = [] := List.eq_nil_of_length_eq_zero (by omega)
    have h1 := List.drop_eq_nil_iff.mp (nrm_nil.mp h0)
    have := h.dl; omega
  · intro e; rw [SS.e, e, List.take_length]
theorem SS.read_p (s : SS) (t : List Nat) (N : Nat) : (s.read t N).p t = s.e t := rfl
end
set_option Elab.async false
set_option autoImplicit true
set_option linter.unusedVariables false
/-- a stream among the objects -/
structure SAt (os : List O) (k kN kT kE : Nat) (t : List Nat) (s : SS) : Prop extends SI t s where
  o : os[k]? = some (strm k kN kT kE (nrm (seg t s.u s.d)) s.off (lnOf (nrm (t.take s.u))) (clOf (nrm (t.take s.u))) s.b)
  x : os[kT]? = some (txt t s.place)
  er : os[kE]? = some (.list (errsOf (t.take s.d)))
  lt : t.length ≤ 90000
  ns : NoSur t
/-- nothing but these three has changed -/
structure Only3 (os os' : List O) (k kT kE : Nat) : Prop where
  len : os'.length = os.length
  same : ∀ j, j ≠ k → j ≠ kT → j ≠ kE → os'[j]? = os[j]?
  ok : os'.all (okO os'.length) = true
theorem SAt.frame {os os' : List O} {k kN kT kE : Nat} {t : List Nat} {s : SS} (h : SAt os k kN kT kE t s) (h1 : os'[k]? = os[k]?) (h2 : os'[kT]? = os[kT]?) (h3 : os'[kE]? = os[kE]?) : SAt os' k kN kT kE t s :=
  { h with o := h1.trans h.o, x := h2.trans h.x, er := h3.trans h.er }
theorem errs_app (x y : List Nat) : errsOf (x ++ y) = errsOf x ++ errsOf y := by simp [errsOf]
section
variable {c : Cx} {σ : St} {Q : V → St → Prop} {P : Params} {n : Nat} {k kN kT kE : Nat} {t : List Nat} {s : SS}
theorem SAt.ne {os : List O} (h : SAt os k kN kT kE t s) : k ≠ kT ∧ k ≠ kE ∧ kT ≠ kE := by
  refine ⟨?_, ?_, ?_⟩
  · rintro rfl; have := h.o; rw [h.x] at this; cases this
  · rintro rfl; have := h.o; rw [h.er] at this; cases this
  · rintro rfl; have := h.x; rw [h.er] at this; cases this
theorem SAt.okS {os : List O} (h : SAt os k kN kT kE t s) (hO : os.all (okO os.length) = true) (chunk : List Nat) (off pl pc : Int) (b : Option Nat) : okO os.length (strm k kN kT kE chunk off pl pc b) = true := by
  have := okO_get hO h.o
  cases b <;> simpa [okO, strm, svs, okV] using this
/-- the three laid anew -/
theorem SAt.put {os : List O} {s' : SS} (h : SAt os k kN kT kE t s) (hO : os.all (okO os.length) = true) (hi : SI t s') {os' : List O}
    (e : os' = ((os.set k (strm k kN kT kE (nrm (seg t s'.u s'.d)) s'.off (lnOf (nrm (t.take s'.u))) (clOf (nrm (t.take s'.u))) s'.b)).set kT (txt t s'.place)).set kE (.list (errsOf (t.take s'.d)))) : SAt os' k kN kT kE t s' ∧ Only3 os os' k kT kE := by
  obtain ⟨n1, n2, n3⟩ := h.ne
  subst e
  refine ⟨{ hi with o := ?_, x := ?_, er := ?_, lt := h.lt, ns := h.ns }, ⟨by simp, fun j h1 h2 h3 => ?_, ?_⟩⟩
  · exact set_ne (Ne.symm n2) (set_ne (Ne.symm n1) (set_at h.o))
  · exact set_ne (Ne.symm n3) (set_at (set_ne n1 h.x))
  · exact set_at (set_ne n3 (set_ne n2 h.er))
  · rw [List.getElem?_set_ne (Ne.symm h3), List.getElem?_set_ne (Ne.symm h2), List.getElem?_set_ne (Ne.symm h1)]
  · refine okO_set (okO_set (okO_set hO (h.okS hO ..)) ?_) ?_ <;> rfl
theorem SAt.put1 {os : List O} {s' : SS} (h : SAt os k kN kT kE t s) (hO : os.all (okO os.length) = true) (hi : SI t s') (hp : s'.place = s.place) (hd : s'.d = s.d) {os' : List O}
    (e : os' = os.set k (strm k kN kT kE (nrm (seg t s'.u s'.d)) s'.off (lnOf (nrm (t.take s'.u))) (clOf (nrm (t.take s'.u))) s'.b)) : SAt os' k kN kT kE t s' ∧ Only3 os os' k kT kE := by
  obtain ⟨n1, n2, n3⟩ := h.ne
  refine h.put hO hi ?_
  subst e
  rw [hp, hd, set_same (l := os.set k _) (set_ne n1 h.x), set_same (set_ne n2 h.er)]
theorem s_position (hK : c.G.K = fgx P) (hn : c.n = n + 1 + 1) (h : SAt σ.objs k kN kT kE t s) (hO : σ.objs.all (okO σ.objs.length) = true)
    (q : Q (.d (.tup [.int (lnOf ((nrm t).take (s.p t)) + 1), .int (clOf ((nrm t).take (s.p t)))])) σ) : TCallC c (.val (.ref 91)) [.obj k] σ Q := by
  refine c_position1 hK hn h.o hO (by omega) (by have := h.ho; omega) ?_
  rw [posL_of, posC_of _ _ h.ho, ← h.taken]; exact q
/-- what readChunk leaves -/
theorem SAt.after (h : SAt σ.objs k kN kT kE t s) (hO : σ.objs.all (okO σ.objs.length) = true) {N : Nat} (hN : 2 ≤ N) {off : Nat} (ho : off ≤ (nrm (seg t s.d (s.read t N).d)).length) (hd : s.d < t.length) {data : List Nat} (e : data = rcIn s.b (sl t (some (s.place : Int)) (some ((s.place : Int) + N)))) {os' : List O}
    (e' : os' = ((σ.objs.set k (strm k kN kT kE (nrm (rcOut data)) off (posL (nrm (seg t s.u s.d)) (nrm (seg t s.u s.d)).length (lnOf (nrm (t.take s.u)))) (posC (nrm (seg t s.u s.d)) (nrm (seg t s.u s.d)).length (clOf (nrm (t.take s.u)))) (rcBuf data))).set kT (txt t (s.place + (sl t (some (s.place : Int)) (some ((s.place : Int) + N))).length))).set kE (.list (errsOf (t.take s.d) ++ errsOf (rcOut data)))) :
    SAt os' k kN kT kE t { s.read t N with off := off } ∧ Only3 σ.objs os' k kT kE := by
  have hi := h.toSI.next hN
  refine h.put hO (s' := { s.read t N with off := off }) ⟨hi.ud, hi.dl, hi.cu, hi.cd, ho, hi.hb⟩ ?_
  rw [e', e, h.data, h.out h.ns, h.buf h.ns, posL_of, posC_of _ _ (Nat.le_refl _), List.take_length, ← nrm_seg h.ud h.cu, ← errs_app]
  have e1 : t.take s.d ++ seg t s.d (s.read t N).d = t.take (s.read t N).d := (seg_app hi.ud).symm
  have e2 : (s.place : Int) + ((sl t (some (s.place : Int)) (some ((s.place : Int) + N))).length : Nat) = ((s.read t N).place : Nat) := by
    have := h.len N
    show _ = ((nA t s.place N : Nat) : Int)
    omega
  rw [e1, e2]; rfl
theorem SAt.after0 (h : SAt σ.objs k kN kT kE t s) (hO : σ.objs.all (okO σ.objs.length) = true) {N : Nat} (hN : 2 ≤ N) (hd : s.d = t.length) {os' : List O}
    (e' : os' = σ.objs.set k (strm k kN kT kE [] 0 (posL (nrm (seg t s.u s.d)) (nrm (seg t s.u s.d)).length (lnOf (nrm (t.take s.u)))) (posC (nrm (seg t s.u s.d)) (nrm (seg t s.u s.d)).length (clOf (nrm (t.take s.u)))) none)) :
    SAt os' k kN kT kE t (s.read t N) ∧ Only3 σ.objs os' k kT kE := by
  have hi := h.toSI.next hN
  have hr := h.toSI.read_end (N := N) hd
  refine h.put1 hO hi (by rw [hr]) (by rw [hr]) ?_
  rw [e', hr, posL_of, posC_of _ _ (Nat.le_refl _), List.take_length, ← nrm_seg h.ud h.cu]
  have : seg t s.d s.d = [] := by unfold seg; rw [List.drop_eq_nil_iff]; simp; omega
  rw [this]; rfl
theorem SAt.bounds (h : SAt σ.objs k kN kT kE t s) : (errsOf (t.take s.d)).length ≤ 100000 ∧ t.length ≤ 100000 ∧ (nrm (seg t s.u s.d)).length ≤ 100000 := by
  have h1 := errsOf_len (t.take s.d)
  have h2 := h.lt
  have h3 := nrm_len (seg t s.u s.d)
  have h4 := seg_len t (u := s.u) h.dl
  have h5 := h.dl
  simp at h1
  omega
theorem s_read (hK : c.G.K = fgx P) (hn : c.n = n + 1 + 1 + 1) (h : SAt σ.objs k kN kT kE t s) (hO : σ.objs.all (okO σ.objs.length) = true) {N : Int} (hN : 2 ≤ N)
    (q : ∀ os', SAt os' k kN kT kE t (s.read t N.toNat) → Only3 σ.objs os' k kT kE → Q (.d (.bool (decide (s.d < t.length)))) ⟨σ.loc, os'⟩) : TCallC c (.val (.ref 106)) [.obj k, .d (.int N)] σ Q := by
  obtain ⟨N, rfl⟩ : ∃ m : Nat, N = m := ⟨N.toNat, by omega⟩
  have hN' : 2 ≤ N := by omega
  obtain ⟨b1, b2, b3⟩ := h.bounds
  rw [Int.toNat_natCast] at q
  refine c_readChunk hK hn (by omega) h.o h.x h.er hO b1 b2 b3 (by omega) (fun hnil => ?_) (fun hnil => ?_)
  · rw [h.data, h.data_nil (by omega)] at hnil
    obtain ⟨a, b⟩ := h.after0 hO hN' hnil rfl
    have := q _ a b
    rwa [decide_eq_false (by omega)] at this
  · have hnil' : s.d < t.length := by
      rw [h.data, ne_eq, h.data_nil (by omega)] at hnil
      have := h.dl; omega
    obtain ⟨a, b⟩ := h.after hO hN' (off := 0) (Nat.zero_le _) hnil' rfl rfl
    have := q _ a b
    rwa [decide_eq_true hnil'] at this
theorem s_read0 (hK : c.G.K = fgx P) (hn : c.n = n + 1 + 1 + 1) (h : SAt σ.objs k kN kT kE t s) (hO : σ.objs.all (okO σ.objs.length) = true)
    (q : ∀ os', SAt os' k kN kT kE t (s.read t 10240) → Only3 σ.objs os' k kT kE → Q (.d (.bool (decide (s.d < t.length)))) ⟨σ.loc, os'⟩) : TCallC c (.val (.ref 106)) [.obj k] σ Q := by
  obtain ⟨b1, b2, b3⟩ := h.bounds
  have hN' : 2 ≤ 10240 := by omega
  refine c_readChunk0 hK hn h.o h.x h.er hO b1 b2 b3 (by omega) (fun hnil => ?_) (fun hnil => ?_)
  · rw [show (10240 : Int) = ((10240 : Nat) : Int) from rfl, h.data, h.data_nil (by omega)] at hnil
    obtain ⟨a, b⟩ := h.after0 hO hN' hnil rfl
    have := q _ a b
    rwa [decide_eq_false (by omega)] at this
  · have hnil' : s.d < t.length := by
      rw [show (10240 : Int) = ((10240 : Nat) : Int) from rfl, h.data, ne_eq, h.data_nil (by omega)] at hnil
      have := h.dl; omega
    obtain ⟨a, b⟩ := h.after hO hN' (off := 0) (Nat.zero_le _) hnil' rfl rfl
    have := q _ a b
    rwa [decide_eq_true hnil'] at this
theorem nrm_pos {x : List Nat} (h : 0 < x.length) : 0 < (nrm x).length := by
  apply List.length_pos_iff.mpr; apply nrm_ne; rintro rfl; simp at h
theorem s_char (hK : c.G.K = fgx P) (hn : c.n = n + 1 + 1 + 1 + 1) (h : SAt σ.objs k kN kT kE t s) (hO : σ.objs.all (okO σ.objs.length) = true)
    (qA : ∀ os' ch, s.p t < s.e t → (nrm t)[s.p t]? = some ch → SAt os' k kN kT kE t { s with off := s.off + 1 } → Only3 σ.objs os' k kT kE → Q (.d (.str [ch])) ⟨σ.loc, os'⟩)
    (q1 : ∀ os' ch, s.p t = s.e t → s.d < t.length → (nrm t)[s.p t]? = some ch → SAt os' k kN kT kE t { s.read t 10240 with off := 1 } → Only3 σ.objs os' k kT kE → Q (.d (.str [ch])) ⟨σ.loc, os'⟩)
    (q0 : ∀ os', s.p t = s.e t → s.d = t.length → SAt os' k kN kT kE t (s.read t 10240) → Only3 σ.objs os' k kT kE → Q (.d .none) ⟨σ.loc, os'⟩) : TCallC c (.val (.ref 98)) [.obj k] σ Q := by
  obtain ⟨b1, b2, b3⟩ := h.bounds
  have hN' : 2 ≤ 10240 := by omega
  have hoff := h.ho
  refine c_char hK hn h.o h.x h.er hO b1 b2 b3 (by omega) (by omega) (by omega) (fun ch hlt hch => ?_) (fun he hnil => ?_) (fun he data ch hdata hnil hch => ?_)
  · have hlt' : s.off < (nrm (seg t s.u s.d)).length := by omega
    have hp : s.p t < s.e t := by rw [h.end_eq, SS.p]; omega
    obtain ⟨a, b⟩ := h.put1 hO (s' := { s with off := s.off + 1 }) ⟨h.ud, h.dl, h.cu, h.cd, hlt', h.hb⟩ rfl rfl rfl
    refine qA _ ch hp ?_ a b
    rw [h.at hlt']; simpa using hch
  · rw [show (10240 : Int) = ((10240 : Nat) : Int) from rfl, h.data, h.data_nil (by omega)] at hnil
    have hp : s.p t = s.e t := by rw [h.end_eq, SS.p]; omega
    obtain ⟨a, b⟩ := h.after0 hO hN' hnil rfl
    exact q0 _ hp hnil a b
  · have hp : s.p t = s.e t := by rw [h.end_eq, SS.p]; omega
    have hnil' : s.d < t.length := by
      rw [hdata, show (10240 : Int) = ((10240 : Nat) : Int) from rfl, h.data, ne_eq, h.data_nil (by omega)] at hnil
      have := h.dl; omega
    have hi := h.toSI.next hN'
    have hg := h.toSI.grow hN' hnil'
    have hpos : 0 < (nrm (seg t s.d (s.read t 10240).d)).length := nrm_pos (by rw [seg_len t hi.dl]; omega)
    obtain ⟨a, b⟩ := h.after hO hN' (off := 1) hpos hnil' hdata rfl
    refine q1 _ ch hp hnil' ?_ a b
    have := hi.at (t := t) (s := s.read t 10240) hpos
    rw [hp, ← SS.read_p s t 10240, this]
    rw [hdata, show (10240 : Int) = ((10240 : Nat) : Int) from rfl, h.data, h.out h.ns] at hch
    exact hch
end
set_option Elab.async false
set_option autoImplicit true
set_option linter.unusedVariables false
set_option maxRecDepth 20000
/-- a run along the signs that g takes -/
inductive CU (t : List Nat) (g : Nat → Bool) : SS → SS → List Nat → Prop where
  | stop {s : SS} {pre post : List Nat} {ch : Nat} : (nrm (seg t s.u s.d)).drop s.off = pre ++ ch :: post → (∀ x ∈ pre, g x = true) → g ch = false → CU t g s { s with off := s.off + pre.length } pre
  | fin {s : SS} : (∀ x ∈ (nrm (seg t s.u s.d)).drop s.off, g x = true) → s.d = t.length → CU t g s (s.read t 10240) ((nrm (seg t s.u s.d)).drop s.off)
  | more {s s' : SS} {r : List Nat} : (∀ x ∈ (nrm (seg t s.u s.d)).drop s.off, g x = true) → s.d < t.length → CU t g (s.read t 10240) s' r → CU t g s s' ((nrm (seg t s.u s.d)).drop s.off ++ r)
theorem TB_thenif {c : Cx} {σ : St} {st : Stmt} {r : List Stmt} {Q : Fl → St → Prop} (p : Prop) (σ₁ : St) (h1 : TS c st σ (Nx (fun σ' => p ∧ σ' = σ₁) Q)) (h2 : p → TB c r σ₁ Q) : TB c (st :: r) σ Q :=
  TB_cons (TS_mono h1 fun fl σ' h => by
    cases fl with
    | next => obtain ⟨hp, rfl⟩ := h; exact h2 hp
    | brk => exact h
    | cont => exact h
    | ret v => exact h)
theorem dne {a b : Nat} (h : a ≠ b) : (!decide ((a : Int) = (b : Int))) = true := by rw [Bool.not_eq_true', decide_eq_false_iff_not]; exact fun q => h (Int.ofNat.inj q)
theorem deq {a b : Nat} (h : a = b) : (!decide ((a : Int) = (b : Int))) = false := by rw [h, decide_eq_true rfl]; rfl
theorem okL_cu {cv : V} (hcv : ∀ n, okV n cv = true) {n k j : Nat} {b : Bool} {i : Int} {r : Option V} (h1 : k < n) (h2 : j < n) (hr : okL n [r] = true := by rfl) : okL n [some (.obj k), some cv, some (.d (.bool b)), some (.obj j), some (.d (.int i)), r] = true := by
  simp only [okL, Bool.and_eq_true]
  exact ⟨by simp [okV, h1], hcv _, rfl, by simp [okV, h2], rfl, hr⟩
section
variable {c : Cx} {P : Params}
set_option maxHeartbeats 4000000 in
theorem cu_all (hK : c.G.K = fgx P) : ∃ body scope, FnOk c.G 121 3 ["self", "characters", "opposite"] [] body scope ∧ FnOk c.G 121 2 ["self", "characters", "opposite"] [.bool false] body scope ∧
    (∀ n n₀, (⟨c.G, n, n₀, scope, ["self", "characters", "opposite", "rv", "end", "r"], []⟩ : Cx).Good) ∧
    ∀ (σ : St) (Q : V → St → Prop) (n : Nat) (cv : V) (f : Nat → Bool) (opp : Bool) (k kN kT kE : Nat) (t : List Nat) (s : SS), isCel cv = false → (∀ n, okV n cv = true) → (∀ (c' : Cx) (σ' : St) (ch : Nat) (QB : Bool → St → Prop), c'.G = c.G → QB (f ch) σ' → TC c' .In (.d (.str [ch])) cv σ' QB) →
      SAt σ.objs k kN kT kE t s → σ.objs.all (okO σ.objs.length) = true →
      (∀ os' s' r, CU t (fun ch => f ch == opp) s s' r → SAt os' k kN kT kE t s' → Only3 σ.objs os' k kT kE → Q (.d (.str r)) ⟨σ.loc, os'⟩) →
      TB ⟨c.G, n + 1 + 1 + 1, σ.objs.length, scope, ["self", "characters", "opposite", "rv", "end", "r"], []⟩ body ⟨[some (.obj k), some cv, some (.d (.bool opp)), none, none, none], σ.objs⟩ (Rt σ Q) := by
  refine ⟨_, _, FnOk.of3 (p1 := "self") (p2 := "characters") (p3 := "opposite") [] [] hK rfl (fun _ _ _ _ => rfl) rfl (by kernel_rfl) rfl rfl (by decide), FnOk.of2 (p1 := "self") (p2 := "characters") [.bool false] ["opposite"] hK rfl (fun _ _ _ => rfl) rfl (by kernel_rfl) rfl rfl (by decide), fun _ _ => by walk_at "tg", ?_⟩
  intro σ Q n cv f opp k kN kT kE t s hcvc hcv hIn hS hO q
  have cS : Cls c.G 131 sks := cls_S hK
  have hkl : k < σ.objs.length := (List.getElem?_eq_some_iff.mp hS.o).1
  have hkTl : kT < σ.objs.length := (List.getElem?_eq_some_iff.mp hS.x).1
  have hkEl : kE < σ.objs.length := (List.getElem?_eq_some_iff.mp hS.er).1
  have hne := hS.ne
  have nk : k ≠ σ.objs.length := Nat.ne_of_lt hkl
  have nkT : kT ≠ σ.objs.length := Nat.ne_of_lt hkTl
  have nkE : kE ≠ σ.objs.length := Nat.ne_of_lt hkEl
  refine TB_to ⟨[some (.obj k), some cv, some (.d (.bool opp)), some (.obj σ.objs.length), none, none], σ.objs ++ [O.list (([] : List (List Nat)).map .str)]⟩ ?_ ?_
  · repeat walk_at "ts"
    exact ⟨rfl, rfl⟩
  refine TB_cons (TS_mono (Q := fun fl σ' => fl = .next ∧ ∃ (X : List O) (s' : SS) (ps : List (List Nat)) (ev : Option V), σ' = ⟨[some (.obj k), some cv, some (.d (.bool opp)), some (.obj σ.objs.length), ev, none], X⟩ ∧ X.length = σ.objs.length + 1 ∧ X[σ.objs.length]? = some (.list (ps.map .str)) ∧
      SAt X k kN kT kE t s' ∧ X.all (okO X.length) = true ∧ (∀ j, j < σ.objs.length → j ≠ k → j ≠ kT → j ≠ kE → X[j]? = σ.objs[j]?) ∧ CU t (fun ch => f ch == opp) s s' ps.flatten ∧ ps.flatten.length ≤ t.length) ?_ ?_)
  · refine TS_while (fun m σ' => ∃ (X : List O) (s' : SS) (ps : List (List Nat)), σ' = ⟨[some (.obj k), some cv, some (.d (.bool opp)), some (.obj σ.objs.length), none, none], X⟩ ∧ X.length = σ.objs.length + 1 ∧ X[σ.objs.length]? = some (.list (ps.map .str)) ∧
      SAt X k kN kT kE t s' ∧ X.all (okO X.length) = true ∧ (∀ j, j < σ.objs.length → j ≠ k → j ≠ kT → j ≠ kE → X[j]? = σ.objs[j]?) ∧ (∀ s'' r, CU t (fun ch => f ch == opp) s' s'' r → CU t (fun ch => f ch == opp) s s'' (ps.flatten ++ r)) ∧ ps.flatten.length ≤ s'.p t ∧ ps.length ≤ s'.d ∧ m = t.length - s'.d)
      (n := t.length - s.d) ⟨_, s, [], rfl, by simp, app_new, hS.frame (app_l hS.o |>.trans hS.o.symm) (app_l hS.x |>.trans hS.x.symm) (app_l hS.er |>.trans hS.er.symm), okO_app hO rfl, fun j hj _ _ _ => List.getElem?_append_left hj, fun _ _ h => h, Nat.zero_le _, Nat.zero_le _, rfl⟩ ?_
    rintro m _ ⟨X, s1, ps, rfl, hXl, hXr, h1, hXO, hXs, hcu, hpl, hpc, rfl⟩
    have ho1 : X[k]? = some (.inst 131 sks (svs k kN kT kE (nrm (seg t s1.u s1.d)) (nrm (seg t s1.u s1.d)).length s1.off (lnOf (nrm (t.take s1.u))) (clOf (nrm (t.take s1.u))) (bufD s1.b))) := h1.o
    have hoff := h1.ho
    obtain ⟨hb1, hb2, hb3⟩ := SAt.bounds (σ := ⟨[], X⟩) h1
    have hpe := h1.end_eq
    have hpp : s1.p t = (nrm (t.take s1.u)).length + s1.off := rfl
    have hple := h1.p_le
    have hnl := nrm_len t
    have hdl1 := h1.dl
    have hlt1 := h1.lt
    generalize hC : nrm (seg t s1.u s1.d) = C at *
    repeat walk_at "ts"
    refine ite_t rfl ?_
    refine TB_to ⟨[some (.obj k), some cv, some (.d (.bool opp)), some (.obj σ.objs.length), some (.d (.int s1.off)), none], X⟩ ?_ ?_
    · repeat walk_at "ts"
      exact ⟨rfl, rfl⟩
    -- along the piece
    refine TB_cons (TS_mono (Q := fun fl σ' => fl = .next ∧ ∃ i : Nat, σ' = ⟨[some (.obj k), some cv, some (.d (.bool opp)), some (.obj σ.objs.length), some (.d (.int ((s1.off + i : Nat) : Int))), none], X⟩ ∧ s1.off + i ≤ C.length ∧
        (∀ x ∈ (C.drop s1.off).take i, (f x == opp) = true) ∧ (s1.off + i = C.length ∨ ∃ ch, C[s1.off + i]? = some ch ∧ (f ch == opp) = false)) ?_ ?_)
    · refine TS_while (fun m σ' => ∃ i : Nat, σ' = ⟨[some (.obj k), some cv, some (.d (.bool opp)), some (.obj σ.objs.length), some (.d (.int ((s1.off + i : Nat) : Int))), none], X⟩ ∧ s1.off + i ≤ C.length ∧
        (∀ x ∈ (C.drop s1.off).take i, (f x == opp) = true) ∧ m = C.length - (s1.off + i)) (n := C.length - (s1.off + 0)) ⟨0, rfl, by omega, by simp, rfl⟩ ?_
      rintro m _ ⟨i, rfl, hi, hall, rfl⟩
      repeat walk_at "ts"
      by_cases he : s1.off + i = C.length
      · refine ite_f (deq he) ?_
        refine ite_f rfl ?_
        exact ⟨rfl, i, rfl, hi, hall, .inl he⟩
      · refine ite_t (dne he) ?_
        obtain ⟨ch, hch⟩ : ∃ ch, C[s1.off + i]? = some ch := ⟨_, List.getElem?_eq_getElem (Nat.lt_of_le_of_ne hi he)⟩
        repeat walk_at "ts"
        refine TItem_str (j := s1.off + i) (ch := ch) (sIx rfl (Nat.lt_of_le_of_ne hi he)) hch (by omega) ?_
        repeat walk_at "ts"
        refine hIn _ _ _ _ rfl ?_
        repeat walk_at "ts"
        refine TC_eqbool ?_
        cases hg : (f ch == opp)
        · refine ite_f rfl ?_
          refine ite_f rfl ?_
          exact ⟨rfl, i, rfl, hi, hall, .inr ⟨ch, hch, hg⟩⟩
        · refine ite_t rfl (TT_and0 (ite_t rfl ?_))
          repeat walk_at "ts"
          refine ⟨⟨[some (.obj k), some cv, some (.d (.bool opp)), some (.obj σ.objs.length), some (.d (.int ((s1.off + (i + 1) : Nat) : Int))), none], X⟩, { objs := ⟨[], (List.append_nil _).symm⟩, base := hXl ▸ Nat.le_succ _, okO := hXO, loc := ?_, okL := ?_ }, C.length - (s1.off + (i + 1)), by omega, i + 1, rfl, by omega, ?_, rfl⟩
          · rw [show ((s1.off + i : Nat) : Int) + 1 = ((s1.off + (i + 1) : Nat) : Int) from rfl]
            exact .same (.same (.same (.same (.same (.same .nil)))))
          · exact okL_cu hcv (hXl ▸ Nat.lt_succ_of_lt hkl) (hXl ▸ Nat.lt_succ_self _)
          · intro x hx
            rw [List.take_add_one, List.getElem?_drop, hch] at hx
            rcases List.mem_append.mp hx with h | h
            · exact hall x h
            · simp at h; subst h; exact hg
    · rintro fl _ ⟨rfl, i, rfl, hi, hall, hend⟩
      refine Nx_next ?_
      -- the leaves
      have hdl : (C.drop s1.off).length = C.length - s1.off := by simp
      have stopCU : s1.off + i ≠ C.length → CU t (fun ch => f ch == opp) s1 { s1 with off := s1.off + i } ((C.drop s1.off).take i) := by
        intro hne
        obtain ⟨ch, hch, hg⟩ : ∃ ch, C[s1.off + i]? = some ch ∧ (f ch == opp) = false := hend.resolve_left hne
        have hlen : ((C.drop s1.off).take i).length = i := by rw [List.length_take, hdl]; omega
        have e : (nrm (seg t s1.u s1.d)).drop s1.off = (C.drop s1.off).take i ++ ch :: (C.drop s1.off).drop (i + 1) := by
          rw [hC]
          have h1 := (List.take_append_drop i (C.drop s1.off)).symm
          have h2 : i < (C.drop s1.off).length := by rw [hdl]; omega
          rw [List.drop_eq_getElem_cons h2] at h1
          have h3 : (C.drop s1.off)[i] = ch := by
            have : (C.drop s1.off)[i]? = some ch := by rw [List.getElem?_drop]; exact hch
            exact (List.getElem?_eq_some_iff.mp this).2
          rw [h3] at h1; exact h1
        have := CU.stop (t := t) (g := fun ch => f ch == opp) (s := s1) e hall hg
        rwa [hlen] at this
      have flt : ∀ x : List Nat, (ps ++ [x]).flatten = ps.flatten ++ x := fun x => by simp
      have hXO2 : ∀ xs : List D, (X.set σ.objs.length (.list xs)).all (okO (X.set σ.objs.length (.list xs)).length) = true := fun xs => okO_set hXO rfl
      have hXr2 : ∀ (xs : List D), (X.set σ.objs.length (.list xs))[σ.objs.length]? = some (.list xs) := fun xs => set_at hXr
      have hXs2 : ∀ (xs : List D) j, j ≠ σ.objs.length → (X.set σ.objs.length (.list xs))[j]? = X[j]? := fun xs j hj => List.getElem?_set_ne (Ne.symm hj)
      have h1f : ∀ xs : List D, SAt (X.set σ.objs.length (.list xs)) k kN kT kE t s1 := fun xs => h1.frame (hXs2 xs k nk) (hXs2 xs kT nkT) (hXs2 xs kE nkE)
      have stopS : SI t { s1 with off := s1.off + i } := ⟨h1.ud, h1.dl, h1.cu, h1.cd, by rw [hC]; exact hi, h1.hb⟩
      have putS : ∀ xs : List D, SAt ((X.set σ.objs.length (.list xs)).set k (strm k kN kT kE C ((s1.off + i : Nat) : Int) (lnOf (nrm (t.take s1.u))) (clOf (nrm (t.take s1.u))) s1.b)) k kN kT kE t { s1 with off := s1.off + i } ∧
          Only3 (X.set σ.objs.length (.list xs)) ((X.set σ.objs.length (.list xs)).set k (strm k kN kT kE C ((s1.off + i : Nat) : Int) (lnOf (nrm (t.take s1.u))) (clOf (nrm (t.take s1.u))) s1.b)) k kT kE := by
        intro xs
        refine (h1f xs).put1 (hXO2 xs) stopS rfl rfl ?_
        rw [← hC]
      refine TB_thenif (s1.off + i = C.length) ⟨[some (.obj k), some cv, some (.d (.bool opp)), some (.obj σ.objs.length), some (.d (.int ((s1.off + i : Nat) : Int))), none], X⟩ ?_ (fun hfull => ?_)
      · repeat walk_at "ts"
        by_cases hi0 : i = 0
        · subst hi0
          refine ite_t (by simp) ?_
          repeat walk_at "ts"
          by_cases hfull : s1.off = C.length
          · refine ite_f (by simp [hfull]) ?_
            repeat walk_at "ts"
            exact ⟨hfull, rfl⟩
          · refine ite_t (dne hfull) ?_
            repeat walk_at "ts"
            have st0 := stopCU hfull
            rw [List.take_zero, Nat.add_zero] at st0
            have hcu2 := hcu s1 [] st0
            rw [List.append_nil] at hcu2
            have hpt : ps.flatten.length ≤ t.length := by omega
            exact ⟨rfl, X, s1, ps, some (.d (.int ((s1.off + 0 : Nat) : Int))), rfl, hXl, hXr, h1, hXO, hXs, hcu2, hpt⟩
        · refine ite_f (by simp; omega) ?_
          repeat walk_at "ts"
          by_cases hfull : s1.off + i = C.length
          · refine ite_f (deq hfull) ?_
            repeat walk_at "ts"
            exact ⟨hfull, rfl⟩
          · refine ite_t (dne hfull) ?_
            iterate 4 walk_at "ts"
            refine TMeth_append hXr ?_
            repeat walk_at "ts"
            refine TSlc_str (by omega) ?_
            rw [sl_mid _ (Int.natCast_nonneg _) (Int.natCast_nonneg _), Int.toNat_natCast, Int.toNat_natCast, Nat.add_sub_cancel_left]
            repeat walk_at "ts"
            refine TCall_append hXr (by simp; omega) ?_
            have ho2 : (X.set σ.objs.length (O.list (ps.map D.str ++ [.str ((C.drop s1.off).take i)])))[k]? = some (.inst 131 sks (svs k kN kT kE C C.length s1.off (lnOf (nrm (t.take s1.u))) (clOf (nrm (t.take s1.u))) (bufD s1.b))) := (hXs2 _ k nk).trans ho1
            repeat walk_at "ts"
            obtain ⟨a, b⟩ := putS (ps.map D.str ++ [.str ((C.drop s1.off).take i)])
            have hlen : ((C.drop s1.off).take i).length = i := by rw [List.length_take, hdl]; omega
            refine ⟨rfl, (X.set σ.objs.length (.list (ps.map .str ++ [.str ((C.drop s1.off).take i)]))).set k (strm k kN kT kE C ((s1.off + i : Nat) : Int) (lnOf (nrm (t.take s1.u))) (clOf (nrm (t.take s1.u))) s1.b), { s1 with off := s1.off + i }, ps ++ [(C.drop s1.off).take i], _, rfl, ?_, ?_, ?_, b.ok, ?_, ?_, ?_⟩
            · simp [hXl]
            · rw [b.same _ nk.symm nkT.symm nkE.symm, hXr2]; simp
            · exact a
            · intro j hj n1 n2 n3
              rw [b.same j n1 n2 n3, hXs2 _ j (Nat.ne_of_lt hj), hXs j hj n1 n2 n3]
            · rw [flt]; exact hcu _ _ (stopCU hfull)
            · rw [flt, List.length_append, hlen]; omega
      · have hall' : ∀ x ∈ C.drop s1.off, (f x == opp) = true := by rwa [List.take_of_length_le (by rw [hdl]; omega)] at hall
        have hflen : (ps ++ [C.drop s1.off]).flatten.length ≤ s1.e t := by rw [flt, List.length_append, hdl]; omega
        refine TB_to ⟨[some (.obj k), some cv, some (.d (.bool opp)), some (.obj σ.objs.length), some (.d (.int ((s1.off + i : Nat) : Int))), none], X.set σ.objs.length (.list ((ps ++ [C.drop s1.off]).map .str))⟩ ?_ ?_
        · repeat walk_at "ts"
          refine TMeth_append hXr ?_
          repeat walk_at "ts"
          refine TSlc_str (by omega) ?_
          rw [sl_from _ (Int.natCast_nonneg _), Int.toNat_natCast]
          repeat walk_at "ts"
          refine TCall_append hXr (by simp; omega) ?_
          repeat walk_at "ts"
          refine ⟨rfl, ?_⟩
          simp
        have hr := hXr2 ((ps ++ [C.drop s1.off]).map .str)
        have hs2 := hXs2 ((ps ++ [C.drop s1.off]).map .str)
        have h2 := h1f ((ps ++ [C.drop s1.off]).map .str)
        have hO2 := hXO2 ((ps ++ [C.drop s1.off]).map .str)
        have hl2 : (X.set σ.objs.length (.list ((ps ++ [C.drop s1.off]).map .str))).length = σ.objs.length + 1 := by simp [hXl]
        generalize X.set σ.objs.length (.list ((ps ++ [C.drop s1.off]).map .str)) = Y at *
        have ho2 : Y[k]? = some (.inst 131 sks (svs k kN kT kE (nrm (seg t s1.u s1.d)) (nrm (seg t s1.u s1.d)).length s1.off (lnOf (nrm (t.take s1.u))) (clOf (nrm (t.take s1.u))) (bufD s1.b))) := h2.o
        repeat walk_at "ts"
        refine TCall_of ?_
        refine s_read0 (by exact hK) rfl (by exact h2) (by exact hO2) (fun os' a b => ?_)
        have b : Only3 Y os' k kT kE := b
        have hsame : ∀ j, j < σ.objs.length → j ≠ k → j ≠ kT → j ≠ kE → os'[j]? = σ.objs[j]? := fun j hj n1 n2 n3 => by rw [b.same j n1 n2 n3, hs2 j (Nat.ne_of_lt hj), hXs j hj n1 n2 n3]
        have hrv : os'[σ.objs.length]? = some (.list ((ps ++ [C.drop s1.off]).map .str)) := by rw [b.same _ nk.symm nkT.symm nkE.symm]; exact hr
        repeat walk_at "ts"
        by_cases hd : s1.d < t.length
        · refine ite_f (by simp [hd]) ?_
          repeat walk_at "ts"
          have hgr := h1.toSI.grow (N := 10240) (by omega) hd
          have hdl' := a.dl
          refine ⟨⟨[some (.obj k), some cv, some (.d (.bool opp)), some (.obj σ.objs.length), none, none], os'⟩, { objs := ⟨[], (List.append_nil _).symm⟩, base := by show σ.objs.length ≤ os'.length; rw [b.len]; omega, okO := b.ok, loc := .same (.same (.same (.same (.drop (.same .nil))))), okL := ?_ }, t.length - (s1.read t 10240).d, by omega, os', s1.read t 10240, ps ++ [C.drop s1.off], rfl, by rw [b.len]; exact hl2, hrv, a, b.ok, hsame, ?_, ?_, ?_, rfl⟩
          · have hz : σ.objs.length < os'.length := by rw [b.len]; omega
            simp only [okL, Bool.and_eq_true]
            exact ⟨by simp [okV]; omega, hcv _, rfl, by simp [okV]; omega, by first | rfl | trivial⟩
          · intro s'' r hr
            rw [flt, List.append_assoc]
            have := CU.more (t := t) (g := fun ch => f ch == opp) (s := s1) (by rw [hC]; exact hall') hd hr
            rw [hC] at this
            exact hcu _ _ this
          · rw [SS.read_p]; exact hflen
          · simp; omega
        · refine ite_t (by simp [hd]) ?_
          repeat walk_at "ts"
          have hd' : s1.d = t.length := by have := h1.dl; omega
          have := CU.fin (t := t) (g := fun ch => f ch == opp) (s := s1) (by rw [hC]; exact hall') hd'
          rw [hC] at this
          exact ⟨rfl, os', s1.read t 10240, ps ++ [C.drop s1.off], _, rfl, by rw [b.len]; exact hl2, hrv, a, b.ok, hsame, by rw [flt]; exact hcu _ _ this, by omega⟩
  · rintro fl _ ⟨rfl, X, s', ps, ev, rfl, hXl, hXr, h1, hXO, hXs, hcu, hpl⟩
    have hlt := h1.lt
    repeat walk_at "ts"
    refine TCall_join hXr (by rw [← List.length_flatten]; omega) ?_
    repeat walk_at "ts"
    have hspl : X = X.take σ.objs.length ++ [O.list (ps.map .str)] := by
      have e := (List.take_append_drop σ.objs.length X).symm
      rw [List.drop_eq_getElem_cons (by omega), List.drop_of_length_le (by omega)] at e
      have e2 : X[σ.objs.length] = O.list (ps.map .str) := (List.getElem?_eq_some_iff.mp hXr).2
      rw [e2] at e; exact e
    have htl : (X.take σ.objs.length).length = σ.objs.length := by simp; omega
    have hget : ∀ j, j < σ.objs.length → (X.take σ.objs.length)[j]? = X[j]? := fun j hj => by rw [List.getElem?_take, if_pos hj]
    have hok2 : (X.take σ.objs.length).all (okO (X.take σ.objs.length).length) = true := by
      rw [List.all_eq_true]
      intro o ho
      obtain ⟨j, hj, rfl⟩ := List.getElem_of_mem ho
      have hjl : j < σ.objs.length := Nat.lt_of_lt_of_eq hj htl
      rw [htl]
      by_cases hjk : j = k ∨ j = kT ∨ j = kE
      · have hoS : okO σ.objs.length (strm k kN kT kE (nrm (seg t s'.u s'.d)) s'.off (lnOf (nrm (t.take s'.u))) (clOf (nrm (t.take s'.u))) s'.b) = true := hS.okS hO ..
        have hj2 : (X.take σ.objs.length)[j]? = some (X.take σ.objs.length)[j] := List.getElem?_eq_getElem hj
        rw [hget j hjl] at hj2
        rcases hjk with rfl | rfl | rfl
        · rw [h1.o] at hj2; injection hj2 with hj2; rw [← hj2]; exact hoS
        · rw [h1.x] at hj2; injection hj2 with hj2; rw [← hj2]; rfl
        · rw [h1.er] at hj2; injection hj2 with hj2; rw [← hj2]; rfl
      · have hj2 : (X.take σ.objs.length)[j]? = some (X.take σ.objs.length)[j] := List.getElem?_eq_getElem hj
        rw [hget j hjl, hXs j hjl (fun q => hjk (.inl q)) (fun q => hjk (.inr (.inl q))) (fun q => hjk (.inr (.inr q)))] at hj2
        exact okO_get hO hj2
    refine ⟨X.take σ.objs.length, ⟨⟨[O.list (ps.map .str)], hspl⟩, by omega, hok2, rfl⟩, ?_⟩
    refine q _ s' _ hcu (h1.frame (hget _ hkl) (hget _ hkTl) (hget _ hkEl)) ⟨htl, fun j n1 n2 n3 => ?_, hok2⟩
    by_cases hj : j < σ.objs.length
    · rw [hget j hj, hXs j hj n1 n2 n3]
    · rw [List.getElem?_eq_none (Nat.le_of_not_lt fun q => hj (Nat.lt_of_lt_of_eq q htl)), List.getElem?_eq_none (Nat.le_of_not_lt hj)]
theorem c_until3 {σ : St} {Q : V → St → Prop} {n : Nat} (hK : c.G.K = fgx P) (hn : c.n = n + 1 + 1 + 1 + 1) {k kN kT kE : Nat} {t : List Nat} {s : SS} {cv : V} {f : Nat → Bool} {opp : Bool} (hcc : isCel cv = false) (hcv : ∀ n, okV n cv = true)
    (hIn : ∀ (c' : Cx) (σ' : St) (ch : Nat) (QB : Bool → St → Prop), c'.G = c.G → QB (f ch) σ' → TC c' .In (.d (.str [ch])) cv σ' QB) (hS : SAt σ.objs k kN kT kE t s) (hO : σ.objs.all (okO σ.objs.length) = true)
    (q : ∀ os' s' r, CU t (fun ch => f ch == opp) s s' r → SAt os' k kN kT kE t s' → Only3 σ.objs os' k kT kE → Q (.d (.str r)) ⟨σ.loc, os'⟩) : TCallC c (.val (.ref 121)) [.obj k, cv, .d (.bool opp)] σ Q := by
  obtain ⟨body, scope, F3, F2, good, h⟩ := cu_all (c := c) hK
  exact TCallC_fn (n := n + 1 + 1 + 1) (names := ["self", "characters", "opposite", "rv", "end", "r"]) (globs := []) (rest := ["rv", "end", "r"]) (ds := []) F3 hn rfl (fun _ _ => VRs.nil) rfl (good _ _)
    (h σ Q n cv f opp k kN kT kE t s hcc hcv hIn hS hO q)
theorem c_until2 {σ : St} {Q : V → St → Prop} {n : Nat} (hK : c.G.K = fgx P) (hn : c.n = n + 1 + 1 + 1 + 1) {k kN kT kE : Nat} {t : List Nat} {s : SS} {cv : V} {f : Nat → Bool} (hcc : isCel cv = false) (hcv : ∀ n, okV n cv = true)
    (hIn : ∀ (c' : Cx) (σ' : St) (ch : Nat) (QB : Bool → St → Prop), c'.G = c.G → QB (f ch) σ' → TC c' .In (.d (.str [ch])) cv σ' QB) (hS : SAt σ.objs k kN kT kE t s) (hO : σ.objs.all (okO σ.objs.length) = true)
    (q : ∀ os' s' r, CU t (fun ch => f ch == false) s s' r → SAt os' k kN kT kE t s' → Only3 σ.objs os' k kT kE → Q (.d (.str r)) ⟨σ.loc, os'⟩) : TCallC c (.val (.ref 121)) [.obj k, cv] σ Q := by
  obtain ⟨body, scope, F3, F2, good, h⟩ := cu_all (c := c) hK
  exact TCallC_fn (n := n + 1 + 1 + 1) (names := ["self", "characters", "opposite", "rv", "end", "r"]) (globs := []) (rest := ["rv", "end", "r"]) (ds := [.d (.bool false)]) F2 hn rfl (fun _ _ => VRs.cons (DR.bool _) VRs.nil) rfl (good _ _)
    (h σ Q n cv f false k kN kT kE t s hcc hcv hIn hS hO q)
end
set_option Elab.async false
set_option autoImplicit true
set_option linter.unusedVariables false
set_option maxRecDepth 20000
section
variable {c : Cx} {σ : St} {Q : V → St → Prop} {P : Params} {n : Nat} {k kN kT kE : Nat} {t : List Nat} {s : SS}
theorem s_unget (hK : c.G.K = fgx P) (hn : c.n = n + 1) (h : SAt σ.objs k kN kT kE t s) (hO : σ.objs.all (okO σ.objs.length) = true) {ch : Nat} (h0 : 0 < s.off) (hch : (nrm (seg t s.u s.d))[s.off - 1]? = some ch)
    (q : ∀ os', SAt os' k kN kT kE t { s with off := s.off - 1 } → Only3 σ.objs os' k kT kE → Q (.d .none) ⟨σ.loc, os'⟩) : TCallC c (.val (.ref 128)) [.obj k, .d (.str [ch])] σ Q := by
  have cS : Cls c.G 131 sks := cls_S hK
  have ho' : σ.objs[k]? = some (.inst 131 sks (svs k kN kT kE (nrm (seg t s.u s.d)) (nrm (seg t s.u s.d)).length s.off (lnOf (nrm (t.take s.u))) (clOf (nrm (t.take s.u))) (bufD s.b))) := h.o
  have hoff := h.ho
  have hlen : (nrm (seg t s.u s.d)).length ≤ 100000 := by
    have h1 := nrm_len (seg t s.u s.d)
    have h2 : (seg t s.u s.d).length ≤ t.length := by unfold seg; simp; omega
    have := h.lt; omega
  have hput := h.put1 hO (s' := { s with off := s.off - 1 }) { h.toSI with ho := Nat.le_trans (Nat.sub_le _ _) h.ho } rfl rfl rfl
  refine TCallC_fn (n := n) (names := ["self", "char"]) (globs := ["EOF"]) (rest := []) (ds := []) (FnOk.of2 (p1 := "self") (p2 := "char") [] [] hK rfl (fun _ _ _ => rfl) rfl (by kernel_rfl) rfl rfl (by decide)) hn rfl (fun _ _ => VRs.nil) rfl (by walk_at "tg") ?_
  dsimp only [List.map, List.append, List.cons_append, List.nil_append]
  repeat walk_at "ts"
  refine TC_isnotn ?_
  dsimp only
  refine ite_t rfl ?_
  repeat walk_at "ts"
  refine ite_f (by simp; omega) ?_
  repeat walk_at "ts"
  refine TInp_sub ?_
  repeat walk_at "ts"
  refine TS_assert ?_
  repeat walk_at "ts"
  refine TItem_str (j := s.off - 1) (ch := ch) (sIx (Int.ofNat_sub h0).symm (by omega)) hch (by omega) ?_
  repeat walk_at "ts"
  refine TC_eqs ⟨by simp, ?_⟩
  repeat walk_at "ts"
  have e : ((s.off - 1 : Nat) : Int) = (s.off : Int) - 1 := by omega
  refine ⟨_, ⟨⟨[], ?_⟩, by simp, hput.2.ok, rfl⟩, q _ hput.1 hput.2⟩
  rw [List.append_nil]
  dsimp only
  rw [e]; rfl
theorem s_unget0 (hK : c.G.K = fgx P) (hn : c.n = n + 1) (hO : σ.objs.all (okO σ.objs.length) = true) (q : Q (.d .none) σ) : TCallC c (.val (.ref 128)) [.obj k, .d .none] σ Q := by
  refine TCallC_fn (n := n) (names := ["self", "char"]) (globs := ["EOF"]) (rest := []) (ds := []) (FnOk.of2 (p1 := "self") (p2 := "char") [] [] hK rfl (fun _ _ _ => rfl) rfl (by kernel_rfl) rfl rfl (by decide)) hn rfl (fun _ _ => VRs.nil) rfl (by walk_at "tg") ?_
  dsimp only [List.map, List.append, List.cons_append, List.nil_append]
  repeat walk_at "ts"
  refine TC_isnotn ?_
  dsimp only
  refine ite_f rfl ?_
  repeat walk_at "ts"
  exact Rt_same (by rfl) hO (t := []) (by simp) q
/-- a drawn sign -/
def lawSign (n : Int) : Nat := if n % 12 < 11 then ([97, 13, 10, 13, 38, 98, 10, 32, 0, 1, 12][(n % 12).toNat]?).getD 0 else
  (if n / 96 % 1112064 < 55296 then n / 96 % 1112064 else n / 96 % 1112064 + 2048).toNat
theorem c_sign (hK : c.G.K = fgx P) (hn : c.n = n + 1) {m : Int} (hO : σ.objs.all (okO σ.objs.length) = true)
    (q : Q (.d (.str [lawSign m])) σ) : TCallC c (.val (.ref 148)) [.d (.int m)] σ Q := by
  refine TCallC_fn (n := n) (names := ["n", "point"]) (globs := ["_law_SIGNS", "chr"]) (rest := ["point"]) (ds := []) (FnOk.of1 (p1 := "n") [] [] hK rfl (fun _ _ => rfl) rfl (by kernel_rfl) rfl rfl (by decide)) hn rfl (fun _ _ => VRs.nil) rfl (by walk_at "tg") ?_
  dsimp only [List.map, List.append, List.cons_append, List.nil_append]
  have hm0 : 0 ≤ m % 12 := Int.emod_nonneg _ (by decide)
  have hm1 : m % 12 < 12 := Int.emod_lt_of_pos _ (by decide)
  repeat walk_at "ts"
  refine TBin_mod (by decide) ?_
  repeat walk_at "ts"
  by_cases h : m % 12 < 11
  · refine ite_t (by simp [h]) ?_
    obtain ⟨ch, hch⟩ : ∃ ch, [97, 13, 10, 13, 38, 98, 10, 32, 0, 1, 12][(m % 12).toNat]? = some ch := ⟨_, List.getElem?_eq_getElem (by simp; omega)⟩
    have e : lawSign m = ch := by unfold lawSign; rw [if_pos h, hch]; rfl
    rw [e] at q
    repeat walk_at "ts"
    refine TBin_mod (by decide) ?_
    repeat walk_at "ts"
    refine TItem_str (j := (m % 12).toNat) (ch := ch) (sIx (Int.toNat_of_nonneg hm0).symm (by simp; omega)) hch (by omega) ?_
    repeat walk_at "ts"
    exact Rt_same (by rfl) hO (t := []) (by simp) q
  · refine ite_f (by simp; omega) ?_
    have hp0 : 0 ≤ m / 96 % 1112064 := Int.emod_nonneg _ (by decide)
    have hp1 : m / 96 % 1112064 < 1112064 := Int.emod_lt_of_pos _ (by decide)
    have e : lawSign m = (if m / 96 % 1112064 < 55296 then m / 96 % 1112064 else m / 96 % 1112064 + 2048).toNat := by unfold lawSign; rw [if_neg h]
    rw [e] at q
    repeat walk_at "ts"
    refine TBin_div (by decide) (by decide) ?_
    repeat walk_at "ts"
    refine TBin_mod (by decide) ?_
    repeat walk_at "ts"
    generalize m / 96 % 1112064 = p at *
    by_cases hs : p < 55296
    · rw [if_pos hs] at q
      refine ite_t (by simp [hs]) ?_
      repeat walk_at "ts"
      refine TCall_chr (by omega) (by omega) ?_
      repeat walk_at "ts"
      exact Rt_same (by rfl) hO (t := []) (by simp) q
    · rw [if_neg hs] at q
      refine ite_f (by simp [hs]) ?_
      repeat walk_at "ts"
      refine TCall_chr (by omega) (by omega) ?_
      repeat walk_at "ts"
      exact Rt_same (by rfl) hO (t := []) (by simp) q
end
set_option Elab.async false
set_option autoImplicit true
set_option linter.unusedVariables false
set_option maxRecDepth 20000
section
variable {c : Cx} {σ : St} {Q : V → St → Prop} {P : Params} {n : Nat}
def faulty (p : Int) : Bool := if p < 32 then !decide (p ∈ [0, 9, 10, 12, 13]) else (decide (127 ≤ p) && decide (p < 160)) || (decide (64976 ≤ p) && decide (p < 65008)) || decide (65533 < p % 65536)
theorem c_faulty (hK : c.G.K = fgx P) (hn : c.n = n + 1) {p : Int} (hO : σ.objs.all (okO σ.objs.length) = true)
    (q : Q (.d (.bool (faulty p))) σ) : TCallC c (.val (.ref 155)) [.d (.int p)] σ Q := by
  refine TCallC_fn (n := n) (names := ["point"]) (globs := []) (rest := []) (ds := []) (FnOk.of1 (p1 := "point") [] [] hK rfl (fun _ _ => rfl) rfl (by kernel_rfl) rfl rfl (by decide)) hn rfl (fun _ _ => VRs.nil) rfl (by walk_at "tg") ?_
  have fin : ∀ (b : Bool) (σ' : St), σ'.objs = σ.objs → b = faulty p → Rt σ Q (.ret (.d (.bool b))) σ' := fun b σ' e hb => by subst hb; exact Rt_same (by rfl) hO (t := []) (by simp [e]) q
  repeat walk_at "ts"
  by_cases h0 : p < 32
  · refine ite_t (by simp [h0]) ?_
    repeat walk_at "ts"
    refine ⟨[_, _, _, _, _], rfl, Nat.le_of_ble_eq_true rfl, ?_⟩
    refine TC_nin_ints (xs := [0, 9, 10, 12, 13]) ?_
    repeat walk_at "ts"
    exact fin _ _ rfl (by unfold faulty; rw [if_pos h0])
  refine ite_f (by simp; omega) ?_
  repeat walk_at "ts"
  refine TE_orb ?_
  refine TE_chain (fun b d => decide (b < d)) (fun _ _ _ q => TC_lt q) ?_ (fun _ _ q => TE_int q)
  repeat walk_at "ts"
  refine ⟨_, _, rfl, rfl, _, rfl, fun h1 => fin _ _ rfl (by unfold faulty; rw [if_neg h0]; simp [h1]), fun h1 => ?_⟩
  refine TE_orb ?_
  refine TE_chain (fun b d => decide (b < d)) (fun _ _ _ q => TC_lt q) ?_ (fun _ _ q => TE_int q)
  repeat walk_at "ts"
  refine ⟨_, _, rfl, rfl, _, rfl, fun h2 => fin _ _ rfl (by unfold faulty; rw [if_neg h0]; simp [h2]), fun h2 => ?_⟩
  refine TE_bool1 ?_
  repeat walk_at "ts"
  refine TBin_mod (by decide) ?_
  repeat walk_at "ts"
  refine fin _ _ rfl ?_
  unfold faulty
  rw [if_neg h0]
  simp only [h1, h2, Bool.false_or]
end
set_option Elab.async false
set_option autoImplicit true
set_option linter.unusedVariables false
set_option maxRecDepth 20000
section
variable {c : Cx} {σ : St} {Q : V → St → Prop} {P : Params} {n : Nat}
theorem c_more (hK : c.G.K = fgx P) (hn : c.n = n + 1) {t : List Nat} {j a d N : Nat} (hO : σ.objs.all (okO σ.objs.length) = true) (ho : σ.objs[j]? = some (.list [.int a, .int d])) (ht : t.length ≤ 1000) (ha : a ≤ t.length) (hN : N ≤ 1000)
    (q : Q (.d (.bool (decide (d < nA t a N)))) ⟨σ.loc, σ.objs.set j (.list [.int (nA t a N), .int (nD t (nA t a N) d)])⟩) : TCallC c (.val (.ref 162)) [.d (.str t), .obj j, .d (.int N)] σ Q := by
  have hjl : j < σ.objs.length := (List.getElem?_eq_some_iff.mp ho).1
  refine TCallC_fn (n := n) (names := ["text", "state", "size", "asked", "came", "held"]) (globs := ["min", "len"]) (rest := ["asked", "came", "held"]) (ds := []) (FnOk.of3 (p1 := "text") (p2 := "state") (p3 := "size") [] [] hK rfl (fun _ _ _ _ => rfl) rfl (by kernel_rfl) rfl rfl (by decide)) hn rfl (fun _ _ => VRs.nil) rfl (by walk_at "tg") ?_
  dsimp only [List.map, List.append, List.cons_append, List.nil_append]
  have hA : (min ((a : Int) + (N : Int)) (t.length : Int)) = (nA t a N : Nat) := by unfold nA; omega
  have hAl : nA t a N ≤ t.length := by unfold nA; omega
  repeat walk_at "ts"
  refine TItem_list (d := .int a) ho (by decide) (by decide) rfl ?_
  repeat walk_at "ts"
  refine TCall_len_str (by omega) ?_
  repeat walk_at "ts"
  refine TCall_min ?_
  rw [hA]
  generalize nA t a N = A at *
  repeat walk_at "ts"
  refine TItem_list (d := .int d) ho (by decide) (by decide) rfl ?_
  repeat walk_at "ts"
  have fin : ∀ (σ' : St) (os : List O) (b : Int), σ'.objs = (σ.objs.set j (.list [.int A, .int d])).set j (.list [.int A, .int b]) → b = (nD t A d : Nat) → decide ((d : Int) < A) = decide (d < A) → Rt σ Q (.ret (.d (.bool (decide ((d : Int) < A))))) σ' := by
    rintro ⟨l, _⟩ os _ rfl rfl e
    rw [List.set_set, e]
    exact ⟨_, ⟨⟨[], (List.append_nil _).symm⟩, by simp, okO_set hO rfl, rfl⟩, q⟩
  have hdA : decide ((d : Int) < A) = decide (d < A) := decide_eq_decide.mpr (by omega)
  refine TE_and ?_
  repeat walk_at "ts"
  refine TItem_list (d := .int d) ho (by decide) (by decide) rfl ?_
  repeat walk_at "ts"
  by_cases h1 : d + 1 < A
  · refine ite_t (by simp; omega) ?_
    refine TE_bool1 ?_
    obtain ⟨ch, hch⟩ : ∃ ch, t[A - 1]? = some ch := ⟨_, List.getElem?_eq_getElem (by omega)⟩
    repeat walk_at "ts"
    refine TItem_str (j := A - 1) (ch := ch) (sIx (Int.ofNat_sub (show 1 ≤ A by omega)).symm (by omega)) hch (by omega) ?_
    repeat walk_at "ts"
    refine TC_eqs ?_
    repeat walk_at "ts"
    refine TA_sub ?_
    repeat walk_at "ts"
    refine TSetI_list (j := 0) ho (by simp) (by simp) ?_
    dsimp only [List.set]
    repeat walk_at "ts"
    by_cases h2 : ch = 13
    · refine ite_t (by simp [h2]) ?_
      repeat walk_at "ts"
      refine TA_sub ?_
      repeat walk_at "ts"
      refine TSetI_list (j := 1) (set_at ho) (by simp) (by simp) ?_
      dsimp only [List.set]
      repeat walk_at "ts"
      refine fin _ [] _ rfl ?_ hdA
      unfold nD; rw [if_pos ⟨h1, by rw [hch, h2]⟩]; omega
    · refine ite_f (by simp [h2]) ?_
      repeat walk_at "ts"
      refine TA_sub ?_
      repeat walk_at "ts"
      refine TSetI_list (j := 1) (set_at ho) (by simp) (by simp) ?_
      dsimp only [List.set]
      repeat walk_at "ts"
      refine fin _ [] _ rfl ?_ hdA
      unfold nD; rw [if_neg (by rintro ⟨_, e⟩; rw [hch] at e; cases e; exact h2 rfl)]
  · refine ite_f (by simp; omega) ?_
    repeat walk_at "ts"
    refine TA_sub ?_
    repeat walk_at "ts"
    refine TSetI_list (j := 0) ho (by simp) (by simp) ?_
    dsimp only [List.set]
    repeat walk_at "ts"
    refine ite_f (by simp; omega) ?_
    repeat walk_at "ts"
    refine TA_sub ?_
    repeat walk_at "ts"
    refine TSetI_list (j := 1) (set_at ho) (by simp) (by simp) ?_
    dsimp only [List.set]
    repeat walk_at "ts"
    refine fin _ [] _ rfl ?_ hdA
    unfold nD; rw [if_neg (by rintro ⟨e, _⟩; exact h1 e)]
end
set_option Elab.async false
set_option autoImplicit true
set_option linter.unusedVariables false
set_option maxRecDepth 20000
/-- the six rows of signs -/
def rowL : Nat → List Nat
  | 0 => [38, 10]
  | 1 => [98, 1]
  | 2 => [97, 32]
  | 3 => [10, 98]
  | 4 => [38, 0, 97]
  | _ => []
def rowV : Nat → Value
  | 0 => .ref 136
  | 1 => .str ⟨#[98, 1]⟩ 368
  | 2 => .ref 137
  | 3 => .ref 138
  | 4 => .ref 139
  | _ => .ref 140
def isS (x : Str) : Value → Bool
  | .str y _ => y == x
  | _ => false
section
variable {c : Cx} {σ : St} {Q : V → St → Prop} {QB : Bool → St → Prop} {P : Params}
theorem look_136 (hK : c.G.K = fgx P) : c.G.K.lookup 136 = some ⟨(.type "tuple"), none, (.seq #[(.str ⟨#[38]⟩ 366), (.str ⟨#[10]⟩ 367)] 0), #[]⟩ := by rw [hK]; kernel_rfl
theorem look_137 (hK : c.G.K = fgx P) : c.G.K.lookup 137 = some ⟨(.type "list"), none, (.seq #[(.str ⟨#[97]⟩ 369), (.str ⟨#[32]⟩ 370)] 0), #[]⟩ := by rw [hK]; kernel_rfl
theorem look_140 (hK : c.G.K = fgx P) : c.G.K.lookup 140 = some ⟨(.type "tuple"), none, (.seq #[] 0), #[]⟩ := by rw [hK]; kernel_rfl
theorem look_141 (hK : c.G.K = fgx P) : c.G.K.lookup 141 = some ⟨(.type "list"), none, (.seq #[(.ref 136), (.str ⟨#[98, 1]⟩ 368), (.ref 137), (.ref 138), (.ref 139), (.ref 140)] 0), #[]⟩ := by rw [hK]; kernel_rfl
theorem look_138 (hK : c.G.K = fgx P) : c.G.K.lookup 138 = some ⟨(.type "dict"), none, (.dict #[⟨PyData.keyHash P ⟨#[10]⟩, (.str ⟨#[10]⟩ 371), (.int (1) 372)⟩, ⟨PyData.keyHash P ⟨#[98]⟩, (.str ⟨#[98]⟩ 373), (.int (2) 374)⟩] 2), #[]⟩ := by rw [hK]; kernel_rfl
theorem look_139 (hK : c.G.K = fgx P) : c.G.K.lookup 139 = some (setX P) := by rw [hK]; kernel_rfl
theorem one_eq (a b : Nat) : ((⟨#[a]⟩ : Str) == ⟨#[b]⟩) = decide (b = a) := by
  rw [Bool.eq_iff_iff, beq_iff_eq, decide_eq_true_eq]
  constructor
  · intro h; injection h with h; have := congrArg Array.toList h; simp at this; exact this.symm
  · rintro rfl; rfl
theorem row_tup {ch : Nat} {a b : Nat} {t u : Tok} {ad : Addr} (hl : c.G.K.lookup ad = some ⟨(.type "tuple"), none, (.seq #[(.str ⟨#[a]⟩ t), (.str ⟨#[b]⟩ u)] 0), #[]⟩) (q : QB (decide (ch ∈ [a, b])) σ) : TC c .In (.d (.str [ch])) (.val (.ref ad)) σ QB := by
  intro A env ι s va vb ok R r1 r2
  obtain ⟨t1, rfl⟩ := vr_str_inv r1
  cases r2
  have hT : s.heap.IsTuple ad #[(.str ⟨#[a]⟩ t), (.str ⟨#[b]⟩ u)] := ⟨_, (c.G.X.keeps R.keep) _ _ hl, rfl, _, rfl⟩
  refine SeqAt.in_tupleAt (isS ⟨#[ch]⟩) hT (fun y hy => ?_) ?_
  · simp only [List.mem_toArray, List.mem_cons, List.not_mem_nil, or_false] at hy
    rcases hy with rfl | rfl <;> exact SeqAt.EqAt.str_str _ _ _ _
  · have : (#[Value.str ⟨#[a]⟩ t, .str ⟨#[b]⟩ u].any (isS ⟨#[ch]⟩)) = decide (ch ∈ [a, b]) := by
      simp [isS, one_eq]
    rw [this]
    exact PC.here R q
theorem row_list {ch : Nat} {a b : Nat} {t u : Tok} {ad : Addr} (hl : c.G.K.lookup ad = some ⟨(.type "list"), none, (.seq #[(.str ⟨#[a]⟩ t), (.str ⟨#[b]⟩ u)] 0), #[]⟩) (q : QB (decide (ch ∈ [a, b])) σ) : TC c .In (.d (.str [ch])) (.val (.ref ad)) σ QB := by
  intro A env ι s va vb ok R r1 r2
  obtain ⟨t1, rfl⟩ := vr_str_inv r1
  cases r2
  have hT : s.heap.IsList ad #[(.str ⟨#[a]⟩ t), (.str ⟨#[b]⟩ u)] := ⟨_, (c.G.X.keeps R.keep) _ _ hl, rfl, _, rfl⟩
  refine SeqAt.in_listAt (isS ⟨#[ch]⟩) hT (fun y hy => ?_) ?_
  · simp only [List.mem_toArray, List.mem_cons, List.not_mem_nil, or_false] at hy
    rcases hy with rfl | rfl <;> exact SeqAt.EqAt.str_str _ _ _ _
  · have : (#[Value.str ⟨#[a]⟩ t, .str ⟨#[b]⟩ u].any (isS ⟨#[ch]⟩)) = decide (ch ∈ [a, b]) := by
      simp [isS, one_eq]
    rw [this]
    exact PC.here R q
theorem row_nil {ch : Nat} {ad : Addr} (hl : c.G.K.lookup ad = some ⟨(.type "tuple"), none, (.seq #[] 0), #[]⟩) (q : QB false σ) : TC c .In (.d (.str [ch])) (.val (.ref ad)) σ QB := by
  intro A env ι s va vb ok R r1 r2
  obtain ⟨t1, rfl⟩ := vr_str_inv r1
  cases r2
  have hT : s.heap.IsTuple ad #[] := ⟨_, (c.G.X.keeps R.keep) _ _ hl, rfl, _, rfl⟩
  exact SeqAt.in_tupleAt (isS ⟨#[ch]⟩) hT (fun y hy => by simp at hy) (by simpa using PC.here R q)
theorem TC_in_nil {ch : Nat} (q : QB false σ) : TC c .In (.d (.str [ch])) (.d (.tup [])) σ QB := by
  intro A env ι s va vb ok R r1 r2
  obtain ⟨t1, rfl⟩ := vr_str_inv r1
  have r2 : DR s.heap (.tup []) vb := r2
  cases r2 with
  | @tup ad ob k vs items hg hoc hod hl hr =>
    have : items = [] := by cases items with | nil => rfl | cons _ _ => simp at hl
    subst this
    exact SeqAt.in_tupleAt (isS ⟨#[ch]⟩) ⟨_, hg, hoc, _, hod⟩ (fun y hy => by simp at hy) (by simpa using PC.here R q)
theorem row_str {ch : Nat} {x : List Nat} {t : Tok} (q : QB (decide (ch ∈ x)) σ) : TC c .In (.d (.str [ch])) (.val (.str ⟨x.toArray⟩ t)) σ QB := by
  intro A env ι s va vb ok R r1 r2
  cases r2
  exact TC_in_str q A env ι s va _ ok R r1 (vr_str (t := t))
theorem PC.tok {c env ι σ s} {Q : Bool → St → Prop} {b : Bool} {tk : Nat} (R : Rep c ι σ env s) (ht : 0 < tk) (q : Q b σ) : PC c env ι s Q (.bool b) { s with toks := tk } :=
  ⟨b, rfl, ι, σ, Ext.grow (fun _ _ e => e) rfl rfl, Rep0.up (s := { s with toks := tk }) (R.grow fun _ _ e => e) ht, q⟩
theorem row_dict {ch : Nat} (hK : c.G.K = fgx c.G.w.params) (q : QB (decide (ch ∈ [10, 98])) σ) : TC c .In (.d (.str [ch])) (.val (.ref 138)) σ QB := by
  intro A env ι s va vb ok R r1 r2
  obtain ⟨t1, rfl⟩ := vr_str_inv r1
  cases r2
  have hm : s.heap.MapOf (PySem.strKind c.G.prog c.G.w) 138 (fun k => findBy (PySem.strKind c.G.prog c.G.w).is #[⟨PyData.keyHash c.G.w.params ⟨#[10]⟩, (.str ⟨#[10]⟩ 371), (.int (1) 372)⟩, ⟨PyData.keyHash c.G.w.params ⟨#[98]⟩, (.str ⟨#[98]⟩ 373), (.int (2) 374)⟩] k) := by
    refine ⟨_, _, _, (c.G.X.keeps R.keep) _ _ (look_138 hK), ⟨rfl, rfl, rfl⟩, rfl, ?_, fun _ => rfl⟩
    intro e he
    simp only [List.mem_toArray, List.mem_cons, List.not_mem_nil, or_false] at he
    rcases he with rfl | rfl
    · exact ⟨⟨#[10]⟩, by show ((⟨#[10]⟩ : Str) == ⟨#[10]⟩) = true; decide, rfl⟩
    · exact ⟨⟨#[98]⟩, by show ((⟨#[98]⟩ : Str) == ⟨#[98]⟩) = true; decide, rfl⟩
  refine wpAny_in_of (knd := PySem.strKind c.G.prog c.G.w) (k := ⟨#[ch]⟩) (by simp [PySem.strKind, Value.isStrOf]) (by decide) hm ?_
  have : (findBy (PySem.strKind c.G.prog c.G.w).is #[⟨PyData.keyHash c.G.w.params ⟨#[10]⟩, (.str ⟨#[10]⟩ 371), (.int (1) 372)⟩, ⟨PyData.keyHash c.G.w.params ⟨#[98]⟩, (.str ⟨#[98]⟩ 373), (.int (2) 374)⟩] (⟨#[ch]⟩ : Str)).isSome = decide (ch ∈ [10, 98]) := by
    show (((#[(⟨PyData.keyHash c.G.w.params ⟨#[10]⟩, (.str ⟨#[10]⟩ 371), (.int (1) 372)⟩ : DictEntry), ⟨PyData.keyHash c.G.w.params ⟨#[98]⟩, (.str ⟨#[98]⟩ 373), (.int (2) 374)⟩] : Array DictEntry).find? fun e => Value.isStrOf ⟨#[ch]⟩ e.key).map (·.val)).isSome = _
    generalize PyData.keyHash c.G.w.params ⟨#[10]⟩ = k1
    generalize PyData.keyHash c.G.w.params ⟨#[98]⟩ = k2
    rw [Option.isSome_map, Bool.eq_iff_iff, Array.find?_isSome, decide_eq_true_eq]
    simp [Value.isStrOf, one_eq]
  rw [this]
  exact PC.tok R (Nat.succ_pos _) q
theorem row_set {ch : Nat} (hK : c.G.K = fgx c.G.w.params) (q : QB (decide (ch ∈ [38, 0, 97])) σ) : TC c .In (.d (.str [ch])) (.val (.ref 139)) σ QB := by
  intro A env ι s va vb ok R r1 r2
  obtain ⟨t1, rfl⟩ := vr_str_inv r1
  cases r2
  obtain ⟨h1, h2, h3⟩ := set3_ok c.G.w.params
  have hl := look_139 hK
  unfold setX setO at hl
  generalize set3 c.G.w.params = r at hl h1 h2 h3
  obtain ⟨es, tb⟩ := r
  dsimp only at hl h1 h2 h3
  have hS : s.heap.SetOf (PySem.strKind c.G.prog c.G.w) 139 (fun k => decide (k = c1 ∨ k = c2 ∨ k = c3)) 3 := by
    refine ⟨_, _, _, _, (c.G.X.keeps R.keep) _ _ hl, ⟨rfl, rfl, rfl⟩, rfl, ?_, ?_, ?_, ?_, h2⟩
    · intro e he
      rcases (h3 e).mp (by simpa using he) with (rfl | rfl) | rfl
      · exact ⟨⟨c1, by show (c1 == c1) = true; simp, rfl⟩, rfl⟩
      · exact ⟨⟨c2, by show (c2 == c2) = true; simp, rfl⟩, rfl⟩
      · exact ⟨⟨c3, by show (c3 == c3) = true; simp, rfl⟩, rfl⟩
    · intro k
      rw [decide_eq_true_eq]
      constructor
      · rintro (rfl | rfl | rfl)
        · exact ⟨_, by simpa using (h3 _).mpr (.inl (.inl rfl)), by show (c1 == c1) = true; simp⟩
        · exact ⟨_, by simpa using (h3 _).mpr (.inl (.inr rfl)), by show (c2 == c2) = true; simp⟩
        · exact ⟨_, by simpa using (h3 _).mpr (.inr rfl), by show (c3 == c3) = true; simp⟩
      · rintro ⟨e, he, hk⟩
        rcases (h3 e).mp (by simpa using he) with (rfl | rfl) | rfl
        · exact .inl (beq_iff_eq.mp (show (c1 == k) = true from hk)).symm
        · exact .inr (.inl (beq_iff_eq.mp (show (c2 == k) = true from hk)).symm)
        · exact .inr (.inr (beq_iff_eq.mp (show (c3 == k) = true from hk)).symm)
    · rw [h2]; decide
    · obtain ⟨g1, g2, g3, g4⟩ := h1
      have h4 : tb.fill = tb.place.size := by unfold SetTable.fill; rw [g1]; rfl
      show (tb.place.size == es.size && decide (tb.fill ≤ tb.mask)) = true
      rw [h4, g2]
      simp; omega
  refine wpAny_inSet_of (knd := PySem.strKind c.G.prog c.G.w) (k := ⟨#[ch]⟩) (by simp [PySem.strKind, Value.isStrOf]) (by rfl) hS ?_
  have : decide ((⟨#[ch]⟩ : Str) = c1 ∨ (⟨#[ch]⟩ : Str) = c2 ∨ (⟨#[ch]⟩ : Str) = c3) = decide (ch ∈ [38, 0, 97]) := by
    have e1 : c1 = ⟨#[38]⟩ := by decide
    have e2 : c2 = ⟨#[0]⟩ := by decide
    have e3 : c3 = ⟨#[97]⟩ := by decide
    rw [e1, e2, e3]
    refine decide_eq_decide.mpr ?_
    simp
  rw [this]
  exact PC.tok R (Nat.succ_pos _) q
/-- a sign in one of the rows -/
theorem in_row {ch r : Nat} (hr : r < 6) (hK : c.G.K = fgx c.G.w.params) (q : QB (decide (ch ∈ rowL r)) σ) : TC c .In (.d (.str [ch])) (.val (rowV r)) σ QB := by
  match r, hr with
  | 0, _ => exact row_tup (look_136 hK) q
  | 1, _ => exact row_str (x := [98, 1]) q
  | 2, _ => exact row_list (look_137 hK) q
  | 3, _ => exact row_dict hK q
  | 4, _ => exact row_set hK q
  | 5, _ => exact row_nil (look_140 hK) q
theorem pick_row {i : Int} (hK : c.G.K = fgx P) (h0 : 0 ≤ i) (h1 : i < 6) {Q : V → St → Prop} (q : Q (.val (rowV i.toNat)) σ) : TItem c (.val (.ref 141)) (.d (.int i)) σ Q := by
  refine TItem_top (v := .val (rowV i.toNat)) (l := [(.ref 136), (.str ⟨#[98, 1]⟩ 368), (.ref 137), (.ref 138), (.ref 139), (.ref 140)]) (val := rowV i.toNat) (look_141 hK) h0 (by omega) ?_ (fun _ _ => rfl) q
  obtain ⟨j, rfl⟩ := Int.eq_ofNat_of_zero_le h0
  rw [Int.toNat_natCast]
  match j, h1 with
  | 0, _ => rfl
  | 1, _ => rfl
  | 2, _ => rfl
  | 3, _ => rfl
  | 4, _ => rfl
  | 5, _ => rfl
  | j + 6, h => exact absurd h (by omega)
end
set_option Elab.async false
set_option autoImplicit true
set_option linter.unusedVariables false
set_option maxRecDepth 20000
section
variable {c : Cx} {σ : St} {P : Params} {n : Nat}
theorem filter_all {α} (l : List α) : l.filter (fun _ => true) = l := by simp
def asI : D → Int
  | .int i => i
  | _ => 0
theorem map_asI (ns : List Int) (g : Int → D) : ((ns.map D.int).filter (fun _ => true)).map (fun d => g (asI d)) = ns.map g := by
  rw [filter_all, List.map_map]; exact List.map_congr_left fun a _ => rfl
/-- a comprehension over ints -/
theorem TE_compI {Q : V → St → Prop} {elt iter : Expr} {x : Str} {px pos : Pos} {scope : Scope} (globs : List Str) (g : Int → D) {ns : List Int}
    (h : TE c iter σ fun v σ1 => ∃ k, v = .obj k ∧ σ1.objs[k]? = some (.list (ns.map .int)) ∧ σ1.objs.all (okO σ1.objs.length) = true ∧ ns.length ≤ 100000 ∧
      (∀ acc i, i ∈ ns → TE ⟨c.G, c.n, σ1.objs.length + 1, scope, [x], globs⟩ elt ⟨[some (.d (.int i))], σ1.objs ++ [.list acc]⟩ fun v σ3 => v = .d (g i) ∧ σ3.loc = [some (.d (.int i))] ∧ ∃ t, σ3.objs = σ1.objs ++ [.list acc] ++ t) ∧
      Q (.obj σ1.objs.length) ⟨σ1.loc, σ1.objs ++ [.list (ns.map g)]⟩)
    (ck : CompOk scope x) (good : ∀ n₀, (⟨c.G, c.n, n₀, scope, [x], globs⟩ : Cx).Good)
    (hs : ∀ env x, foldedSetIterable iter env x = pure x := by intro _ _; rfl) : TE c (.ListComp elt [⟨.Name x px, iter, [], 0⟩] scope pos) σ Q := by
  refine TE_comp globs (fun _ => true) (fun d => g (asI d)) (TIC_list (TE_mono h ?_)) ck good hs
  rintro v σ1 ⟨k, rfl, hk, hO, hl, ht, hq⟩
  refine ⟨k, _, rfl, hk, fun acc => app_l hk, ?_, by simpa using hl, ?_, ?_⟩
  · rw [List.all_eq_true] at hO ⊢
    exact fun o ho => okO_mono (by omega) (hO o ho)
  · intro acc d hd
    obtain ⟨i, hi, rfl⟩ := List.mem_map.mp hd
    exact ⟨rfl, ⟨[], (List.append_nil _).symm⟩, rfl, fun _ => ht acc i hi⟩
  · dsimp only; rw [map_asI]; exact hq
/-- a stream is made -/
def new0 (L : Nat) (text : List Nat) : List O := [strm L (L + 1) (L + 2) (L + 3) [] 0 0 0 none, .list [.int 0], txt text 0, .list []]
theorem c_new (hK : c.G.K = fgx P) (hn : c.n = n + 1 + 1 + 1 + 1 + 1) {text : List Nat} (hO : σ.objs.all (okO σ.objs.length) = true) {Q : V → St → Prop}
    (q : Q (.obj σ.objs.length) ⟨σ.loc, σ.objs ++ new0 σ.objs.length text⟩) : TCall c (.val (.ref 131)) [.d (.str text)] σ Q := by
  refine TCall_cls (n := n + 1 + 1 + 1 + 1) hn (by rw [hK]; kernel_rfl) (m_63 (by exact hK)).1 (m_63 (by exact hK)).2.1 ?_
  refine c_init (by exact hK) rfl (by exact app_new) (by exact okO_app hO rfl) ⟨rfl, ?_⟩
  have e : (σ.objs ++ [O.inst 131 [] []]).length = σ.objs.length + 1 := by simp
  dsimp only
  rw [e]
  have e2 : ∀ X : O, (σ.objs ++ [O.inst 131 [] []]).set σ.objs.length X = σ.objs ++ [X] := fun X => by simp
  rw [e2, List.append_assoc]
  exact q
theorem sAt_new {os : List O} {text : List Nat} (hl : text.length ≤ 90000) (ns : NoSur text) : SAt (os ++ new0 os.length text) os.length (os.length + 1) (os.length + 2) (os.length + 3) text ⟨0, 0, 0, 0, none⟩ := by
  refine { ud := Nat.le_refl _, dl := Nat.zero_le _, cu := cut_zero _, cd := cut_zero _, ho := Nat.zero_le _, hb := .inl ⟨rfl, rfl⟩, o := ?_, x := ?_, er := ?_, lt := hl, ns := ns }
  · rw [List.getElem?_append_right (Nat.le_refl _), Nat.sub_self]; rfl
  · rw [List.getElem?_append_right (by omega), show os.length + 2 - os.length = 2 by omega]; rfl
  · rw [List.getElem?_append_right (by omega), show os.length + 3 - os.length = 3 by omega]; rfl
theorem okO_new {os : List O} {text : List Nat} (h : os.all (okO os.length) = true) : (os ++ new0 os.length text).all (okO (os ++ new0 os.length text).length) = true := by
  refine okO_app h ?_
  have : (os ++ new0 os.length text).length = os.length + 4 := by simp [new0]
  rw [this]
  simp [new0, strm, svs, txt, okO, okV, bufD]
end
set_option Elab.async false
set_option autoImplicit true
set_option linter.unusedVariables false
set_option maxRecDepth 20000
/-! the plain law of qo0004-01 -/
theorem nrm_one (ch : Nat) : nrm [ch] = [if ch = 13 then 10 else ch] := by
  by_cases h : ch = 13
  · subst h; rfl
  · rw [if_neg h]
    unfold nrm
    rw [crlf_cons (by rintro ⟨rfl, _⟩; exact absurd rfl h)]
    simp [crlf, cr, h]
theorem nrm_1310 : nrm [13, 10] = [10] := by rfl
/-- the next sign, in the mended text -/
theorem nrm_step_skip {t : List Nat} {i : Nat} (h : t[i + 1]? = some 10) (h0 : t[i]? = some 13) : nrm (t.take (i + 2)) = nrm (t.take (i + 1)) := by
  have e1 : t.take (i + 2) = t.take i ++ [13, 10] := by
    rw [show i + 2 = (i + 1) + 1 from rfl, List.take_add_one, List.take_add_one, h, h0]; simp
  have e2 : t.take (i + 1) = t.take i ++ [13] := by rw [List.take_add_one, h0]; rfl
  rw [e1, e2, nrm_app (by simp), nrm_app (by simp), nrm_1310, nrm_one, if_pos rfl]
theorem nrm_step_take {t : List Nat} {i ch : Nat} (h : t[i]? = some ch) (h0 : ¬ (ch = 10 ∧ ∃ j, i = j + 1 ∧ t[j]? = some 13)) : nrm (t.take (i + 1)) = nrm (t.take i) ++ [if ch = 13 then 10 else ch] := by
  have hi := (List.getElem?_eq_some_iff.mp h).1
  rw [List.take_add_one, h]
  show nrm (t.take i ++ [ch]) = _
  rw [nrm_app, nrm_one]
  rintro ⟨h1, h2⟩
  refine h0 ⟨by simpa using h2, ?_⟩
  cases i with
  | zero => simp at h1
  | succ j => exact ⟨j, rfl, by rw [getLast?_take (by omega)] at h1; exact h1⟩
theorem ln_snoc (x : List Nat) (ch : Nat) : lnOf (x ++ [ch]) = if ch = 10 then lnOf x + 1 else lnOf x := by
  unfold lnOf
  rw [List.count_append]
  by_cases h : ch = 10
  · subst h; simp
  · rw [if_neg h, List.count_singleton]; simp [h]
theorem cl_snoc (x : List Nat) (ch : Nat) : clOf (x ++ [ch]) = if ch = 10 then 0 else clOf x + 1 := by
  unfold clOf
  rw [lastIx_app]
  by_cases h : ch = 10
  · subst h
    have : lastIx 10 [10] = some 0 := rfl
    rw [this, if_pos rfl]
    simp
  · rw [if_neg h]
    have : lastIx 10 [ch] = none := by simp [lastIx, h]
    rw [this]
    dsimp only
    rw [List.length_append]
    cases lastIx 10 x <;> simp <;> omega
/-- what the law keeps of a text -/
def chs (x : List Nat) : List D := x.map fun ch => .str [ch]
def faults (x : List Nat) : Nat := (x.filter fun ch => faulty (ch : Nat)).length
def cnts (t : List Nat) (i : Nat) : List D := (List.range (i + 1)).map fun j => .int ((nrm (t.take j)).length : Nat)
def tolds (t : List Nat) (i : Nat) : List D := (List.range (i + 1)).map fun j => .int (faults (t.take j) : Nat)
def spotD (x : List Nat) : D := .tup [.int (lnOf x + 1), .int (clOf x)]
def spots (x : List Nat) : List D := (List.range (x.length + 1)).map fun j => spotD (x.take j)
theorem chs_snoc (x : List Nat) (ch : Nat) : chs (x ++ [ch]) = chs x ++ [.str [ch]] := by simp [chs]
theorem cnts_succ (t : List Nat) (i : Nat) : cnts t (i + 1) = cnts t i ++ [.int ((nrm (t.take (i + 1))).length : Nat)] := by simp [cnts, List.range_succ]
theorem tolds_succ (t : List Nat) (i : Nat) : tolds t (i + 1) = tolds t i ++ [.int (faults (t.take (i + 1)) : Nat)] := by simp [tolds, List.range_succ]
theorem spots_last (x : List Nat) : ∃ l, spots x = l ++ [spotD x] ∧ l.length = x.length := by
  refine ⟨(List.range x.length).map fun j => spotD (x.take j), ?_, by simp⟩
  unfold spots
  rw [List.range_succ, List.map_append]; simp
theorem tolds_last (t : List Nat) (i : Nat) : ∃ l, tolds t i = l ++ [.int (faults (t.take i) : Nat)] ∧ l.length = i := by
  refine ⟨(List.range i).map fun j => .int (faults (t.take j) : Nat), ?_, by simp⟩
  unfold tolds
  rw [List.range_succ, List.map_append]; rfl
theorem spots_snoc (x : List Nat) (ch : Nat) : spots (x ++ [ch]) = spots x ++ [spotD (x ++ [ch])] := by
  unfold spots
  rw [List.length_append, List.length_singleton, List.range_succ, List.map_append]
  congr 1
  · refine List.map_congr_left fun j hj => ?_
    have : j < x.length + 1 := List.mem_range.mp hj
    rw [List.take_append_of_le_length (by omega)]
  · rw [List.map_singleton, List.take_of_length_le (by simp)]
theorem spots_at {x : List Nat} {j : Nat} (h : j ≤ x.length) : (spots x)[j]? = some (spotD (x.take j)) := by
  unfold spots; rw [List.getElem?_map, List.getElem?_range (by omega)]; rfl
theorem cnts_at {t : List Nat} {i j : Nat} (h : j ≤ i) : (cnts t i)[j]? = some (.int ((nrm (t.take j)).length : Nat)) := by
  unfold cnts; rw [List.getElem?_map, List.getElem?_range (by omega)]; rfl
theorem tolds_at {t : List Nat} {i j : Nat} (h : j ≤ i) : (tolds t i)[j]? = some (.int (faults (t.take j) : Nat)) := by
  unfold tolds; rw [List.getElem?_map, List.getElem?_range (by omega)]; rfl
theorem faults_snoc (x : List Nat) (ch : Nat) : faults (x ++ [ch]) = faults x + (if faulty ch then 1 else 0) := by
  unfold faults
  rw [List.filter_append, List.length_append]
  congr 1
  by_cases h : faulty ch
  · simp [h]
  · simp [h]
theorem faults_le (x : List Nat) : faults x ≤ x.length := List.length_filter_le ..
/-! the errors -/
def NoS (t : List Nat) : Prop := ∀ ch ∈ t, ¬ (55296 ≤ ch ∧ ch ≤ 57343)
theorem inval_faulty {ch : Nat} (h : ¬ (55296 ≤ ch ∧ ch ≤ 57343)) : inval ch = faulty ch := by
  by_cases h32 : ch < 32
  · have : ∀ k : Nat, k < 32 → inval (k : Int) = faulty (k : Int) := by decide +kernel
    exact this ch h32
  · have n1 : (decide (1 ≤ (ch : Int)) && decide ((ch : Int) ≤ 8)) = false := by rw [Bool.and_eq_false_iff]; right; rw [decide_eq_false_iff_not]; omega
    have n2 : decide ((ch : Int) = 11) = false := by rw [decide_eq_false_iff_not]; omega
    have n3 : (decide (14 ≤ (ch : Int)) && decide ((ch : Int) ≤ 31)) = false := by
      rw [Bool.and_eq_false_iff, decide_eq_false_iff_not, decide_eq_false_iff_not]; omega
    have n7 : (decide (55296 ≤ (ch : Int)) && decide ((ch : Int) ≤ 57343)) = false := by
      rw [Bool.and_eq_false_iff, decide_eq_false_iff_not, decide_eq_false_iff_not]; omega
    have e1 : decide ((ch : Int) ≤ 159) = decide ((ch : Int) < 160) := decide_eq_decide.mpr Int.lt_add_one_iff.symm
    have e2 : decide ((ch : Int) ≤ 65007) = decide ((ch : Int) < 65008) := decide_eq_decide.mpr Int.lt_add_one_iff.symm
    have e3 : (decide ((ch : Int) % 65536 = 65534) || decide ((ch : Int) % 65536 = 65535)) = decide (65533 < (ch : Int) % 65536) := by
      have hl := Int.emod_lt_of_pos (ch : Int) (b := 65536) (by decide)
      generalize (ch : Int) % 65536 = r at *
      rw [← Bool.decide_or]; exact decide_eq_decide.mpr (by clear h n1 n2 n3 n7 e1 e2; omega)
    unfold inval faulty
    rw [n1, n2, n3, n7, e1, e2, e3, if_neg (by omega)]
    simp only [Bool.false_or, Bool.or_false]
theorem errs_faults {x : List Nat} (h : NoS x) : errsOf x = (List.replicate (faults x) bad).map .str := by
  have e : x.filter (fun ch => inval (ch : Nat)) = x.filter fun ch => faulty (ch : Nat) := List.filter_congr fun ch hc => inval_faulty (h ch hc)
  unfold errsOf faults
  rw [e, List.map_const', List.map_replicate]
theorem lawSign_ok (n : Int) : ¬ (55296 ≤ lawSign n ∧ lawSign n ≤ 57343) := by
  unfold lawSign
  have hp0 : 0 ≤ n / 96 % 1112064 := Int.emod_nonneg _ (by decide)
  split
  · have hm0 : 0 ≤ n % 12 := Int.emod_nonneg _ (by decide)
    generalize n % 12 = m at *
    cases e : [97, 13, 10, 13, 38, 98, 10, 32, 0, 1, 12][m.toNat]? with
    | none => simp
    | some ch =>
      have hm := List.mem_of_getElem? e
      simp at hm
      rcases hm with rfl | rfl | rfl | rfl | rfl | rfl | rfl | rfl | rfl | rfl | rfl <;> decide
  · split <;> omega
theorem law_NoS (ns : List Int) : NoS (ns.map lawSign) := by
  intro ch h; obtain ⟨x, _, rfl⟩ := List.mem_map.mp h; exact lawSign_ok x
theorem NoS.noSur {t : List Nat} (h : NoS t) : NoSur t := fun ch hc q => h ch hc (by omega)
/-! a run of signs -/
theorem read_eq {t : List Nat} {s : SS} (h : t.length ≤ 10240) : s.read t 10240 = s.read t t.length := by
  have e : nA t s.place 10240 = nA t s.place t.length := by unfold nA; omega
  unfold SS.read; rw [e]
theorem CU.spec {t : List Nat} {g : Nat → Bool} {s s' : SS} {r : List Nat} (c : CU t g s s' r) : SI t s → r = ((nrm t).drop (s.p t)).takeWhile g ∧ s'.p t = s.p t + r.length := by
  induction c with
  | stop e hall hg =>
    intro h
    refine ⟨?_, ?_⟩
    · rw [h.left, e, List.append_assoc, List.takeWhile_append_of_pos hall]; simp [hg]
    · simp only [SS.p]; omega
  | @fin s hall hd =>
    intro h
    have e : (nrm t).drop (s.p t) = (nrm (seg t s.u s.d)).drop s.off := by
      rw [h.left, hd, List.drop_length]; simp [nrm_nil.mpr]
    refine ⟨?_, ?_⟩
    · rw [e]
      have := List.takeWhile_append_of_pos (l₂ := []) hall
      simpa using this.symm
    · rw [SS.read_p, h.end_eq, SS.p]
      have := h.ho
      simp; omega
  | @more s s' r hall hd c ih =>
    intro h
    obtain ⟨a, b⟩ := ih (h.next (by omega))
    have hp : (s.read t 10240).p t = s.e t := rfl
    have e : (nrm t).drop (s.e t) = nrm (t.drop s.d) := by
      rw [h.whole, h.end_eq, ← List.append_assoc, ← List.length_append, List.drop_left]
    refine ⟨?_, ?_⟩
    · rw [h.left, List.takeWhile_append_of_pos hall, ← e, ← hp, ← a]
    · rw [b, hp, h.end_eq, SS.p]
      have := h.ho
      simp; omega
theorem tw_stop {g : Nat → Bool} {l pre post : List Nat} {ch : Nat} (e : l = pre ++ ch :: post) (h : ∀ x ∈ pre, g x = true) (hg : g ch = false) : l.takeWhile g = pre := by
  rw [e, List.takeWhile_append_of_pos h, List.takeWhile_cons, hg]; simp
theorem CU.det {t : List Nat} {g : Nat → Bool} {s s₁ s₂ : SS} {r₁ r₂ : List Nat} (a : CU t g s s₁ r₁) : CU t g s s₂ r₂ → s₁ = s₂ := by
  induction a generalizing s₂ r₂ with
  | @stop s pre post ch e hall hg =>
    intro b
    have hno : ¬ ∀ x ∈ (nrm (seg t s.u s.d)).drop s.off, g x = true := fun q => by
      have := q ch (by rw [e]; simp)
      rw [hg] at this; cases this
    cases b with
    | stop e' hall' hg' => rw [← tw_stop e hall hg, ← tw_stop e' hall' hg']
    | fin h _ => exact absurd h hno
    | more h _ _ => exact absurd h hno
  | @fin s hall hd =>
    intro b
    cases b with
    | @stop _ pre post ch e' hall' hg' =>
      have := hall ch (by rw [e']; simp)
      rw [hg'] at this; cases this
    | fin _ _ => rfl
    | more _ hd' _ => omega
  | @more s s' r hall hd c ih =>
    intro b
    cases b with
    | @stop _ pre post ch e' hall' hg' =>
      have := hall ch (by rw [e']; simp)
      rw [hg'] at this; cases this
    | fin _ hd' => omega
    | more _ _ b => exact ih b
/-- where a run ends -/
def endAt (K : List Nat) (g : Nat → Bool) (p : Nat) : Nat := p + ((K.drop p).takeWhile g).length
theorem tw_all {g : Nat → Bool} (l : List Nat) (h : (l.takeWhile g).length = l.length) : ∀ x ∈ l, g x = true := by
  have e : l.takeWhile g = l := by
    have h1 := List.takeWhile_append_dropWhile (p := g) (l := l)
    have h2 := congrArg List.length h1
    rw [List.length_append] at h2
    have : l.dropWhile g = [] := List.eq_nil_of_length_eq_zero (by omega)
    rw [this, List.append_nil] at h1; exact h1
  intro x hx
  rw [← e] at hx
  exact (List.all_eq_true.mp (List.all_takeWhile (p := g) (l := l))) x hx
theorem tw_le (g : Nat → Bool) (l : List Nat) : (l.takeWhile g).length ≤ l.length := (List.takeWhile_sublist g).length_le
theorem endAt_le {K : List Nat} {g : Nat → Bool} {p : Nat} (h : p ≤ K.length) : p ≤ endAt K g p ∧ endAt K g p ≤ K.length := by
  have := tw_le g (K.drop p)
  rw [List.length_drop] at this
  unfold endAt; omega
/-- a stop lies in the piece -/
theorem run_stop {t : List Nat} {g : Nat → Bool} {s : SS} (h : SI t s) (he : endAt (nrm t) g (s.p t) < s.e t) : ∃ r, CU t g s { s with off := s.off + (endAt (nrm t) g (s.p t) - s.p t) } r := by
  have hl := h.left
  have hee := h.end_eq
  have hho := h.ho
  unfold endAt at he
  generalize hX : (nrm (seg t s.u s.d)).drop s.off = X at *
  have hXl : X.length = s.e t - s.p t := by rw [← hX, hee, SS.p]; simp; omega
  rw [hl] at he
  have hlt : ¬ ∀ x ∈ X, g x = true := fun q => by
    rw [List.takeWhile_append_of_pos q, List.length_append] at he
    have : s.p t ≤ s.e t := h.p_le.1
    omega
  have hne : X.dropWhile g ≠ [] := fun q => by
    have h1 := List.takeWhile_append_dropWhile (p := g) (l := X)
    rw [q, List.append_nil] at h1
    exact hlt (tw_all X (by rw [h1]))
  obtain ⟨ch, post, hdw⟩ : ∃ ch post, X.dropWhile g = ch :: post := by
    cases e : X.dropWhile g with
    | nil => exact absurd e hne
    | cons a l => exact ⟨a, l, rfl⟩
  have hs := (List.takeWhile_append_dropWhile (p := g) (l := X)).symm
  rw [hdw] at hs
  have hg : g ch = false := by
    have := List.head?_dropWhile_not g X
    rw [hdw] at this
    simpa using this
  have hall : ∀ x ∈ X.takeWhile g, g x = true := fun x hx => (List.all_eq_true.mp (List.all_takeWhile (p := g) (l := X))) x hx
  have hw : endAt (nrm t) g (s.p t) - s.p t = (X.takeWhile g).length := by
    unfold endAt
    rw [hl]
    have : (X ++ nrm (t.drop s.d)).takeWhile g = X.takeWhile g := by
      conv => lhs; rw [hs]
      rw [List.append_assoc, List.cons_append]
      exact tw_stop rfl hall hg
    rw [this]; omega
  rw [hw]
  exact ⟨_, CU.stop (by rw [hX]; exact hs) hall hg⟩
/-- the whole piece is run through -/
theorem run_over {t : List Nat} {g : Nat → Bool} {s : SS} (h : SI t s) (he : s.e t ≤ endAt (nrm t) g (s.p t)) : (∀ x ∈ (nrm (seg t s.u s.d)).drop s.off, g x = true) ∧ endAt (nrm t) g (s.e t) = endAt (nrm t) g (s.p t) := by
  have hl := h.left
  have hee := h.end_eq
  have hho := h.ho
  have hpe := h.p_le.1
  have hde : (nrm t).drop (s.e t) = nrm (t.drop s.d) := by
    rw [h.whole, h.end_eq, ← List.append_assoc, ← List.length_append, List.drop_left]
  unfold endAt at *
  generalize hX : (nrm (seg t s.u s.d)).drop s.off = X at *
  have hXl : X.length = s.e t - s.p t := by rw [← hX, hee, SS.p]; simp; omega
  rw [hl] at he ⊢
  have hall : ∀ x ∈ X, g x = true := by
    apply Classical.byContradiction
    intro hlt
    have hle : ((X ++ nrm (t.drop s.d)).takeWhile g).length = (X.takeWhile g).length := by
      rw [List.takeWhile_append]
      split
      · rename_i q; exact absurd (tw_all X q) hlt
      · rfl
    rw [hle] at he
    exact hlt (tw_all X (by have := tw_le g X; omega))
  refine ⟨hall, ?_⟩
  rw [List.takeWhile_append_of_pos hall, List.length_append, hXl, hde]
  omega
theorem CU.all {t : List Nat} {g : Nat → Bool} {s s' : SS} {r : List Nat} (c : CU t g s s' r) (hg : ∀ x, g x = true) : SI t s → s'.d = t.length ∧ s'.p t = (nrm t).length ∧ r = (nrm t).drop (s.p t) := by
  intro h
  obtain ⟨a, b⟩ := c.spec h
  have hr : r = (nrm t).drop (s.p t) := by
    rw [a]
    have : ∀ l : List Nat, l.takeWhile g = l := fun l => by induction l with | nil => rfl | cons x l ih => rw [List.takeWhile_cons, hg, ih]; rfl
    exact this _
  have hp := h.p_le
  refine ⟨?_, ?_, hr⟩
  · clear a b hr hp
    induction c with
    | stop e hall hf => rw [hg] at hf; cases hf
    | @fin s hall hd => rw [h.read_end hd]; exact hd
    | @more s s' r hall hd c ih => exact ih (h.next (by omega))
  · rw [b, hr, List.length_drop]; omega
/-- the least of the places where the run would stop -/
theorem min_end {K : List Nat} {g : Nat → Bool} {p : Nat} {m : Int} (hp : p ≤ K.length) {xs : List Int}
    (hx : ∀ a : Int, a ∈ xs ↔ a = K.length ∨ ∃ i ch, a = ((p + i : Nat) : Int) ∧ K[p + i]? = some ch ∧ g ch = false) (h : IsMin xs m) : m = (endAt K g p : Nat) := by
  obtain ⟨hm, hle⟩ := h
  obtain ⟨e1, e2⟩ := endAt_le (g := g) hp
  have hge : ∀ a ∈ xs, ((endAt K g p : Nat) : Int) ≤ a := by
    intro a ha
    rcases (hx a).mp ha with rfl | ⟨i, ch, rfl, hc, hg⟩
    · omega
    · apply Classical.byContradiction
      intro hlt
      have hi : i < ((K.drop p).takeWhile g).length := by unfold endAt at hlt; omega
      have h1 : ((K.drop p).takeWhile g)[i]? = (K.drop p)[i]? := by
        have := List.takeWhile_prefix (p := g) (l := K.drop p)
        obtain ⟨r, hr⟩ := this
        conv => rhs; rw [← hr]
        rw [List.getElem?_append_left hi]
      rw [List.getElem?_drop, hc] at h1
      have := (List.all_eq_true.mp (List.all_takeWhile (p := g) (l := K.drop p))) ch (List.mem_of_getElem? h1)
      rw [hg] at this; cases this
  have hmem : ((endAt K g p : Nat) : Int) ∈ xs := by
    rw [hx]
    by_cases hl : endAt K g p = K.length
    · exact .inl (by rw [hl])
    · right
      have hw : ((K.drop p).takeWhile g).length < (K.drop p).length := by unfold endAt at *; rw [List.length_drop]; omega
      refine ⟨((K.drop p).takeWhile g).length, ?_⟩
      obtain ⟨ch, post, hdw⟩ : ∃ ch post, (K.drop p).dropWhile g = ch :: post := by
        cases e : (K.drop p).dropWhile g with
        | nil =>
          have h1 := congrArg List.length (List.takeWhile_append_dropWhile (p := g) (l := K.drop p))
          rw [e, List.append_nil] at h1; omega
        | cons a l => exact ⟨a, l, rfl⟩
      refine ⟨ch, rfl, ?_, ?_⟩
      · rw [← List.getElem?_drop]
        have hs := List.takeWhile_append_dropWhile (p := g) (l := K.drop p)
        rw [hdw] at hs
        generalize (K.drop p).takeWhile g = T at *
        rw [← hs, List.getElem?_append_right (Nat.le_refl _), Nat.sub_self]; rfl
      · have := List.head?_dropWhile_not g (K.drop p)
        rw [hdw] at this
        simpa using this
  have h1 := hle _ hmem
  have h2 := hge _ hm
  omega
set_option Elab.async false
set_option autoImplicit true
set_option linter.unusedVariables false
set_option maxRecDepth 20000
section
variable {c : Cx} {σ : St} {Q : Fl → St → Prop}
/-- behind a statement: on, what is no more wanted let go -/
def Then (n₀ : Nat) (R : St → Prop) (fl : Fl) (σ' : St) : Prop := fl = .next ∧ ∃ σ₁, Wk n₀ σ' σ₁ ∧ R σ₁
theorem TB_step {st : Stmt} {r : List Stmt} {R : St → Prop} (h1 : TS c st σ (Then c.n₀ R)) (h2 : ∀ σ', R σ' → TB c r σ' Q) : TB c (st :: r) σ Q :=
  TB_cons (TS_mono h1 fun fl σ' h => by obtain ⟨rfl, σ₁, w, hR⟩ := h; exact TB_wk w (h2 _ hR))
end
section
variable {c : Cx} {P : Params}
/-- the first half's names -/
abbrev LA (a : Addr) (t : List Nat) (place sign line column : Option V) : List (Option V) :=
  [some (.val (.ref a)), some (.obj 3), none, some (.d (.str t)), some (.cel 0), some (.obj 5), some (.obj 6), some (.obj 7), place, sign, line, column, none, none, none, none, some (.cel 1), none, none, none, some (.cel 2), none]
structure WA (os : List O) (ns : List Int) (t : List Nat) (i j : Nat) : Prop where
  len : os.length = 8
  c0 : os[0]? = some (.cell (some (.obj 4)))
  c1 : os[1]? = some (.cell none)
  c2 : os[2]? = some (.cell none)
  nu : os[3]? = some (.list (ns.map .int))
  ke : os[4]? = some (.list (chs (nrm (t.take i))))
  co : os[5]? = some (.list (cnts t j))
  to : os[6]? = some (.list (tolds t j))
  sp : os[7]? = some (.list (spots (nrm (t.take i))))
  ok : os.all (okO os.length) = true
theorem nrm_take_len (t : List Nat) (i : Nat) : (nrm (t.take i)).length ≤ t.length := by
  have h1 := nrm_len (t.take i)
  have h2 : (t.take i).length ≤ t.length := by rw [List.length_take]; omega
  omega
set_option maxHeartbeats 4000000 in
theorem law_signs (hK : c.G.K = fgx P) {n : Nat} {st : Stmt} (hst : lawB[3]? = some st) {a : Addr} {t : List Nat} {ns : List Int} {os : List O} (ht : t.length ≤ 30) (w0 : WA os ns t 0 0) :
    TS ⟨c.G, n + 1 + 1, 0, lawS, lawN, lawG⟩ st ⟨LA a t none none none none, os⟩ (Then 0 fun σ' => ∃ os', σ' = ⟨LA a t none none none none, os'⟩ ∧ WA os' ns t t.length t.length) := by
  refine part_of (P := fun st => TS _ st _ _) rfl hst ?_
  dsimp only [lawN, lawG, LA]
  refine TS_for (TI_enumS (by dsimp only; decide +kernel) (by exact g_enumerate hK) ?_)
  repeat walk_at "ts"
  refine ⟨t, rfl, fun i σ2 => ∃ Y, σ2 = ⟨LA a t none none none none, Y⟩ ∧ WA Y ns t i i, ⟨os, rfl, w0⟩, ?_, ?_, ?_⟩
  · rintro i _ ⟨Y, rfl, w'⟩; exact ⟨by simp only; rw [w'.len, w0.len], trivial⟩
  · rintro i d _ hd ⟨Y, rfl, w⟩
    obtain ⟨ch, hch, rfl⟩ : ∃ ch, t[i]? = some ch ∧ d = .tup [.int (i : Int), .str [ch]] := by
      rw [enumD_get, List.getElem?_map] at hd
      cases e : t[i]? with
      | none => rw [e] at hd; cases hd
      | some l => rw [e] at hd; cases hd; exact ⟨l, rfl, rfl⟩
    have hi := (List.getElem?_eq_some_iff.mp hch).1
    dsimp only [Cx.floor, LA]
    iterate 6 walk_at "ts"
    have hcond : i = 0 ∨ ∃ j, i = j + 1 := by cases i with | zero => exact .inl rfl | succ j => exact .inr ⟨j, rfl⟩
    -- the mended sign, its place
    refine TB_step (R := fun σ' => ∃ os', σ' = ⟨LA a t (some (.d (.int i))) (some (.d (.str [ch]))) none none, os'⟩ ∧ WA os' ns t (i + 1) i) ?_ ?_
    · refine TS_if (TT_mono (Q := fun b σ' => (b = true ↔ ¬ (ch = 10 ∧ ∃ j, i = j + 1 ∧ t[j]? = some 13)) ∧ σ' = ⟨LA a t (some (.d (.int i))) (some (.d (.str [ch]))) none none, Y⟩) ?_ ?_)
      · repeat walk_at "ts"
        refine TC_nes ?_
        by_cases h10 : ch = 10
        · refine ite_f (by simp [h10]) ?_
          repeat walk_at "ts"
          refine TSlc_str (by omega) ?_
          repeat walk_at "ts"
          refine TC_nes ?_
          rcases hcond with h0 | ⟨j, hj⟩
          · have e : sl t (some ((i : Int) - 1)) (some (i : Int)) = [] := by
              subst h0; unfold sl; simp [clipN]
            rw [e]
            refine ite_t rfl ?_
            refine ⟨⟨fun _ q => ?_, fun _ => rfl⟩, rfl⟩
            obtain ⟨_, j, e, _⟩ := q
            omega
          · obtain ⟨cj, hcj⟩ : ∃ cj, t[j]? = some cj := ⟨_, List.getElem?_eq_getElem (by omega)⟩
            have e : sl t (some ((i : Int) - 1)) (some (i : Int)) = [cj] := by
              subst hj
              rw [sl_mid _ (by omega) (by omega), show (((j + 1 : Nat) : Int) - 1).toNat = j by omega, show ((j + 1 : Nat) : Int).toNat - j = 1 by omega]
              rw [List.drop_eq_getElem_cons (by omega)]
              rw [(List.getElem?_eq_some_iff.mp hcj).2]; rfl
            rw [e]
            by_cases h13 : cj = 13
            · refine ite_f (by simp [h13]) ?_
              refine TT_or0 ?_
              exact ⟨⟨fun q => Bool.noConfusion q, fun q => absurd ⟨h10, j, hj, by rw [hcj, h13]⟩ q⟩, rfl⟩
            · refine ite_t (by simp [h13]) ?_
              refine ⟨⟨fun _ => ?_, fun _ => rfl⟩, rfl⟩
              rintro ⟨_, k, hk, e⟩
              obtain rfl : j = k := by omega
              rw [hcj] at e; cases e; exact h13 rfl
        · refine ite_t (by simp [h10]) ?_
          exact ⟨⟨fun _ q => h10 q.1, fun _ => rfl⟩, rfl⟩
      · rintro b _ ⟨hb, rfl⟩
        by_cases hskip : ch = 10 ∧ ∃ j, i = j + 1 ∧ t[j]? = some 13
        · refine ite_f (Bool.eq_false_iff.mpr fun q => hb.mp q hskip) ?_
          refine TB_nil ?_
          obtain ⟨rfl, j, rfl, hj⟩ := hskip
          have e := nrm_step_skip hch hj
          exact ⟨rfl, _, ⟨⟨[], (List.append_nil _).symm⟩, by show os.length ≤ Y.length; rw [w.len, w0.len]; exact Nat.le_refl _, w.ok, LocLe.refl _, by simp [okL, okV, w.len]⟩, Y, rfl, { w with ke := by rw [e]; exact w.ke, sp := by rw [e]; exact w.sp }⟩
        · refine ite_t (hb.mpr hskip) ?_
          have e := nrm_step_take hch hskip
          have hkl := nrm_take_len t i
          generalize hX : nrm (t.take i) = X at *
          obtain ⟨l, hsl, hll⟩ := spots_last X
          have wsp := w.sp
          have wke := w.ke
          have wc0 := w.c0
          rw [hX] at wsp wke
          refine TB_to ⟨LA a t (some (.d (.int i))) (some (.d (.str [ch]))) (some (.d (.int (lnOf X + 1)))) (some (.d (.int (clOf X)))), Y⟩ ?_ ?_
          · dsimp only [LA]
            repeat walk_at "ts"
            refine TItem_neg1 (xs := l) (d := spotD X) (by rw [← hsl]; exact wsp) (by omega) ?_
            repeat walk_at "ts"
            exact ⟨rfl, rfl⟩
          have hsp2 : spots (X ++ [if ch = 13 then 10 else ch]) = spots X ++ [spotD (X ++ [if ch = 13 then 10 else ch])] := spots_snoc X _
          refine TB_to ⟨LA a t (some (.d (.int i))) (some (.d (.str [ch]))) (some (.d (.int (lnOf X + 1)))) (some (.d (.int (clOf X)))), Y.set 7 (.list (spots (X ++ [if ch = 13 then 10 else ch])))⟩ ?_ ?_
          · dsimp only [LA]
            repeat walk_at "ts"
            refine TMeth_append wsp ?_
            repeat walk_at "ts"
            refine TC_in_str ?_
            by_cases hc : ch ∈ [13, 10]
            · have e10 : (if ch = 13 then 10 else ch) = 10 := by
                simp at hc; rcases hc with rfl | rfl <;> rfl
              refine ite_t (by simpa using hc) ?_
              repeat walk_at "ts"
              refine TCall_append wsp (by rw [hsl]; simp; omega) ?_
              repeat walk_at "ts"
              rw [hsp2, e10]
              refine ⟨rfl, ?_⟩
              rw [spotD, ln_snoc, cl_snoc, if_pos rfl, if_pos rfl]
            · have e10 : (if ch = 13 then 10 else ch) = ch ∧ ch ≠ 10 := by
                simp at hc; exact ⟨if_neg hc.1, hc.2⟩
              refine ite_f (by simpa using hc) ?_
              repeat walk_at "ts"
              refine TCall_append wsp (by rw [hsl]; simp; omega) ?_
              repeat walk_at "ts"
              rw [hsp2, e10.1]
              refine ⟨rfl, ?_⟩
              rw [spotD, ln_snoc, cl_snoc, if_neg e10.2, if_neg e10.2]
          · have wc0' := set_ne (x := O.list (spots (X ++ [if ch = 13 then 10 else ch]))) (show (7 : Nat) ≠ 0 by decide) wc0
            have wke' := set_ne (x := O.list (spots (X ++ [if ch = 13 then 10 else ch]))) (show (7 : Nat) ≠ 4 by decide) wke
            refine TB_cons ?_
            dsimp only [LA]
            repeat walk_at "ts"
            refine TMeth_append wke' ?_
            have fin : Then os.length (fun σ' => ∃ os', σ' = ⟨LA a t (some (.d (.int i))) (some (.d (.str [ch]))) none none, os'⟩ ∧ WA os' ns t (i + 1) i) .next
              ⟨LA a t (some (.d (.int i))) (some (.d (.str [ch]))) (some (.d (.int (lnOf X + 1)))) (some (.d (.int (clOf X)))), (Y.set 7 (.list (spots (X ++ [if ch = 13 then 10 else ch])))).set 4 (.list (chs X ++ [.str [if ch = 13 then 10 else ch]]))⟩ := by
              have hO : ((Y.set 7 (.list (spots (X ++ [if ch = 13 then 10 else ch])))).set 4 (.list (chs X ++ [.str [if ch = 13 then 10 else ch]]))).all (okO ((Y.set 7 (.list (spots (X ++ [if ch = 13 then 10 else ch])))).set 4 (.list (chs X ++ [.str [if ch = 13 then 10 else ch]]))).length) = true := okO_set (okO_set w.ok rfl) rfl
              have hl : ((Y.set 7 (.list (spots (X ++ [if ch = 13 then 10 else ch])))).set 4 (.list (chs X ++ [.str [if ch = 13 then 10 else ch]]))).length = 8 := by rw [List.length_set, List.length_set, w.len]
              refine ⟨rfl, ⟨_, (Y.set 7 (.list (spots (X ++ [if ch = 13 then 10 else ch])))).set 4 (.list (chs X ++ [.str [if ch = 13 then 10 else ch]]))⟩, ⟨⟨[], (List.append_nil _).symm⟩, by show os.length ≤ _; rw [hl, w0.len]; exact Nat.le_refl _, hO, ?_, ?_⟩, _, rfl, ⟨hl, ?_, ?_, ?_, ?_, ?_, ?_, ?_, ?_, hO⟩⟩
              · exact .same (.same (.same (.same (.same (.same (.same (.same (.same (.same (.drop (.drop (LocLe.refl _))))))))))))
              · simp [okL, okV, hl]
              · exact set_ne (by decide) (set_ne (by decide) w.c0)
              · exact set_ne (by decide) (set_ne (by decide) w.c1)
              · exact set_ne (by decide) (set_ne (by decide) w.c2)
              · exact set_ne (by decide) (set_ne (by decide) w.nu)
              · rw [e, chs_snoc]; exact set_at wke'
              · exact set_ne (by decide) (set_ne (by decide) w.co)
              · exact set_ne (by decide) (set_ne (by decide) w.to)
              · rw [e]; exact set_ne (by decide) (set_at wsp)
            have hkc : (chs X).length ≤ 1000000 := by unfold chs; rw [List.length_map]; omega
            repeat walk_at "ts"
            refine TC_eqs ?_
            by_cases h13 : ch = 13
            · refine ite_t (by simp [h13]) ?_
              repeat walk_at "ts"
              refine TCall_append wke' hkc ?_
              repeat walk_at "ts"
              rw [if_pos h13] at fin ⊢
              exact fin
            · refine ite_f (by simp [h13]) ?_
              repeat walk_at "ts"
              refine TCall_append wke' hkc ?_
              repeat walk_at "ts"
              rw [if_neg h13] at fin ⊢
              exact fin
    · clear w
      rintro _ ⟨Y, rfl, w⟩
      have hkl := nrm_take_len t (i + 1)
      -- count
      refine TB_to ⟨LA a t (some (.d (.int i))) (some (.d (.str [ch]))) none none, Y.set 5 (.list (cnts t (i + 1)))⟩ ?_ ?_
      · dsimp only [LA]
        have wke := w.ke
        have wc0 := w.c0
        repeat walk_at "ts"
        refine TMeth_append w.co ?_
        repeat walk_at "ts"
        refine TCall_len_list wke (by unfold chs; rw [List.length_map]; omega) ?_
        repeat walk_at "ts"
        refine TCall_append w.co (by unfold cnts; rw [List.length_map, List.length_range]; omega) ?_
        repeat walk_at "ts"
        rw [cnts_succ, chs, List.length_map]
        exact ⟨rfl, rfl⟩
      -- told
      have wto := set_ne (x := O.list (cnts t (i + 1))) (show (5 : Nat) ≠ 6 by decide) w.to
      obtain ⟨l, hl, hll⟩ := tolds_last t i
      have hf : faults (t.take (i + 1)) = faults (t.take i) + (if faulty ch then 1 else 0) := by
        rw [List.take_add_one, hch]; exact faults_snoc _ _
      have fin : Lp os.length (fun σ2 => ∃ Y, σ2 = ⟨LA a t none none none none, Y⟩ ∧ WA Y ns t (i + 1) (i + 1)) (Then 0 fun σ' => ∃ os', σ' = ⟨LA a t none none none none, os'⟩ ∧ WA os' ns t t.length t.length) .next
          ⟨LA a t (some (.d (.int i))) (some (.d (.str [ch]))) none none, (Y.set 5 (.list (cnts t (i + 1)))).set 6 (.list (tolds t (i + 1)))⟩ := by
        have hO : ((Y.set 5 (.list (cnts t (i + 1)))).set 6 (.list (tolds t (i + 1)))).all (okO ((Y.set 5 (.list (cnts t (i + 1)))).set 6 (.list (tolds t (i + 1)))).length) = true := okO_set (okO_set w.ok rfl) rfl
        have hl : ((Y.set 5 (.list (cnts t (i + 1)))).set 6 (.list (tolds t (i + 1)))).length = 8 := by rw [List.length_set, List.length_set, w.len]
        refine ⟨⟨LA a t none none none none, (Y.set 5 (.list (cnts t (i + 1)))).set 6 (.list (tolds t (i + 1)))⟩, ⟨⟨[], (List.append_nil _).symm⟩, by show os.length ≤ _; rw [hl, w0.len]; exact Nat.le_refl _, hO, ?_, ?_⟩, _, rfl, ⟨hl, ?_, ?_, ?_, ?_, ?_, ?_, ?_, ?_, hO⟩⟩
        · exact .same (.same (.same (.same (.same (.same (.same (.same (.drop (.drop (LocLe.refl _))))))))))
        · simp [okL, okV, hl]
        · exact set_ne (by decide) (set_ne (by decide) w.c0)
        · exact set_ne (by decide) (set_ne (by decide) w.c1)
        · exact set_ne (by decide) (set_ne (by decide) w.c2)
        · exact set_ne (by decide) (set_ne (by decide) w.nu)
        · exact set_ne (by decide) (set_ne (by decide) w.ke)
        · exact set_ne (by decide) (set_at w.co)
        · exact set_at wto
        · exact set_ne (by decide) (set_ne (by decide) w.sp)
      have fin2 : ∀ b : Int, b = (if faulty ch then 1 else 0) → D.int (((faults (t.take i) : Nat) : Int) + b) = .int ((faults (t.take (i + 1)) : Nat) : Int) := by
        intro b hb; rw [hf, hb]; congr 1; split <;> omega
      have htl : (tolds t i).length ≤ 1000000 := by rw [hl]; simp; omega
      rw [tolds_succ] at fin
      dsimp only [LA]
      repeat walk_at "ts"
      refine TMeth_append wto ?_
      repeat walk_at "ts"
      refine TItem_neg1 (xs := l) (d := .int (faults (t.take i) : Nat)) (by rw [← hl]; exact wto) (by omega) ?_
      repeat walk_at "ts"
      refine TCall_ord ?_
      repeat walk_at "ts"
      refine TCall_of ?_
      refine c_faulty (by exact hK) rfl (okO_set w.ok rfl) ?_
      repeat walk_at "ts"
      by_cases hfa : faulty ch = true
      · refine ite_t hfa ?_
        repeat walk_at "ts"
        refine TCall_append wto htl ?_
        repeat walk_at "ts"
        rw [fin2 1 (by rw [if_pos hfa])]
        exact fin
      · refine ite_f (by simpa using hfa) ?_
        repeat walk_at "ts"
        refine TCall_append wto htl ?_
        repeat walk_at "ts"
        rw [fin2 0 (by rw [if_neg hfa])]
        exact fin
  · rintro _ ⟨Y, rfl, w⟩
    have e : (enumD (t.map fun ch => D.str [ch])).length = t.length := by rw [enumD_len, List.length_map]
    rw [e] at w
    exact ⟨rfl, _, ⟨⟨[], (List.append_nil _).symm⟩, Nat.zero_le _, w.ok, LocLe.refl _, by simp [okL, okV, w.len]⟩, Y, rfl, w⟩
end
set_option Elab.async false
set_option autoImplicit true
set_option linter.unusedVariables false
set_option maxRecDepth 20000
section
variable {c : Cx} {P : Params}
abbrev L0 (a : Addr) (num tx cnt tld spt : Option V) : List (Option V) :=
  [some (.val (.ref a)), num, none, tx, some (.cel 0), cnt, tld, spt, none, none, none, none, none, none, none, none, some (.cel 1), none, none, none, some (.cel 2), none]
/-! the first statement: the frame's first mark is made here -/
def TE0 (c : Cx) (e : Expr) (σ : St) (Q : V → St → Prop) : Prop :=
  ∀ A env ι s, Ok A c.n → Rep0 c ι σ env s → wpAny c.M A (eval e env) (PV c env ι s Q) NoE s
def TS0 (c : Cx) (st : Stmt) (σ : St) (Q : Fl → St → Prop) : Prop :=
  ∀ A env ι s, Ok A c.n → Rep0 c ι σ env s → wpAny c.M A (exec st env) (PS c env ι s Q) NoE s
def TB0 (c : Cx) (st : List Stmt) (σ : St) (Q : Fl → St → Prop) : Prop :=
  ∀ A env ι s, Ok A c.n → Rep0 c ι σ env s → wpAny c.M A (execs st env) (PS c env ι s Q) NoE s
theorem TB0_to {σ : St} {st : Stmt} {r : List Stmt} {Q : Fl → St → Prop} (σ₁ : St) (h : TS0 c st σ (Only σ₁)) (h2 : TB c r σ₁ Q) : TB0 c (st :: r) σ Q := by
  intro A env ι s ok R
  refine wpAny_execs_cons (wpAny_mono (h A env ι s ok R) (fun f s1 p1 => ?_) fun _ _ x => x)
  obtain ⟨ι1, fl, σ1, x1, R1, r1, rfl, rfl⟩ := p1
  cases f <;> first | exact r1.elim | skip
  exact wpAny_mono (h2 A env ι1 s1 ok R1) (fun _ _ p => PS.trans x1 p) fun _ _ x => x
theorem PS.ofPU0 {σ : St} {Q : Fl → St → Prop} {env ι s s'} (R : Rep0 c ι σ env s) (p : PU c env ι s (fun σ => Q .next σ) s') : PS c env ι s Q .next s' :=
  let ⟨ι', σ', x, R', q⟩ := p
  ⟨ι', .next, σ', x.less R.base, R', trivial, q⟩
theorem TS0_assign {σ : St} {Q : Fl → St → Prop} {t e : Expr} {pos : Pos} (h : TE0 c e σ fun v σ₁ => TA c t v σ₁ fun σ₂ => Q .next σ₂) (hs : ∀ env, swapsWithSole [t] e pos.line env = pure false := by intro _; rfl)
    (hw : ∀ env, swappedStores [t] e env = pure none := by intro _; rfl) (he : ∀ env, (assignEach [t] env).map (·.2) = [assign t env] := by intro _; rfl) : TS0 c (.Assign [t] e pos) σ Q := by
  intro A env ι s ok R
  refine wpAny_Assign_stores (wpAny_mono (h A env ι s ok R) (fun va s1 p1 => ?_) fun _ _ x => x) (hs env) (hw env)
  obtain ⟨ι1, a, σ1, x1, R1, r1, q1⟩ := p1
  rw [he]
  exact wpAny_mono (q1 A env ι1 s1 va ok R1 r1) (fun _ _ p => PS.ofPU0 R (PU.trans x1 p)) fun _ _ x => x
theorem TE0_slice {σ : St} {Q : V → St → Prop} {x : Str} {px pc p pos : Pos} {v : Value} {i : Int} {k : Nat} (hv : Loc c.names σ.loc x (.val v)) (h : TSlc c (.val v) none (some i) σ Q) :
    TE0 c (.Subscript (.Name x px) (.Slice none (some (.Constant (.int i) k pc)) none p) pos) σ Q := by
  intro A env ι s ok R
  obtain ⟨j, h1, h2⟩ := hv.at
  obtain ⟨m, hn, hm⟩ := R.ns
  obtain ⟨val, e, r⟩ := hm j x _ h1 h2
  have hx := List.mem_of_getElem? h1
  cases r
  have hload : wpAny c.M A (eval (.Name x px) env) (fun va s1 => va = v ∧ s1 = s) NoE s := by
    rcases e with ⟨e1, e2⟩ | ⟨e1, _⟩
    · exact wpAny_Name (wpAny_loadName_local (by rw [R.scope]; exact R.good.kind) (by rw [Env.kindOf, R.scope]; exact e1) hn e2 ⟨rfl, rfl⟩) (ne_debug hx R.good.dbg.1)
    · cases e1
  refine Subscript_ (wpAny_mono hload (fun va s1 p1 => ?_) fun _ _ x => x)
  obtain ⟨rfl, rfl⟩ := p1
  show wpAny _ _ (do let l ← valueOrNone (evalOpt none env); let u ← holding [l] (valueOrNone (evalOpt (some (.Constant (.int i) k pc)) env)); let s ← holding [l, u] (valueOrNone (evalOpt none env)); newFields "slice" [l, u, s]) _ _ _
  refine wpAny_bind (wpAny_pure ?_)
  refine wpAny_bind (wpAny_holding ?_)
  show wpAny _ _ (eval (.Constant (.int i) k pc) env) _ _ _
  refine wpAny_Constant_int ?_
  refine wpAny_bind (wpAny_holding (wpAny_pure ?_))
  refine wpAny_newObj_type ?_ (by size_fits)
  have R3 : Rep c ι σ env { s1 with toks := s1.toks + 1 } := Rep0.up (s := { s1 with toks := s1.toks + 1 }) (R.grow fun _ _ e => e) (Nat.succ_pos _)
  have R4 : Rep c ι σ env { s1 with heap := s1.heap.push { cls := .type "slice", data := .fields #[.none, .int i s1.toks, .none] }, toks := s1.toks + 1 } := Rep0.up (R3.push _) R3.tk
  refine tail_T (slice := .Slice none (some (.Constant (.int i) k pc)) none p) (ι := ι) (ι₀ := ι) ?_ (.inr rfl) ?_
  · exact Ext.grow (fun _ _ e => Heap.get?_push_of_some _ e) rfl rfl
  · exact h A env ι _ va .none (.int i s1.toks) _ ok R4 rfl .none (.int i _) (Heap.get?_push_size _ rfl)
set_option maxHeartbeats 4000000 in
theorem law_numbers (hK : c.G.K = fgx P) {n : Nat} {st : Stmt} (hst : lawB[0]? = some st) {a : Addr} {items : List Value} {ns₀ : List Int} (hL : c.G.H.IsList a items.toArray) (hD : DRs c.G.H (ns₀.map .int) items) (hlen : ns₀.length ≤ 100) :
    TS0 ⟨c.G, n + 1 + 1, 0, lawS, lawN, lawG⟩ st ⟨L0 a none none none none none, [.cell none, .cell none, .cell none]⟩ (Only ⟨L0 a (some (.obj 3)) none none none none, [.cell none, .cell none, .cell none, .list ((ns₀.take 30).map .int)]⟩) := by
  refine part_of (P := fun st => TS0 _ st _ _) rfl hst ?_
  dsimp only [lawN, lawG, L0]
  refine TS0_assign (TE0_slice (by walk_at "tl") ?_)
  refine TSlc_base hL hD (by simp; omega) ?_
  rw [sl_to _ (by decide), ← List.map_take]
  repeat walk_at "ts"
  exact ⟨rfl, rfl⟩
theorem new_WA {os : List O} {ns : List Int} (t : List Nat) (hl : os.length = 4) (h0 : os[0]? = some (.cell none)) (h1 : os[1]? = some (.cell none)) (h2 : os[2]? = some (.cell none)) (h3 : os[3]? = some (.list (ns.map .int))) (hO : os.all (okO os.length) = true) :
    WA ((os ++ [O.list []] ++ [O.list [.int 0]] ++ [O.list [.int 0]] ++ [O.list [.tup [.int 1, .int 0]]]).set 0 (.cell (some (.obj 4)))) ns t 0 0 := by
  have e1 : (os ++ [O.list []]).length = 5 := by simp [hl]
  have e2 : (os ++ [O.list []] ++ [O.list [.int 0]]).length = 6 := by simp [hl]
  have e3 : (os ++ [O.list []] ++ [O.list [.int 0]] ++ [O.list [.int 0]]).length = 7 := by simp [hl]
  have n4 : (os ++ [O.list []])[4]? = some (.list []) := by rw [← hl]; exact app_new
  have n5 : (os ++ [O.list []] ++ [O.list [.int 0]])[5]? = some (.list [.int 0]) := by rw [← e1]; exact app_new
  have n6 : (os ++ [O.list []] ++ [O.list [.int 0]] ++ [O.list [.int 0]])[6]? = some (.list [.int 0]) := by rw [← e2]; exact app_new
  have n7 : (os ++ [O.list []] ++ [O.list [.int 0]] ++ [O.list [.int 0]] ++ [O.list [.tup [.int 1, .int 0]]])[7]? = some (.list [.tup [.int 1, .int 0]]) := by rw [← e3]; exact app_new
  have hO' := okO_app (okO_app (okO_app (okO_app hO (show [O.list []].all (okO (os ++ [O.list []]).length) = true from rfl)) (show [O.list [.int 0]].all (okO (os ++ [O.list []] ++ [O.list [.int 0]]).length) = true from rfl)) (show [O.list [.int 0]].all (okO (os ++ [O.list []] ++ [O.list [.int 0]] ++ [O.list [.int 0]]).length) = true from rfl)) (show [O.list [.tup [.int 1, .int 0]]].all (okO (os ++ [O.list []] ++ [O.list [.int 0]] ++ [O.list [.int 0]] ++ [O.list [.tup [.int 1, .int 0]]]).length) = true from rfl)
  refine ⟨by simp [hl], set_at (app_l (app_l (app_l (app_l h0)))), set_ne (by decide) (app_l (app_l (app_l (app_l h1)))), set_ne (by decide) (app_l (app_l (app_l (app_l h2)))), set_ne (by decide) (app_l (app_l (app_l (app_l h3)))), set_ne (by decide) (app_l (app_l (app_l n4))), set_ne (by decide) (app_l (app_l n5)), set_ne (by decide) (app_l n6), set_ne (by decide) n7, okO_set hO' ?_⟩
  rw [List.length_append, e3]; rfl
theorem sgn_flat (ns : List Int) : (ns.map fun n => [lawSign n]).flatten = ns.map lawSign := by
  induction ns with
  | nil => rfl
  | cons a l ih => rw [List.map_cons, List.map_cons, List.flatten_cons, ih]; rfl
set_option maxHeartbeats 4000000 in
theorem law_text (hK : c.G.K = fgx P) {n : Nat} {st : Stmt} (hst : lawB[1]? = some st) {a : Addr} {ns : List Int} {os : List O} (hl : os.length = 4) (h3 : os[3]? = some (.list (ns.map .int))) (hO : os.all (okO os.length) = true) (hlen : ns.length ≤ 30) :
    TS ⟨c.G, n + 1 + 1, 0, lawS, lawN, lawG⟩ st ⟨L0 a (some (.obj 3)) none none none none, os⟩ (OnlyW 0 ⟨L0 a (some (.obj 3)) (some (.d (.str (ns.map lawSign)))) none none none, os⟩) := by
  refine part_of (P := fun st => TS _ st _ _) rfl hst ?_
  dsimp only [lawN, lawG, L0]
  have hsum : ((ns.map fun n => [lawSign n]).map List.length).sum ≤ 1000000 := by
    rw [← List.length_flatten, sgn_flat, List.length_map]; omega
  repeat walk_at "ts"
  refine TE_compI (ns := ns) ["_law_sign"] (fun i => .str [lawSign i]) ?_ ⟨by decide +kernel, by decide +kernel, by decide +kernel, by decide +kernel⟩ (fun _ => by walk_at "tg")
  repeat walk_at "ts"
  refine ⟨3, rfl, h3, hO, by omega, fun acc i hi => ?_, ?_⟩
  · refine TE_call ?_
    refine TE_globv (by dsimp only; decide +kernel) (g_148 (by exact hK)) ?_
    repeat walk_at "ts"
    refine TCall_of (c_sign (by exact hK) rfl (okO_app hO rfl) ⟨rfl, rfl, [], (List.append_nil _).symm⟩)
  · repeat walk_at "ts"
    have e : (os ++ [O.list (ns.map fun i => D.str [lawSign i])])[os.length]? = some (.list ((ns.map fun n => [lawSign n]).map .str)) := by
      rw [List.map_map]; exact app_new
    refine TCall_join e hsum ?_
    rw [sgn_flat]
    repeat walk_at "ts"
    refine ⟨rfl, ⟨⟨_, rfl⟩, Nat.zero_le _, hO, LocLe.refl _, by simp [okL, okV, hl]⟩⟩
set_option maxHeartbeats 4000000 in
theorem law_four (hK : c.G.K = fgx P) {n : Nat} {st : Stmt} (hst : lawB[2]? = some st) {a : Addr} {t : List Nat} {os : List O} (hl : os.length = 4) (h0 : os[0]? = some (.cell none)) :
    TS ⟨c.G, n + 1 + 1, 0, lawS, lawN, lawG⟩ st ⟨L0 a (some (.obj 3)) (some (.d (.str t))) none none none, os⟩
      (Only ⟨L0 a (some (.obj 3)) (some (.d (.str t))) (some (.obj 5)) (some (.obj 6)) (some (.obj 7)), (os ++ [O.list []] ++ [O.list [.int 0]] ++ [O.list [.int 0]] ++ [O.list [.tup [.int 1, .int 0]]]).set 0 (.cell (some (.obj 4)))⟩) := by
  refine part_of (P := fun st => TS _ st _ _) rfl hst ?_
  dsimp only [lawN, lawG, L0]
  with_reducible refine TS_assignT ?_ ?_ ?_ ?_ ?_ ?_
  rotate_left
  · intro _; rfl
  · intro _; rfl
  · intro _; rfl
  · intro _; rfl
  · intro _; rfl
  repeat walk_at "ts"
  refine ⟨rfl, Nat.le_of_ble_eq_true rfl, ?_⟩
  dsimp only [TAv]
  have e1 : (os ++ [O.list []]).length = 5 := by simp [hl]
  have e2 : (os ++ [O.list []] ++ [O.list [.int 0]]).length = 6 := by simp [hl]
  have e3 : (os ++ [O.list []] ++ [O.list [.int 0]] ++ [O.list [.int 0]]).length = 7 := by simp [hl]
  rw [hl, e1, e2, e3]
  have h0' : (os ++ [O.list []] ++ [O.list [.int 0]] ++ [O.list [.int 0]] ++ [O.list [.tup [.int 1, .int 0]]])[0]? = some (.cell none) := app_l (app_l (app_l (app_l h0)))
  repeat walk_at "ts"
  exact ⟨rfl, rfl⟩
end
set_option Elab.async false
set_option autoImplicit true
set_option linter.unusedVariables false
set_option maxRecDepth 20000
/-- the second half's names -/
abbrev LB (a : Addr) (t : List Nat) (n place state start fresh size came due en : Option V) : List (Option V) :=
  [some (.val (.ref a)), some (.obj 3), n, some (.d (.str t)), some (.cel 0), some (.obj 5), some (.obj 6), some (.obj 7), place, none, none, none, some (.obj 8), state, start, fresh, some (.cel 1), size, came, due, some (.cel 2), en]
structure WB (os : List O) (ns : List Int) (t : List Nat) (a d : Nat) (dv : Option V) (s : SS) : Prop where
  len : 13 ≤ os.length
  c0 : os[0]? = some (.cell (some (.obj 4)))
  c1 : os[1]? = some (.cell dv)
  c2 : ∃ rv, os[2]? = some (.cell rv) ∧ ∀ n, okO n (.cell rv) = true
  nu : os[3]? = some (.list (ns.map .int))
  ke : os[4]? = some (.list (chs (nrm t)))
  co : os[5]? = some (.list (cnts t t.length))
  to : os[6]? = some (.list (tolds t t.length))
  sp : os[7]? = some (.list (spots (nrm t)))
  at_ : SAt os 8 9 10 11 t s
  nl : os[9]? = some (.list [.int 0])
  sa : os[12]? = some (.list [.int a, .int d])
  dk : ∀ n, okO n (.cell dv) = true
  ok : os.all (okO os.length) = true
section
variable {os : List O} {ns : List Int} {t : List Nat} {a d : Nat} {dv : Option V} {s : SS}
theorem WB.app (w : WB os ns t a d dv s) {l : List O} (h : l.all (okO (os ++ l).length) = true) : WB (os ++ l) ns t a d dv s := by
  obtain ⟨rv, hrv, hrk⟩ := w.c2
  exact ⟨by have := w.len; rw [List.length_append]; omega, app_l w.c0, app_l w.c1, ⟨rv, app_l hrv, hrk⟩, app_l w.nu, app_l w.ke, app_l w.co, app_l w.to, app_l w.sp, w.at_.frame ((app_l w.at_.o).trans w.at_.o.symm) ((app_l w.at_.x).trans w.at_.x.symm) ((app_l w.at_.er).trans w.at_.er.symm), app_l w.nl, app_l w.sa, w.dk, okO_app w.ok h⟩
/-- the stream has moved -/
theorem WB.move (w : WB os ns t a d dv s) {os' : List O} {s' : SS} (h : SAt os' 8 9 10 11 t s') (b : Only3 os os' 8 10 11) : WB os' ns t a d dv s' := by
  obtain ⟨rv, hrv, hrk⟩ := w.c2
  exact ⟨by rw [b.len]; exact w.len, (b.same 0 (by decide) (by decide) (by decide)).trans w.c0, (b.same 1 (by decide) (by decide) (by decide)).trans w.c1, ⟨rv, (b.same 2 (by decide) (by decide) (by decide)).trans hrv, hrk⟩, (b.same 3 (by decide) (by decide) (by decide)).trans w.nu, (b.same 4 (by decide) (by decide) (by decide)).trans w.ke,
    (b.same 5 (by decide) (by decide) (by decide)).trans w.co, (b.same 6 (by decide) (by decide) (by decide)).trans w.to, (b.same 7 (by decide) (by decide) (by decide)).trans w.sp, h, (b.same 9 (by decide) (by decide) (by decide)).trans w.nl, (b.same 12 (by decide) (by decide) (by decide)).trans w.sa, w.dk, b.ok⟩
theorem set_get {α} {l : List α} {j k : Nat} {x : α} (h : j ≠ k) : (l.set j x)[k]? = l[k]? := List.getElem?_set_ne h
theorem WB.more (w : WB os ns t a d dv s) (a' d' : Nat) : WB (os.set 12 (.list [.int a', .int d'])) ns t a' d' dv s := by
  obtain ⟨rv, hrv, hrk⟩ := w.c2
  exact ⟨by rw [List.length_set]; exact w.len, (set_get (by decide)).trans w.c0, (set_get (by decide)).trans w.c1, ⟨rv, (set_get (by decide)).trans hrv, hrk⟩, (set_get (by decide)).trans w.nu, (set_get (by decide)).trans w.ke, (set_get (by decide)).trans w.co, (set_get (by decide)).trans w.to, (set_get (by decide)).trans w.sp,
    w.at_.frame (set_get (by decide)) (set_get (by decide)) (set_get (by decide)), (set_get (by decide)).trans w.nl, set_at w.sa, w.dk, okO_set w.ok rfl⟩
theorem WB.deed (w : WB os ns t a d dv s) (x : D) : WB (os.set 1 (.cell (some (.d x)))) ns t a d (some (.d x)) s := by
  obtain ⟨rv, hrv, hrk⟩ := w.c2
  exact ⟨by rw [List.length_set]; exact w.len, (set_get (by decide)).trans w.c0, set_at w.c1, ⟨rv, (set_get (by decide)).trans hrv, hrk⟩, (set_get (by decide)).trans w.nu, (set_get (by decide)).trans w.ke, (set_get (by decide)).trans w.co, (set_get (by decide)).trans w.to, (set_get (by decide)).trans w.sp,
    w.at_.frame (set_get (by decide)) (set_get (by decide)) (set_get (by decide)), (set_get (by decide)).trans w.nl, (set_get (by decide)).trans w.sa, fun _ => rfl, okO_set w.ok rfl⟩
theorem WB.row (w : WB os ns t a d dv s) (v : Value) : WB (os.set 2 (.cell (some (.val v)))) ns t a d dv s := by
  obtain ⟨rv, hrv, hrk⟩ := w.c2
  exact ⟨by rw [List.length_set]; exact w.len, (set_get (by decide)).trans w.c0, (set_get (by decide)).trans w.c1, ⟨_, set_at hrv, fun _ => rfl⟩, (set_get (by decide)).trans w.nu, (set_get (by decide)).trans w.ke, (set_get (by decide)).trans w.co, (set_get (by decide)).trans w.to, (set_get (by decide)).trans w.sp,
    w.at_.frame (set_get (by decide)) (set_get (by decide)) (set_get (by decide)), (set_get (by decide)).trans w.nl, (set_get (by decide)).trans w.sa, w.dk, okO_set w.ok rfl⟩
end
theorem new_WB {os : List O} {ns : List Int} {t : List Nat} (w : WA os ns t t.length t.length) (ht : t.length ≤ 90000) (hs : NoSur t) : WB (os ++ new0 8 t ++ [O.list [.int 0, .int 0]]) ns t 0 0 none ⟨0, 0, 0, 0, none⟩ := by
  have e : (os ++ new0 8 t).length = 12 := by simp [new0, w.len]
  have n12 : (os ++ new0 8 t ++ [O.list [.int 0, .int 0]])[12]? = some (.list [.int 0, .int 0]) := by rw [← e]; exact app_new
  have hS := sAt_new (os := os) (text := t) ht hs
  have hO := okO_new (os := os) (text := t) w.ok
  rw [w.len] at hS hO
  have ke := w.ke
  have sp := w.sp
  rw [List.take_length] at ke sp
  have n9 : (os ++ new0 8 t)[9]? = some (.list [.int 0]) := by rw [List.getElem?_append_right (by rw [w.len]; decide), w.len]; rfl
  exact ⟨by rw [List.length_append, e]; exact Nat.le_refl _, app_l (app_l w.c0), app_l (app_l w.c1), ⟨none, app_l (app_l w.c2), fun _ => rfl⟩, app_l (app_l w.nu), app_l (app_l ke), app_l (app_l w.co), app_l (app_l w.to), app_l (app_l sp),
    hS.frame ((app_l hS.o).trans hS.o.symm) ((app_l hS.x).trans hS.x.symm) ((app_l hS.er).trans hS.er.symm), app_l n9, n12, fun _ => rfl, okO_app hO rfl⟩
section
variable {c : Cx} {P : Params}
set_option maxHeartbeats 4000000 in
theorem law_stream (hK : c.G.K = fgx P) {n : Nat} {st : Stmt} (hst : lawB[4]? = some st) {a : Addr} {t : List Nat} {os : List O} (hl : os.length = 8) (hO : os.all (okO os.length) = true) :
    TS ⟨c.G, n + 1 + 1 + 1 + 1 + 1, 0, lawS, lawN, lawG⟩ st ⟨LA a t none none none none, os⟩ (Only ⟨LB a t none none none none none none none none none, os ++ new0 8 t⟩) := by
  refine part_of (P := fun st => TS _ st _ _) rfl hst ?_
  dsimp only [lawN, lawG, LA, LB]
  repeat walk_at "ts"
  refine c_new (n := n) (by exact hK) rfl hO ?_
  rw [hl]
  repeat walk_at "ts"
  exact ⟨rfl, rfl⟩
set_option maxHeartbeats 4000000 in
theorem law_first (hK : c.G.K = fgx P) {n : Nat} {st : Stmt} (hst : lawB[5]? = some st) {a : Addr} {t : List Nat} {os : List O} (hl : os.length = 12) (hS : SAt os 8 9 10 11 t ⟨0, 0, 0, 0, none⟩) (hO : os.all (okO os.length) = true) :
    TS ⟨c.G, n + 1 + 1 + 1 + 1 + 1, 0, lawS, lawN, lawG⟩ st ⟨LB a t none none none none none none none none none, os⟩ (OnlyW 0 ⟨LB a t none none none none none none none none none, os⟩) := by
  refine part_of (P := fun st => TS _ st _ _) rfl hst ?_
  dsimp only [lawN, lawG, LB]
  have cS : Cls c.G 131 sks := cls_S hK
  have o1 : os[8]? = some (.inst 131 sks (svs 8 9 10 11 (nrm (seg t 0 0)) (nrm (seg t 0 0)).length 0 (lnOf (nrm (t.take 0))) (clOf (nrm (t.take 0))) (bufD none))) := hS.o
  repeat walk_at "ts"
  refine TCall_of ?_
  refine s_position (by exact hK) rfl (by exact hS) (by exact hO) ?_
  repeat walk_at "ts"
  refine TC_ne_pair ?_
  refine ite_f rfl ?_
  repeat walk_at "ts"
  refine TC_ne_strs (xs := []) (ys := []) (app_l hS.er) app_new (by simp) (by simp) ?_
  refine ite_f rfl (TT_or0 (ite_f rfl ?_))
  repeat walk_at "ts"
  exact ⟨rfl, ⟨⟨_, rfl⟩, Nat.zero_le _, hO, LocLe.refl _, by simp [okL, okV, hl]⟩⟩
set_option maxHeartbeats 4000000 in
theorem law_678 (hK : c.G.K = fgx P) {n : Nat} {s6 s7 s8 : Stmt} (h6 : lawB[6]? = some s6) (h7 : lawB[7]? = some s7) (h8 : lawB[8]? = some s8) {r : List Stmt} {Q : Fl → St → Prop} {a : Addr} {t : List Nat} {os : List O} (hl : os.length = 12)
    (q : TB ⟨c.G, n, 0, lawS, lawN, lawG⟩ r ⟨LB a t none (some (.d (.int 0))) (some (.obj 12)) (some (.d (.int 0))) (some (.d (.bool false))) none none none none, os ++ [.list [.int 0, .int 0]]⟩ Q) :
    TB ⟨c.G, n, 0, lawS, lawN, lawG⟩ (s6 :: s7 :: s8 :: r) ⟨LB a t none none none none none none none none none, os⟩ Q := by
  refine part_of (P := fun st => TB _ (st :: _) _ _) rfl h6 ?_
  refine TB_to ⟨LB a t none none (some (.obj 12)) none none none none none none, os ++ [.list [.int 0, .int 0]]⟩ ?_ ?_
  · dsimp only [lawN, lawG, LB]
    repeat walk_at "ts"
    exact ⟨rfl, by rw [← hl]⟩
  refine part_of (P := fun st => TB _ (st :: _) _ _) rfl h7 ?_
  refine TB_to ⟨LB a t none (some (.d (.int 0))) (some (.obj 12)) (some (.d (.int 0))) none none none none none, os ++ [.list [.int 0, .int 0]]⟩ ?_ ?_
  · dsimp only [lawN, lawG, LB]
    repeat walk_at "ts"
    exact ⟨rfl, rfl⟩
  refine part_of (P := fun st => TB _ (st :: _) _ _) rfl h8 ?_
  refine TB_to ⟨LB a t none (some (.d (.int 0))) (some (.obj 12)) (some (.d (.int 0))) (some (.d (.bool false))) none none none none, os ++ [.list [.int 0, .int 0]]⟩ ?_ q
  · dsimp only [lawN, lawG, LB]
    repeat walk_at "ts"
    exact ⟨rfl, rfl⟩
end
set_option Elab.async false
set_option autoImplicit true
set_option linter.unusedVariables false
set_option maxRecDepth 20000
/-- where a turn stands -/
abbrev MidL (a : Addr) (t : List Nat) (m : Int) (N : Nat) (s : SS) (fr : Bool) (os : List O) : St :=
  ⟨LB a t (some (.d (.int m))) (some (.d (.int (s.p t : Nat)))) (some (.obj 12)) (some (.d (.int ((nrm (t.take s.u)).length : Nat)))) (some (.d (.bool fr))) (some (.d (.int (N : Nat)))) none none none, os⟩
def Mid (a : Addr) (ns : List Int) (t : List Nat) (m : Int) (N : Nat) (dv : Option V) (σ' : St) : Prop :=
  ∃ os s fr, σ' = MidL a t m N s fr os ∧ WB os ns t s.place s.d dv s ∧ os.length = 13 ∧ (fr = true → 1 ≤ s.off)
section
variable {c : Cx} {P : Params}
theorem WB.e_at {os : List O} {ns : List Int} {t : List Nat} {a d : Nat} {dv : Option V} {s : SS} (w : WB os ns t a d dv s) (hd : d ≤ t.length) : (cnts t t.length)[((d : Nat) : Int).toNat]? = some (.int ((nrm (t.take d)).length : Nat)) := by
  rw [Int.toNat_natCast]; exact cnts_at hd
set_option maxHeartbeats 4000000 in
theorem law_read (hK : c.G.K = fgx P) {n : Nat} {st : Stmt} (hst : turnB[2]? = some st) {a : Addr} {t : List Nat} {ns : List Int} {os : List O} {m dd : Int} {N : Nat} {s : SS} {fr : Bool} (ht : t.length ≤ 30) (hN : 2 ≤ N ∧ N ≤ 6)
    (w : WB os ns t s.place s.d (some (.d (.int dd))) s) (hl : os.length = 13) (hfr : fr = true → 1 ≤ s.off) :
    TS ⟨c.G, n + 1 + 1 + 1 + 1 + 1, 13, lawS, lawN, lawG⟩ st (MidL a t m N s fr os) (Then 13 (Mid a ns t m N (some (.d (.int dd))))) := by
  refine part_of (P := fun st => TS _ st _ _) rfl hst ?_
  have hdl := w.at_.dl
  have hpl := w.at_.toSI.pl
  have hp := w.at_.p_le
  have hkl := nrm_take_len t t.length
  rw [List.take_length] at hkl
  have c1 := w.c1
  have hcl : (cnts t t.length).length ≤ 1000000 := by unfold cnts; rw [List.length_map, List.length_range]; omega
  refine TS_if (TT_mono (Q := fun _ σ' => σ' = MidL a t m N s fr os) ?_ ?_)
  · dsimp only [lawN, lawG, MidL, LB]
    repeat walk_at "ts"
    by_cases h7 : dd = 7
    · exact ite_t (by simp [h7]) rfl
    refine ite_f (by simp [h7]) ?_
    repeat walk_at "ts"
    by_cases h5 : dd < 5
    · refine ite_t (by simp [h5]) ?_
      repeat walk_at "ts"
      refine TItem_list (d := .int (s.d : Nat)) w.sa (by decide) (by decide) rfl ?_
      repeat walk_at "ts"
      refine TItem_list (d := .int (s.e t : Nat)) w.co (by omega) (by omega) (w.e_at hdl) ?_
      repeat walk_at "ts"
      by_cases he : s.p t = s.e t
      · refine ite_t (by simp [he]) ?_
        repeat walk_at "ts"
        refine TBin_div (by decide) (by decide) ?_
        repeat walk_at "ts"
        refine TBin_mod (by decide) ?_
        repeat walk_at "ts"
        by_cases h3 : m / 96 % 4 < 3
        · refine ite_t (by simp [h3]) (TT_and0 (ite_t rfl rfl))
        · refine ite_f (by simp [h3]) (ite_f rfl (TT_or0 rfl))
      · refine ite_f (by simp; omega) (ite_f rfl (TT_or0 rfl))
    · exact ite_f (by simp [h5]) (ite_f rfl (TT_or0 rfl))
  rintro b _ rfl
  cases b with
  | false =>
    refine ite_f rfl (TB_nil ?_)
    exact ⟨rfl, _, ⟨⟨[], (List.append_nil _).symm⟩, by show 13 ≤ os.length; omega, w.ok, LocLe.refl _, by simp [okL, okV, hl]⟩, os, s, fr, rfl, w, hl, hfr⟩
  | true =>
    refine ite_t rfl ?_
    refine TB_to ⟨LB a t (some (.d (.int m))) (some (.d (.int (s.e t : Nat)))) (some (.obj 12)) (some (.d (.int (s.e t : Nat)))) (some (.d (.bool fr))) (some (.d (.int (N : Nat)))) none none none, os⟩ ?_ ?_
    · dsimp only [lawN, lawG, MidL, LB]
      repeat walk_at "ts"
      refine TItem_list (d := .int (s.d : Nat)) w.sa (by decide) (by decide) rfl ?_
      repeat walk_at "ts"
      refine TItem_list (d := .int (s.e t : Nat)) w.co (by omega) (by omega) (w.e_at hdl) ?_
      repeat walk_at "ts"
      exact ⟨rfl, rfl⟩
    refine TB_to ⟨LB a t (some (.d (.int m))) (some (.d (.int (s.e t : Nat)))) (some (.obj 12)) (some (.d (.int (s.e t : Nat)))) (some (.d (.bool false))) (some (.d (.int (N : Nat)))) none none none, os⟩ ?_ ?_
    · dsimp only [lawN, lawG, LB]
      repeat walk_at "ts"
      exact ⟨rfl, rfl⟩
    have cS : Cls c.G 131 sks := cls_S hK
    have o1 : os[8]? = some (.inst 131 sks (svs 8 9 10 11 (nrm (seg t s.u s.d)) (nrm (seg t s.u s.d)).length s.off (lnOf (nrm (t.take s.u))) (clOf (nrm (t.take s.u))) (bufD s.b))) := w.at_.o
    dsimp only [lawN, lawG, LB]
    repeat walk_at "ts"
    refine TCall_of ?_
    refine s_read (by exact hK) rfl (by exact w.at_) (by exact w.ok) (by omega) (fun os' hS hb => ?_)
    have w2 := w.move hS hb
    rw [Int.toNat_natCast] at w2
    have hb2 : os'.length = 13 := by have := hb.len; dsimp only at this; omega
    repeat walk_at "ts"
    refine TCall_isbool ?_
    repeat walk_at "ts"
    refine ite_f rfl ?_
    repeat walk_at "ts"
    refine TCall_of ?_
    refine c_more (by exact hK) rfl (by exact w2.ok) (by exact w2.sa) (by omega) hpl.2 (by omega) ?_
    repeat walk_at "ts"
    refine TC_neb ?_
    have hnA : decide (s.d < nA t s.place N) = decide (s.d < t.length) := decide_eq_decide.mpr (by unfold nA; omega)
    rw [hnA]
    refine ite_f (by simp) (TT_or0 (ite_f rfl ?_))
    repeat walk_at "ts"
    have w3 := w2.more (nA t s.place N) (nD t (nA t s.place N) s.d)
    have hl3 : (os'.set 12 (.list [.int (nA t s.place N : Nat), .int (nD t (nA t s.place N) s.d : Nat)])).length = 13 := by rw [List.length_set]; exact hb2
    refine ⟨rfl, MidL a t m N (s.read t N) false (os'.set 12 (.list [.int (nA t s.place N : Nat), .int (nD t (nA t s.place N) s.d : Nat)])), ⟨⟨[], (List.append_nil _).symm⟩, by show 13 ≤ _; rw [hl3]; exact Nat.le_refl _, w3.ok, ?_, by simp [okL, okV, hl3]⟩, _, s.read t N, false, rfl, w3, hl3, fun h => Bool.noConfusion h⟩
    exact .same (.same (.same (.same (.same (.same (.same (.same (.same (.same (.same (.same (.same (.same (.same (.same (.same (.same (.drop (LocLe.refl _)))))))))))))))))))
end
set_option Elab.async false
set_option autoImplicit true
set_option linter.unusedVariables false
set_option maxRecDepth 20000
noncomputable def tB : Option Stmt → Option (List Stmt)
  | some (.If _ a _ _) => some a
  | _ => none
noncomputable def eS : Option Stmt → Option Stmt
  | some (.If _ _ (s :: _) _) => some s
  | _ => none
theorem parts_of {o : Option (List Stmt)} {a st : List Stmt} {P : List Stmt → Prop} (e : o = some a) (h : o = some st) (p : P a) : P st := by rw [e] at h; cases h; exact p
/-- the sign that is due -/
def dueOf : Option Nat → D
  | some ch => .str [ch]
  | none => .none
theorem TC_ne_due {c : Cx} {σ : St} {QB : Bool → St → Prop} {x : Option Nat} (q : QB false σ) : TC c .NotEq (.d (dueOf x)) (.d (dueOf x)) σ QB := by
  cases x with
  | none => exact TC_nenn q
  | some ch => exact TC_nes (by simpa using q)
theorem chs_at {x : List Nat} {j ch : Nat} (h : x[j]? = some ch) : (chs x)[((j : Nat) : Int).toNat]? = some (.str [ch]) := by
  rw [Int.toNat_natCast, chs, List.getElem?_map, h]; rfl
section
variable {c : Cx} {P : Params}
set_option maxHeartbeats 4000000 in
theorem law_char (hK : c.G.K = fgx P) {n : Nat} {body : List Stmt} (hb : tB turnB[3]? = some body) {a : Addr} {t : List Nat} {ns : List Int} {os : List O} {m : Int} {N : Nat} {dv : Option V} {s : SS} {fr : Bool} (ht : t.length ≤ 30)
    (w : WB os ns t s.place s.d dv s) (hl : os.length = 13) :
    TB ⟨c.G, n + 1 + 1 + 1 + 1 + 1, 13, lawS, lawN, lawG⟩ body (MidL a t m N s fr os) (Then 13 (Mid a ns t m N dv)) := by
  refine parts_of (P := fun st => TB _ st _ _) rfl hb ?_
  have hdl := w.at_.dl
  have hpl := w.at_.toSI.pl
  have hp := w.at_.p_le
  have hkl := nrm_take_len t t.length
  rw [List.take_length] at hkl
  have hend := w.at_.end_iff
  -- the place is a piece's end
  refine TB_step (R := fun σ' => ∃ os' a' d' st, σ' = ⟨LB a t (some (.d (.int m))) (some (.d (.int (s.p t : Nat)))) (some (.obj 12)) (some (.d (.int ((st : Nat) : Int)))) (some (.d (.bool fr))) (some (.d (.int (N : Nat)))) none none none, os'⟩ ∧ WB os' ns t a' d' dv s ∧ os'.length = 13 ∧
      (s.p t = s.e t → a' = (s.read t 10240).place ∧ d' = (s.read t 10240).d ∧ st = s.e t) ∧ (s.p t ≠ s.e t → a' = s.place ∧ d' = s.d ∧ st = (nrm (t.take s.u)).length)) ?_ ?_
  · dsimp only [lawN, lawG, MidL, LB]
    repeat walk_at "ts"
    refine TItem_list (d := .int (s.d : Nat)) w.sa (by decide) (by decide) rfl ?_
    repeat walk_at "ts"
    refine TItem_list (d := .int (s.e t : Nat)) w.co (by omega) (by omega) (w.e_at hdl) ?_
    repeat walk_at "ts"
    by_cases he : s.p t = s.e t
    · refine ite_t (by simp [he]) ?_
      repeat walk_at "ts"
      refine TCall_len_str (by omega) ?_
      repeat walk_at "ts"
      refine TCall_of ?_
      refine c_more (N := t.length) (by exact hK) rfl (by exact w.ok) (by exact w.sa) (by omega) hpl.2 (by omega) ?_
      repeat walk_at "ts"
      have hr := read_eq (s := s) (show t.length ≤ 10240 by omega)
      have w3 := w.more (nA t s.place t.length) (nD t (nA t s.place t.length) s.d)
      have hl3 : (os.set 12 (.list [.int (nA t s.place t.length : Nat), .int (nD t (nA t s.place t.length) s.d : Nat)])).length = 13 := by rw [List.length_set]; exact hl
      refine ⟨rfl, ⟨LB a t (some (.d (.int m))) (some (.d (.int (s.p t : Nat)))) (some (.obj 12)) (some (.d (.int ((s.p t : Nat) : Int)))) (some (.d (.bool fr))) (some (.d (.int (N : Nat)))) none none none, os.set 12 (.list [.int (nA t s.place t.length : Nat), .int (nD t (nA t s.place t.length) s.d : Nat)])⟩,
        ⟨⟨[], (List.append_nil _).symm⟩, by show 13 ≤ _; rw [hl3]; exact Nat.le_refl _, w3.ok, LocLe.refl _, by simp [okL, okV, hl3]⟩, _, _, _, _, rfl, w3, hl3, fun _ => ⟨by rw [hr]; rfl, by rw [hr]; rfl, he⟩, fun h => absurd he h⟩
    · refine ite_f (by simp; omega) ?_
      repeat walk_at "ts"
      exact ⟨rfl, MidL a t m N s fr os, ⟨⟨[], (List.append_nil _).symm⟩, by show 13 ≤ _; rw [hl]; exact Nat.le_refl _, w.ok, LocLe.refl _, by simp [okL, okV, hl]⟩, os, s.place, s.d, (nrm (t.take s.u)).length, rfl, w, hl, fun h => absurd h he, fun _ => ⟨rfl, rfl, rfl⟩⟩
  clear w hl
  rintro _ ⟨os, a', d', st, rfl, w, hl, hE, hN⟩
  -- what is due
  refine TB_to ⟨LB a t (some (.d (.int m))) (some (.d (.int (s.p t : Nat)))) (some (.obj 12)) (some (.d (.int ((st : Nat) : Int)))) (some (.d (.bool fr))) (some (.d (.int (N : Nat)))) none (some (.d (dueOf (nrm t)[s.p t]?))) none, os⟩ ?_ ?_
  · have ke := w.ke
    have c0 := w.c0
    dsimp only [lawN, lawG, LB]
    repeat walk_at "ts"
    refine TCall_len_list ke (by unfold chs; rw [List.length_map]; omega) ?_
    repeat walk_at "ts"
    by_cases hlt : s.p t < (nrm t).length
    · refine ite_t (by simp [chs]; omega) ?_
      obtain ⟨ch, hch⟩ : ∃ ch, (nrm t)[s.p t]? = some ch := ⟨_, List.getElem?_eq_getElem hlt⟩
      repeat walk_at "ts"
      refine TItem_list (d := .str [ch]) ke (by omega) (by omega) (chs_at hch) ?_
      repeat walk_at "ts"
      rw [hch]
      exact ⟨rfl, rfl⟩
    · refine ite_f (by simp [chs]; omega) ?_
      repeat walk_at "ts"
      rw [List.getElem?_eq_none (by omega)]
      exact ⟨rfl, rfl⟩
  -- the sign
  refine TB_step (R := fun σ' => ∃ os' s', σ' = ⟨LB a t (some (.d (.int m))) (some (.d (.int (s.p t : Nat)))) (some (.obj 12)) (some (.d (.int ((nrm (t.take s'.u)).length : Nat)))) (some (.d (.bool fr))) (some (.d (.int (N : Nat)))) none (some (.d (dueOf (nrm t)[s.p t]?))) none, os'⟩ ∧ WB os' ns t s'.place s'.d dv s' ∧ os'.length = 13 ∧
      (∀ ch, (nrm t)[s.p t]? = some ch → s'.p t = s.p t + 1 ∧ 1 ≤ s'.off) ∧ ((nrm t)[s.p t]? = none → s'.p t = s.p t)) ?_ ?_
  · have cS : Cls c.G 131 sks := cls_S hK
    have o1 : os[8]? = some (.inst 131 sks (svs 8 9 10 11 (nrm (seg t s.u s.d)) (nrm (seg t s.u s.d)).length s.off (lnOf (nrm (t.take s.u))) (clOf (nrm (t.take s.u))) (bufD s.b))) := w.at_.o
    have fin : ∀ (x : D) (os' : List O) (s' : SS), x = dueOf (nrm t)[s.p t]? → WB os' ns t s'.place s'.d dv s' → os'.length = 13 → st = (nrm (t.take s'.u)).length → (∀ ch, (nrm t)[s.p t]? = some ch → s'.p t = s.p t + 1 ∧ 1 ≤ s'.off) → ((nrm t)[s.p t]? = none → s'.p t = s.p t) →
        Then 13 (fun σ' => ∃ os' s', σ' = ⟨LB a t (some (.d (.int m))) (some (.d (.int (s.p t : Nat)))) (some (.obj 12)) (some (.d (.int ((nrm (t.take s'.u)).length : Nat)))) (some (.d (.bool fr))) (some (.d (.int (N : Nat)))) none (some (.d (dueOf (nrm t)[s.p t]?))) none, os'⟩ ∧ WB os' ns t s'.place s'.d dv s' ∧ os'.length = 13 ∧
          (∀ ch, (nrm t)[s.p t]? = some ch → s'.p t = s.p t + 1 ∧ 1 ≤ s'.off) ∧ ((nrm t)[s.p t]? = none → s'.p t = s.p t)) .next ⟨LB a t (some (.d (.int m))) (some (.d (.int (s.p t : Nat)))) (some (.obj 12)) (some (.d (.int ((st : Nat) : Int)))) (some (.d (.bool fr))) (some (.d (.int (N : Nat)))) none (some (.d (dueOf (nrm t)[s.p t]?))) none, os'⟩ := by
      intro x os' s' _ w' hl' hst h1 h2
      subst hst
      exact ⟨rfl, _, ⟨⟨[], (List.append_nil _).symm⟩, by show 13 ≤ os'.length; omega, w'.ok, LocLe.refl _, by simp [okL, okV, hl']⟩, os', s', rfl, w', hl', h1, h2⟩
    have hlen : ∀ os' : List O, Only3 os os' 8 10 11 → os'.length = 13 := fun os' h => by rw [h.len]; exact hl
    dsimp only [lawN, lawG, LB] at fin ⊢
    repeat walk_at "ts"
    refine TCall_of ?_
    refine s_char (by exact hK) rfl (by exact w.at_) (by exact w.ok) (fun os' ch hlt hch hS hb => ?_) (fun os' ch he hd hch hS hb => ?_) (fun os' he hd hS hb => ?_)
    · obtain ⟨rfl, rfl, rfl⟩ := hN (by omega)
      rw [hch] at fin ⊢
      repeat walk_at "ts"
      refine TC_ne_due (x := some ch) ?_
      refine ite_f rfl ?_
      repeat walk_at "ts"
      refine fin (.str [ch]) os' { s with off := s.off + 1 } rfl (w.move hS hb) (hlen _ hb) rfl (fun c _ => ⟨rfl, Nat.succ_le_succ (Nat.zero_le _)⟩) (fun h => by cases h)
    · obtain ⟨rfl, rfl, rfl⟩ := hE he
      rw [hch] at fin ⊢
      repeat walk_at "ts"
      refine TC_ne_due (x := some ch) ?_
      refine ite_f rfl ?_
      repeat walk_at "ts"
      refine fin (.str [ch]) os' { s.read t 10240 with off := 1 } rfl (w.move hS hb) (hlen _ hb) rfl (fun c _ => ⟨by rw [he]; rfl, Nat.le_refl _⟩) (fun h => by cases h)
    · obtain ⟨rfl, rfl, rfl⟩ := hE he
      have hno : (nrm t)[s.p t]? = none := List.getElem?_eq_none (by have := hend.mpr hd; omega)
      rw [hno] at fin ⊢
      repeat walk_at "ts"
      refine TC_ne_due (x := none) ?_
      refine ite_f rfl ?_
      repeat walk_at "ts"
      refine fin .none os' (s.read t 10240) rfl (w.move hS hb) (hlen _ hb) rfl (fun c h => by cases h) (fun _ => by rw [he]; rfl)
  clear w hl hE hN
  rintro _ ⟨os, s', rfl, w, hl, h1, h2⟩
  have fin : ∀ (p : Nat) (f : Bool) (d : D), (p : Int) = (s'.p t : Nat) → (f = true → 1 ≤ s'.off) → Then 13 (Mid a ns t m N dv) .next ⟨LB a t (some (.d (.int m))) (some (.d (.int ((p : Nat) : Int)))) (some (.obj 12)) (some (.d (.int ((nrm (t.take s'.u)).length : Nat)))) (some (.d (.bool f))) (some (.d (.int (N : Nat)))) none (some (.d d)) none, os⟩ := by
    intro p f d hp hf
    rw [hp]
    refine ⟨rfl, MidL a t m N s' f os, ⟨⟨[], (List.append_nil _).symm⟩, by show 13 ≤ os.length; omega, w.ok, ?_, by simp [okL, okV, hl]⟩, os, s', f, rfl, w, hl, hf⟩
    exact .same (.same (.same (.same (.same (.same (.same (.same (.same (.same (.same (.same (.same (.same (.same (.same (.same (.same (.same (.drop (LocLe.refl _))))))))))))))))))))
  dsimp only [lawN, lawG, LB] at fin ⊢
  repeat walk_at "ts"
  refine TC_isnotn ?_
  cases hx : (nrm t)[s.p t]? with
  | none =>
    dsimp only [dueOf]
    repeat walk_at "ts"
    refine ite_f rfl ?_
    repeat walk_at "ts"
    have := fin (s.p t) false .none (by rw [h2 hx]) (fun h => Bool.noConfusion h)
    simpa using this
  | some ch =>
    dsimp only [dueOf]
    repeat walk_at "ts"
    refine ite_t rfl ?_
    repeat walk_at "ts"
    obtain ⟨e1, e2⟩ := h1 ch hx
    exact fin (s.p t + 1) true (.str [ch]) (by rw [e1]) (fun _ => e2)
end
set_option Elab.async false
set_option autoImplicit true
set_option linter.unusedVariables false
set_option maxRecDepth 20000
section
variable {c : Cx} {P : Params}
set_option maxHeartbeats 4000000 in
theorem law_unget (hK : c.G.K = fgx P) {n : Nat} {body : List Stmt} (hb : tB (eS (eS turnB[3]?)) = some body) {a : Addr} {t : List Nat} {ns : List Int} {os : List O} {m : Int} {N : Nat} {dv : Option V} {s : SS} {fr : Bool} (ht : t.length ≤ 30)
    (w : WB os ns t s.place s.d dv s) (hl : os.length = 13) (hfr : fr = true → 1 ≤ s.off) :
    TB ⟨c.G, n + 1 + 1 + 1 + 1 + 1, 13, lawS, lawN, lawG⟩ body (MidL a t m N s fr os) (Then 13 (Mid a ns t m N dv)) := by
  refine parts_of (P := fun st => TB _ st _ _) rfl hb ?_
  have hkl := nrm_take_len t t.length
  rw [List.take_length] at hkl
  have hoff := w.at_.ho
  have hp := w.at_.p_le
  have cS : Cls c.G 131 sks := cls_S hK
  have o1 : os[8]? = some (.inst 131 sks (svs 8 9 10 11 (nrm (seg t s.u s.d)) (nrm (seg t s.u s.d)).length s.off (lnOf (nrm (t.take s.u))) (clOf (nrm (t.take s.u))) (bufD s.b))) := w.at_.o
  have ke := w.ke
  have c0 := w.c0
  cases fr with
  | false =>
    refine TB_to (MidL a t m N s false os) ?_ ?_
    · dsimp only [lawN, lawG, MidL, LB]
      repeat walk_at "ts"
      refine ite_f rfl ?_
      repeat walk_at "ts"
      refine TCall_of ?_
      refine s_unget0 (by exact hK) rfl (by exact w.ok) ?_
      exact ⟨rfl, rfl⟩
    have fin : Then 13 (Mid a ns t m N dv) .next (MidL a t m N s false os) := ⟨rfl, _, ⟨⟨[], (List.append_nil _).symm⟩, by show 13 ≤ os.length; omega, w.ok, LocLe.refl _, by simp [okL, okV, hl]⟩, os, s, false, rfl, w, hl, fun h => Bool.noConfusion h⟩
    dsimp only [lawN, lawG, MidL, LB] at fin ⊢
    repeat walk_at "ts"
    refine ite_f rfl ?_
    repeat walk_at "ts"
    refine TInp_sub ?_
    repeat walk_at "ts"
    simpa using fin
  | true =>
    have h1 := hfr rfl
    have hi : SI t { s with off := s.off - 1 } := { w.at_.toSI with ho := by show s.off - 1 ≤ (nrm (seg t s.u s.d)).length; omega }
    obtain ⟨ch, hch⟩ : ∃ ch, (nrm (seg t s.u s.d))[s.off - 1]? = some ch := ⟨_, List.getElem?_eq_getElem (by omega)⟩
    have hpp : ({ s with off := s.off - 1 } : SS).p t = s.p t - 1 := by unfold SS.p; dsimp only; omega
    have hp1 : 1 ≤ s.p t := by unfold SS.p; omega
    have hK1 : (nrm t)[s.p t - 1]? = some ch := by
      have := hi.at (by show s.off - 1 < (nrm (seg t s.u s.d)).length; omega)
      rw [hpp] at this
      rw [this]; exact hch
    refine TB_step (R := fun σ' => ∃ os', σ' = ⟨LB a t (some (.d (.int m))) (some (.d (.int (s.p t : Nat)))) (some (.obj 12)) (some (.d (.int ((nrm (t.take s.u)).length : Nat)))) (some (.d (.bool true))) (some (.d (.int (N : Nat)))) none none none, os'⟩ ∧ WB os' ns t s.place s.d dv { s with off := s.off - 1 } ∧ os'.length = 13) ?_ ?_
    · dsimp only [lawN, lawG, MidL, LB]
      repeat walk_at "ts"
      refine ite_t rfl ?_
      repeat walk_at "ts"
      refine TItem_list (d := .str [ch]) ke (by omega) (by omega) (by rw [show ((s.p t : Nat) : Int) - 1 = ((s.p t - 1 : Nat) : Int) by omega]; exact chs_at hK1) ?_
      repeat walk_at "ts"
      refine TCall_of ?_
      refine s_unget (by exact hK) rfl (by exact w.at_) (by exact w.ok) h1 hch (fun os' hS hb => ?_)
      have w2 := w.move hS hb
      have hl2 : os'.length = 13 := by rw [hb.len]; exact hl
      exact ⟨rfl, ⟨LB a t (some (.d (.int m))) (some (.d (.int (s.p t : Nat)))) (some (.obj 12)) (some (.d (.int ((nrm (t.take s.u)).length : Nat)))) (some (.d (.bool true))) (some (.d (.int (N : Nat)))) none none none, os'⟩, ⟨⟨[], (List.append_nil _).symm⟩, by show 13 ≤ os'.length; omega, w2.ok, LocLe.refl _, by simp [okL, okV, hl2]⟩, os', rfl, w2, hl2⟩
    clear w hl ke c0 o1
    rintro _ ⟨os, rfl, w, hl⟩
    have fin : Then 13 (Mid a ns t m N dv) .next (MidL a t m N { s with off := s.off - 1 } false os) := ⟨rfl, _, ⟨⟨[], (List.append_nil _).symm⟩, by show 13 ≤ os.length; omega, w.ok, LocLe.refl _, by simp [okL, okV, hl]⟩, os, _, false, rfl, w, hl, fun h => Bool.noConfusion h⟩
    have e : ((s.p t : Nat) : Int) - 1 = ((({ s with off := s.off - 1 } : SS).p t : Nat) : Int) := by rw [hpp]; omega
    dsimp only [lawN, lawG, MidL, LB] at fin ⊢
    repeat walk_at "ts"
    refine ite_t rfl ?_
    repeat walk_at "ts"
    refine TInp_sub ?_
    repeat walk_at "ts"
    rw [e]
    exact fin
end
set_option Elab.async false
set_option autoImplicit true
set_option linter.unusedVariables false
set_option maxRecDepth 20000
noncomputable def untilB : List Stmt := (tB (eS turnB[3]?)).getD []
/-- a place where a run would stop -/
def isStop (K : List Nat) (f : Nat → Bool) (opp : Bool) : D → Bool
  | .int k => match K[k.toNat]? with
    | some ch => f ch != opp
    | none => false
  | _ => false
def stops (K : List Nat) (f : Nat → Bool) (opp : Bool) (p : Nat) : List Int := ((List.range (K.length - p)).map fun i => ((p + i : Nat) : Int)).filter fun k => isStop K f opp (.int k)
theorem stops_eq (K : List Nat) (f : Nat → Bool) (opp : Bool) (p : Nat) : ((((List.range (K.length - p)).map fun i => D.int ((p + i : Nat) : Int)).filter (isStop K f opp)).map fun d => d) = (stops K f opp p).map .int := by
  rw [List.map_id', stops]
  generalize List.range (K.length - p) = l
  induction l with
  | nil => rfl
  | cons i l ih =>
    rw [List.map_cons, List.map_cons, List.filter_cons, List.filter_cons]
    split
    · rw [List.map_cons, ih]
    · exact ih
theorem stops_mem (K : List Nat) (f : Nat → Bool) (opp : Bool) {p : Nat} (hp : p ≤ K.length) (a : Int) : a ∈ stops K f opp p ++ [(K.length : Int)] ↔ a = K.length ∨ ∃ i ch, a = ((p + i : Nat) : Int) ∧ K[p + i]? = some ch ∧ (f ch == opp) = false := by
  rw [List.mem_append, List.mem_singleton, or_comm]
  refine or_congr Iff.rfl ?_
  unfold stops
  rw [List.mem_filter, List.mem_map]
  constructor
  · rintro ⟨⟨i, hi, rfl⟩, h⟩
    have hi' := List.mem_range.mp hi
    obtain ⟨ch, hch⟩ : ∃ ch, K[p + i]? = some ch := ⟨_, List.getElem?_eq_getElem (by omega)⟩
    refine ⟨i, ch, rfl, hch, ?_⟩
    simp only [isStop, Int.toNat_natCast, hch] at h
    simpa using h
  · rintro ⟨i, ch, rfl, hch, h⟩
    have := (List.getElem?_eq_some_iff.mp hch).1
    refine ⟨⟨i, List.mem_range.mpr (by omega), rfl⟩, ?_⟩
    simp only [isStop, Int.toNat_natCast, hch]
    simpa using h
theorem app3 (os a b c : List O) : ∃ t, os ++ a ++ b ++ c = os ++ t := ⟨a ++ (b ++ c), by simp⟩
section
variable {c : Cx} {P : Params}
set_option maxHeartbeats 4000000 in
theorem law_row (hK : c.G.K = fgx P) {n : Nat} {st : Stmt} (hst : untilB[0]? = some st) {a : Addr} {t : List Nat} {ns : List Int} {os : List O} {m : Int} {N : Nat} {dv : Option V} {s : SS} {fr : Bool} {x y : Nat}
    (w : WB os ns t x y dv s) :
    TS ⟨c.G, n, 13, lawS, lawN, lawG⟩ st (MidL a t m N s fr os) (Only (MidL a t m N s fr (os.set 2 (.cell (some (.val (rowV (m / 384 % 6).toNat))))))) := by
  refine part_of (P := fun st => TS _ st _ _) rfl hst ?_
  obtain ⟨rv, c2, _⟩ := w.c2
  dsimp only [lawN, lawG, MidL, LB]
  repeat walk_at "ts"
  refine TBin_div (by decide) (by decide) ?_
  repeat walk_at "ts"
  refine TBin_mod (by decide) ?_
  repeat walk_at "ts"
  refine pick_row (by exact hK) (Int.emod_nonneg _ (by decide)) (Int.emod_lt_of_pos _ (by decide)) ?_
  repeat walk_at "ts"
  exact ⟨rfl, rfl⟩
set_option maxHeartbeats 4000000 in
theorem law_end (hK : c.G.K = fgx c.G.w.params) {n : Nat} {st : Stmt} (hst : untilB[1]? = some st) {a : Addr} {t : List Nat} {ns : List Int} {os : List O} {m dd : Int} {N r : Nat} {s : SS} {fr : Bool} {x y : Nat} (hr : r < 6) (ht : t.length ≤ 30)
    (w : WB os ns t x y (some (.d (.int dd))) s) (hl : os.length = 13) (hrow : os[2]? = some (.cell (some (.val (rowV r))))) :
    TS ⟨c.G, n, 13, lawS, lawN, lawG⟩ st (MidL a t m N s fr os) (OnlyW 13 ⟨LB a t (some (.d (.int m))) (some (.d (.int (s.p t : Nat)))) (some (.obj 12)) (some (.d (.int ((nrm (t.take s.u)).length : Nat)))) (some (.d (.bool fr))) (some (.d (.int (N : Nat)))) none none
      (some (.d (.int (endAt (nrm t) (fun ch => decide (ch ∈ rowL r) == decide (dd = 4)) (s.p t) : Nat)))), os⟩) := by
  refine part_of (P := fun st => TS _ st _ _) rfl hst ?_
  have hkl := nrm_take_len t t.length
  rw [List.take_length] at hkl
  have hp := w.at_.p_le
  have c0 := w.c0
  have c1 := w.c1
  have ke := w.ke
  dsimp only [lawN, lawG, MidL, LB]
  repeat walk_at "ts"
  refine TE_compC [] [("kept", 0), ("row", 2), ("deed", 1)] (isStop (nrm t) (fun ch => decide (ch ∈ rowL r)) (decide (dd = 4))) (fun d => d) (TIC_range (by dsimp only; decide +kernel) (by exact g_range hK) ?_) (by decide +kernel) (by decide +kernel) (by decide +kernel) (by dsimp only; decide +kernel) (by decide +kernel) (by dsimp only; decide +kernel) ?_ (fun _ => by dsimp only; walk_at "tg")
  · repeat walk_at "ts"
    refine TCall_len_list ke (by unfold chs; rw [List.length_map]; omega) ?_
    repeat walk_at "ts"
    have hkl2 : (chs (nrm t)).length = (nrm t).length := by unfold chs; rw [List.length_map]
    rw [hkl2]
    have hO1 : os.all (okO (os.length + 1)) = true := by
      rw [List.all_eq_true]
      exact fun o ho => okO_mono (Nat.le_succ _) (List.all_eq_true.mp w.ok o ho)
    refine ⟨s.p t, (nrm t).length, rfl, by omega, by omega, fun _ => trivial, hO1, by simp; omega, fun acc d hd => ?_, ?_⟩
    · obtain ⟨i, hi, rfl⟩ := List.mem_map.mp hd
      have hi' := List.mem_range.mp hi
      obtain ⟨ch, hch⟩ : ∃ ch, (nrm t)[s.p t + i]? = some ch := ⟨_, List.getElem?_eq_getElem (by omega)⟩
      have hst : isStop (nrm t) (fun ch => decide (ch ∈ rowL r)) (decide (dd = 4)) (.int ((s.p t + i : Nat) : Int)) = (decide (ch ∈ rowL r) != decide (dd = 4)) := by
        simp only [isStop, Int.toNat_natCast, hch]
      rw [hst]
      have c0' : (os ++ [O.list acc])[0]? = some (.cell (some (.obj 4))) := app_l c0
      have c1' : (os ++ [O.list acc])[1]? = some (.cell (some (.d (.int dd)))) := app_l c1
      have c2' : (os ++ [O.list acc])[2]? = some (.cell (some (.val (rowV r)))) := app_l hrow
      have ke' : (os ++ [O.list acc])[4]? = some (.list (chs (nrm t))) := app_l ke
      show TT _ _ _ _
      dsimp only [capN, capL, List.map]
      refine TT_cmp ?_
      refine TE_cmp ?_
      refine TE_sub ?_
      refine TE_cell' (by walk_at "tl") c0' (by dsimp only; decide +kernel) ?_
      repeat walk_at "ts"
      refine TItem_list (d := .str [ch]) ke' (by omega) (by omega) (chs_at hch) ?_
      refine TE_cell' (by walk_at "tl") c2' (by dsimp only; decide +kernel) ?_
      refine in_row hr hK ?_
      refine TE_cmp ?_
      refine TE_cell' (by walk_at "tl") c1' (by dsimp only; decide +kernel) ?_
      repeat walk_at "ts"
      refine TC_neb ?_
      refine ⟨rfl, ⟨[], (List.append_nil _).symm⟩, rfl, fun _ => ?_⟩
      repeat walk_at "ts"
      exact ⟨rfl, rfl, [], (List.append_nil _).symm⟩
    · dsimp only
      rw [stops_eq]
      have hpl : s.p t ≤ (nrm t).length := by omega
      have hmem := stops_mem (nrm t) (fun ch => decide (ch ∈ rowL r)) (decide (dd = 4)) hpl
      have hsl : (stops (nrm t) (fun ch => decide (ch ∈ rowL r)) (decide (dd = 4)) (s.p t)).length ≤ 30 := by
        unfold stops
        refine Nat.le_trans (List.length_filter_le ..) ?_
        simp; omega
      generalize stops (nrm t) (fun ch => decide (ch ∈ rowL r)) (decide (dd = 4)) (s.p t) = X at *
      have ke' : (os ++ [O.list (X.map .int)])[4]? = some (.list (chs (nrm t))) := app_l ke
      repeat walk_at "ts"
      refine TCall_len_list ke' (by omega) ?_
      repeat walk_at "ts"
      rw [hkl2]
      refine TBin_addl (app_l app_new) app_new (by rw [List.length_map]; simp; omega) ?_
      have e : X.map D.int ++ [D.int (nrm t).length] = (X ++ [((nrm t).length : Int)]).map .int := by rw [List.map_append]; rfl
      rw [e]
      repeat walk_at "ts"
      refine TCall_minl app_new (by simp) (fun M hM => ?_)
      rw [min_end hpl hmem hM]
      repeat walk_at "ts"
      exact ⟨rfl, ⟨app3 .., by show 13 ≤ os.length; omega, w.ok, LocLe.refl _, by simp [okL, okV, hl]⟩⟩
  · intro q hq
    simp only [List.mem_cons, List.not_mem_nil, or_false] at hq
    rcases hq with rfl | rfl | rfl
    · walk_at "tl"
    · walk_at "tl"
    · walk_at "tl"
end
set_option Elab.async false
set_option autoImplicit true
set_option linter.unusedVariables false
set_option maxRecDepth 20000
/-- ahead of a run: as far as it is asked for -/
abbrev RunL (a : Addr) (t : List Nat) (m : Int) (N : Nat) (p E : Nat) (s1 : SS) (fr : Bool) (os : List O) : St :=
  ⟨LB a t (some (.d (.int m))) (some (.d (.int (p : Nat)))) (some (.obj 12)) (some (.d (.int ((nrm (t.take s1.u)).length : Nat)))) (some (.d (.bool fr))) (some (.d (.int (N : Nat)))) none none (some (.d (.int (E : Nat)))), os⟩
section
variable {c : Cx} {P : Params}
set_option maxHeartbeats 4000000 in
theorem law_while (hK : c.G.K = fgx P) {n : Nat} {st : Stmt} (hst : untilB[2]? = some st) {a : Addr} {t : List Nat} {ns : List Int} {os : List O} {m : Int} {N p E : Nat} {dv : Option V} {rv : V} {s : SS} {fr : Bool} {g : Nat → Bool} (ht : t.length ≤ 30)
    (w : WB os ns t s.place s.d dv s) (hl : os.length = 13) (hrow : os[2]? = some (.cell (some rv))) (hE : endAt (nrm t) g (s.p t) = E) :
    TS ⟨c.G, n + 1, 13, lawS, lawN, lawG⟩ st (RunL a t m N p E s fr os) (fun fl σ' => fl = .next ∧ ∃ os' s1 r1, σ' = RunL a t m N p E s1 fr os' ∧ WB os' ns t s1.place s1.d dv s ∧ os'.length = 13 ∧ os'[2]? = some (.cell (some rv)) ∧ CU t g s s1 r1) := by
  refine part_of (P := fun st => TS _ st _ _) rfl hst ?_
  have hkl := nrm_take_len t t.length
  rw [List.take_length] at hkl
  refine TS_while (fun k σ' => ∃ os' s1, σ' = RunL a t m N p E s1 fr os' ∧ WB os' ns t s1.place s1.d dv s ∧ os'.length = 13 ∧ os'[2]? = some (.cell (some rv)) ∧ SI t s1 ∧ endAt (nrm t) g (s1.p t) = E ∧ (∀ s2 r, CU t g s1 s2 r → ∃ r', CU t g s s2 r') ∧ k = t.length - s1.d)
    (n := t.length - s.d) ⟨os, s, rfl, w, hl, hrow, w.at_.toSI, hE, fun s2 r h => ⟨r, h⟩, rfl⟩ ?_
  clear w hl hrow hE os
  rintro k _ ⟨os, s1, rfl, w, hl, hrow, hS, hE, hcu, rfl⟩
  have hdl := hS.dl
  have hpl := hS.pl
  have hp := hS.p_le
  dsimp only [lawN, lawG, RunL, LB]
  repeat walk_at "ts"
  refine TItem_list (d := .int (s1.d : Nat)) w.sa (by decide) (by decide) rfl ?_
  repeat walk_at "ts"
  refine TItem_list (d := .int (s1.e t : Nat)) w.co (by omega) (by omega) (w.e_at hdl) ?_
  repeat walk_at "ts"
  by_cases hge : s1.e t ≤ E
  · refine ite_t (by simp; omega) ?_
    obtain ⟨hall, hE2⟩ := run_over (g := g) hS (by rw [hE]; exact hge)
    have hr := read_eq (s := s1) (show t.length ≤ 10240 by omega)
    repeat walk_at "ts"
    refine TItem_list (d := .int (s1.d : Nat)) w.sa (by decide) (by decide) rfl ?_
    repeat walk_at "ts"
    refine TItem_list (d := .int (s1.e t : Nat)) w.co (by omega) (by omega) (w.e_at hdl) ?_
    repeat walk_at "ts"
    refine TCall_len_str (by omega) ?_
    repeat walk_at "ts"
    refine TCall_of ?_
    refine c_more (N := t.length) (by exact hK) rfl (by exact w.ok) (by exact w.sa) (by omega) hpl.2 (by omega) ?_
    repeat walk_at "ts"
    have w3 := w.more (nA t s1.place t.length) (nD t (nA t s1.place t.length) s1.d)
    have hl3 : (os.set 12 (.list [.int (nA t s1.place t.length : Nat), .int (nD t (nA t s1.place t.length) s1.d : Nat)])).length = 13 := by rw [List.length_set]; exact hl
    have hrow3 : (os.set 12 (.list [.int (nA t s1.place t.length : Nat), .int (nD t (nA t s1.place t.length) s1.d : Nat)]))[2]? = some (.cell (some rv)) := set_ne (by decide) hrow
    by_cases hd : s1.d < t.length
    · refine ite_f (by simp [nA]; omega) ?_
      repeat walk_at "ts"
      have hgr := hS.grow (N := 10240) (by omega) hd
      refine ⟨RunL a t m N p E (s1.read t 10240) fr (os.set 12 (.list [.int (nA t s1.place t.length : Nat), .int (nD t (nA t s1.place t.length) s1.d : Nat)])), ⟨⟨[], (List.append_nil _).symm⟩, by show 13 ≤ _; rw [hl3]; exact Nat.le_refl _, w3.ok, LocLe.refl _, by simp [okL, okV, hl3]⟩,
        t.length - (s1.read t 10240).d, by omega, _, s1.read t 10240, rfl, ?_, hl3, hrow3, hS.next (by omega), ?_, fun s2 r h => hcu _ _ (.more hall hd h), rfl⟩
      · rw [hr]; exact w3
      · rw [SS.read_p, hE2, hE]
    · refine ite_t (by simp [nA]; omega) ?_
      repeat walk_at "ts"
      have hd' : s1.d = t.length := by omega
      obtain ⟨r', hc⟩ := hcu _ _ (.fin hall hd')
      refine ⟨rfl, _, s1.read t 10240, r', rfl, ?_, hl3, hrow3, hc⟩
      rw [hr]; exact w3
  · refine ite_f (by simp; omega) ?_
    obtain ⟨r, hc⟩ := run_stop (g := g) hS (by rw [hE]; omega)
    obtain ⟨r', hc'⟩ := hcu _ _ hc
    exact ⟨rfl, os, { s1 with off := s1.off + (endAt (nrm t) g (s1.p t) - s1.p t) }, r', rfl, w, hl, hrow, hc'⟩
theorem chs_sl (x : List Nat) {p E : Nat} (h : p ≤ E) : sl (chs x) (some (p : Int)) (some (E : Int)) = (((x.drop p).take (E - p)).map fun ch => [ch]).map .str := by
  rw [sl_mid _ (by omega) (by omega), Int.toNat_natCast, Int.toNat_natCast, chs, List.map_map, List.map_take, List.map_drop]; rfl
theorem one_flat (x : List Nat) : (x.map fun ch => [ch]).flatten = x := by induction x with | nil => rfl | cons a l ih => rw [List.map_cons, List.flatten_cons, ih]; rfl
theorem one_sum (x : List Nat) : ((x.map fun ch => [ch]).map List.length).sum = x.length := by rw [← List.length_flatten, one_flat]
set_option maxHeartbeats 4000000 in
theorem law_run (hK : c.G.K = fgx c.G.w.params) {n : Nat} {st : Stmt} (hst : untilB[3]? = some st) {a : Addr} {t : List Nat} {ns : List Int} {os : List O} {m dd : Int} {N r E : Nat} {s s1 : SS} {r1 : List Nat} {fr : Bool} (hr : r < 6) (ht : t.length ≤ 30)
    (w : WB os ns t s1.place s1.d (some (.d (.int dd))) s) (hl : os.length = 13) (hrow : os[2]? = some (.cell (some (.val (rowV r))))) (hE : endAt (nrm t) (fun ch => decide (ch ∈ rowL r) == decide (dd = 4)) (s.p t) = E)
    (hc : CU t (fun ch => decide (ch ∈ rowL r) == decide (dd = 4)) s s1 r1) :
    TS ⟨c.G, n + 1 + 1 + 1 + 1 + 1, 13, lawS, lawN, lawG⟩ st (RunL a t m N (s.p t) E s1 fr os) (Then 13 fun σ' => ∃ os', σ' = RunL a t m N (s.p t) E s1 fr os' ∧ WB os' ns t s1.place s1.d (some (.d (.int dd))) s1 ∧ os'.length = 13 ∧ s1.p t = E) := by
  refine part_of (P := fun st => TS _ st _ _) rfl hst ?_
  have hkl := nrm_take_len t t.length
  rw [List.take_length] at hkl
  have hp := w.at_.p_le
  have cS : Cls c.G 131 sks := cls_S hK
  have o1 : os[8]? = some (.inst 131 sks (svs 8 9 10 11 (nrm (seg t s.u s.d)) (nrm (seg t s.u s.d)).length s.off (lnOf (nrm (t.take s.u))) (clOf (nrm (t.take s.u))) (bufD s.b))) := w.at_.o
  have c0 := w.c0
  have c1 := w.c1
  obtain ⟨q1, q2⟩ := hc.spec w.at_.toSI
  have hle := endAt_le (g := fun ch => decide (ch ∈ rowL r) == decide (dd = 4)) (show s.p t ≤ (nrm t).length by omega)
  have hpE : s1.p t = E := by rw [q2, q1, ← hE]; rfl
  rw [hE] at hle
  have hx : ((nrm t).drop (s.p t)).take (E - s.p t) = r1 := by
    rw [q1, ← hE]
    unfold endAt
    rw [Nat.add_sub_cancel_left]
    exact (List.prefix_iff_eq_take.mp (List.takeWhile_prefix _)).symm
  dsimp only [lawN, lawG, RunL, LB]
  repeat walk_at "ts"
  refine TCall_of ?_
  refine c_until3 (f := fun ch => decide (ch ∈ rowL r)) (by exact hK) rfl (by rfl) (fun _ => by rfl) (fun c' σ' ch QB hG q => in_row hr (by rw [hG]; exact hK) q) (by exact w.at_) (by exact w.ok) (fun os' s' r' hcu hS hb => ?_)
  obtain rfl : s1 = s' := hc.det hcu
  obtain ⟨z1, _⟩ := hcu.spec w.at_.toSI
  obtain rfl : r1 = r' := q1.trans z1.symm
  have w2 := w.move hS hb
  have hl2 : os'.length = 13 := by rw [hb.len]; exact hl
  have ke := w2.ke
  have c0' := w2.c0
  repeat walk_at "ts"
  refine TSlc_list ke (by unfold chs; rw [List.length_map]; omega) ?_
  rw [chs_sl _ (by omega), hx]
  repeat walk_at "ts"
  refine TCall_join app_new (by rw [one_sum, ← hx, List.length_take, List.length_drop]; omega) ?_
  rw [one_flat]
  repeat walk_at "ts"
  refine TC_nes ?_
  refine ite_f (by simp) ?_
  repeat walk_at "ts"
  exact ⟨rfl, RunL a t m N (s.p t) E s1 fr os', ⟨⟨_, rfl⟩, by show 13 ≤ os'.length; omega, w2.ok, LocLe.refl _, by simp [okL, okV, hl2]⟩, os', rfl, w2, hl2, hpE⟩
set_option maxHeartbeats 4000000 in
theorem law_until (hK : c.G.K = fgx c.G.w.params) {n : Nat} {body : List Stmt} (hb : tB (eS turnB[3]?) = some body) {a : Addr} {t : List Nat} {ns : List Int} {os : List O} {m dd : Int} {N : Nat} {s : SS} {fr : Bool} (ht : t.length ≤ 30)
    (w : WB os ns t s.place s.d (some (.d (.int dd))) s) (hl : os.length = 13) :
    TB ⟨c.G, n + 1 + 1 + 1 + 1 + 1, 13, lawS, lawN, lawG⟩ body (MidL a t m N s fr os) (Then 13 (Mid a ns t m N (some (.d (.int dd))))) := by
  refine parts_of (P := fun st => TB _ st _ _) rfl hb ?_
  have hi0 : 0 ≤ m / 384 % 6 := Int.emod_nonneg _ (by decide)
  have hi6 : m / 384 % 6 < 6 := Int.emod_lt_of_pos _ (by decide)
  have hr : (m / 384 % 6).toNat < 6 := by omega
  refine TB_to _ (law_row hK rfl w) ?_
  obtain ⟨rv0, hc2, _⟩ := w.c2
  have hrow := set_at (x := O.cell (some (.val (rowV (m / 384 % 6).toNat)))) hc2
  have w1 := w.row (rowV (m / 384 % 6).toNat)
  have hl1 : (os.set 2 (.cell (some (.val (rowV (m / 384 % 6).toNat))))).length = 13 := by rw [List.length_set]; exact hl
  clear w hl hc2
  generalize (m / 384 % 6).toNat = r at *
  generalize os.set 2 (.cell (some (.val (rowV r)))) = os1 at *
  refine TB_toW _ (law_end hK rfl hr ht w1 hl1 hrow) ?_
  generalize hE : endAt (nrm t) (fun ch => decide (ch ∈ rowL r) == decide (dd = 4)) (s.p t) = E
  refine TB_cons (TS_mono (law_while (n := n + 1 + 1 + 1 + 1) (rv := .val (rowV r)) hK rfl ht w1 hl1 hrow hE) ?_)
  clear w1 hl1 hrow os1
  rintro fl _ ⟨rfl, os, s1, r1, rfl, w, hl, hrow, hc⟩
  refine Nx_next ?_
  refine TB_step (law_run hK rfl hr ht w hl hrow hE hc) ?_
  clear w hl hrow
  rintro _ ⟨os, rfl, w, hl, hpE⟩
  have fin : ∀ f : Bool, (f = true → 1 ≤ s1.off) → Then 13 (Mid a ns t m N (some (.d (.int dd)))) .next ⟨LB a t (some (.d (.int m))) (some (.d (.int (E : Nat)))) (some (.obj 12)) (some (.d (.int ((nrm (t.take s1.u)).length : Nat)))) (some (.d (.bool f))) (some (.d (.int (N : Nat)))) none none (some (.d (.int (E : Nat)))), os⟩ := by
    intro f hf
    refine ⟨rfl, MidL a t m N s1 f os, ⟨⟨[], (List.append_nil _).symm⟩, by show 13 ≤ os.length; omega, w.ok, ?_, by simp [okL, okV, hl]⟩, os, s1, f, rfl, w, hl, hf⟩
    rw [← hpE]
    exact .same (.same (.same (.same (.same (.same (.same (.same (.same (.same (.same (.same (.same (.same (.same (.same (.same (.same (.same (.same (.same (.drop .nil)))))))))))))))))))))
  have hoff : s1.p t = (nrm (t.take s1.u)).length + s1.off := rfl
  refine TB_to ⟨LB a t (some (.d (.int m))) (some (.d (.int (s.p t : Nat)))) (some (.obj 12)) (some (.d (.int ((nrm (t.take s1.u)).length : Nat)))) (some (.d (.bool (decide (s.p t < E) && decide ((nrm (t.take s1.u)).length < E))))) (some (.d (.int (N : Nat)))) none none (some (.d (.int (E : Nat)))), os⟩ ?_ ?_
  · dsimp only [lawN, lawG, RunL, LB]
    repeat walk_at "ts"
    refine TE_and ?_
    repeat walk_at "ts"
    by_cases h1 : s.p t < E
    · refine ite_t (by simp; omega) ?_
      refine TE_bool1 ?_
      repeat walk_at "ts"
      refine ⟨rfl, ?_⟩
      simp [h1]
    · refine ite_f (by simp; omega) ?_
      repeat walk_at "ts"
      refine ⟨rfl, ?_⟩
      simp [h1]
  · have := fin (decide (s.p t < E) && decide ((nrm (t.take s1.u)).length < E)) (fun h => by simp at h; omega)
    dsimp only [lawN, lawG, LB] at this ⊢
    repeat walk_at "ts"
    exact this
end
set_option Elab.async false
set_option autoImplicit true
set_option linter.unusedVariables false
set_option maxRecDepth 20000
section
variable {c : Cx} {σ : St} {QB : Bool → St → Prop} {P : Params}
theorem TC_eq_pair {a b a' b' : Int} (q : QB (decide (a = a') && decide (b = b')) σ) : TC c .Eq (.d (.tup [.int a, .int b])) (.d (.tup [.int a', .int b'])) σ QB := by
  intro A env ι s va vb ok R r1 r2
  have rd : ∀ (a b : Int) va, DR s.heap (.tup [.int a, .int b]) va → Reads s.heap va (.tuple [.int a, .int b]) [] := by
    intro a b va r
    cases r with
    | @tup ad ob n vs items hg hoc hod hl hr =>
      obtain ⟨v1, v2, rfl⟩ := two_of hl.symm
      have h1 := hr 0 (.int a) v1 rfl rfl
      have h2 := hr 1 (.int b) v2 rfl rfl
      cases h1; cases h2
      exact .tuple (as := []) hg hoc hod (.cons (.int _ _) (.cons (.int _ _) .nil))
  refine eq_dataH (rd _ _ _ r1) (rd _ _ _ r2) rfl rfl (by have := ok.2.2; show A.units + 64 < 9900; omega) ?_
  have : (PyData.eqv (.tuple [.int a, .int b]) (.tuple [.int a', .int b'])) = (decide (a = a') && decide (b = b')) := by
    show (((a == a') && ((b == b') && true))) = _
    rw [Bool.and_true]
    have e1 : (a == a') = decide (a = a') := by by_cases h : a = a' <;> simp [h]
    have e2 : (b == b') = decide (b = b') := by by_cases h : b = b' <;> simp [h]
    rw [e1, e2]
  rw [this]; exact PC.here R q
theorem Then_last {Q : Fl → St → Prop} {n₀ : Nat} {R : St → Prop} {st : Stmt} (h : TS c st σ (Then n₀ R)) (hq : ∀ σ, Then n₀ R .next σ → Q .next σ) : TB c [st] σ Q :=
  TB_cons (TS_mono h fun fl σ' h => by obtain ⟨rfl, h⟩ := h; exact TB_nil (hq _ ⟨rfl, h⟩))
set_option maxHeartbeats 4000000 in
theorem law_deed (hK : c.G.K = fgx c.G.w.params) {n : Nat} {st : Stmt} (hst : turnB[3]? = some st) {a : Addr} {t : List Nat} {ns : List Int} {os : List O} {m dd : Int} {N : Nat} {s : SS} {fr : Bool} (ht : t.length ≤ 30)
    (w : WB os ns t s.place s.d (some (.d (.int dd))) s) (hl : os.length = 13) (hfr : fr = true → 1 ≤ s.off) :
    TS ⟨c.G, n + 1 + 1 + 1 + 1 + 1, 13, lawS, lawN, lawG⟩ st (MidL a t m N s fr os) (Then 13 (Mid a ns t m N (some (.d (.int dd))))) := by
  refine part_of (P := fun st => TS _ st _ _) rfl hst ?_
  have c1 := w.c1
  have hK' := hK
  generalize c.G.w.params = P at hK'
  refine TS_if (TT_mono (Q := fun b σ' => b = decide (dd < 3) ∧ σ' = MidL a t m N s fr os) ?_ ?_)
  · dsimp only [lawN, lawG, MidL, LB]
    repeat walk_at "ts"
    exact ⟨rfl, rfl⟩
  rintro b _ ⟨rfl, rfl⟩
  by_cases h3 : dd < 3
  · refine ite_t (by simp [h3]) ?_
    exact law_char hK rfl ht w hl
  refine ite_f (by simp [h3]) ?_
  refine Then_last ?_ (fun _ h => h)
  refine TS_if (TT_mono (Q := fun b σ' => b = decide (dd < 5) ∧ σ' = MidL a t m N s fr os) ?_ ?_)
  · dsimp only [lawN, lawG, MidL, LB]
    repeat walk_at "ts"
    exact ⟨rfl, rfl⟩
  rintro b _ ⟨rfl, rfl⟩
  by_cases h5 : dd < 5
  · refine ite_t (by simp [h5]) ?_
    exact law_until hK rfl ht w hl
  refine ite_f (by simp [h5]) ?_
  refine Then_last ?_ (fun _ h => h)
  refine TS_if (TT_mono (Q := fun b σ' => b = decide (dd < 7) ∧ σ' = MidL a t m N s fr os) ?_ ?_)
  · dsimp only [lawN, lawG, MidL, LB]
    repeat walk_at "ts"
    exact ⟨rfl, rfl⟩
  rintro b _ ⟨rfl, rfl⟩
  by_cases h7 : dd < 7
  · refine ite_t (by simp [h7]) ?_
    exact law_unget hK rfl ht w hl hfr
  refine ite_f (by simp [h7]) (TB_nil ?_)
  exact ⟨rfl, _, ⟨⟨[], (List.append_nil _).symm⟩, by show 13 ≤ os.length; omega, w.ok, LocLe.refl _, by simp [okL, okV, hl]⟩, os, s, fr, rfl, w, hl, hfr⟩
theorem bad_rep (k : Nat) : (List.replicate k [D.str bad]).flatten = (List.replicate k bad).map .str := by
  induction k with
  | zero => rfl
  | succ k ih => rw [List.replicate_succ, List.flatten_cons, ih, List.replicate_succ]; rfl
theorem bad_ok (k : Nat) : ∀ x ∈ List.replicate k bad, ∀ a ∈ x, a < 0x110000 := by
  intro x hx
  rw [(List.mem_replicate.mp hx).2]
  decide +kernel
theorem NoS.take {t : List Nat} (h : NoS t) (i : Nat) : NoS (t.take i) := fun ch hc => h ch (List.mem_of_mem_take hc)
set_option maxHeartbeats 4000000 in
theorem law_check (hK : c.G.K = fgx P) {n : Nat} {st : Stmt} (hst : turnB[4]? = some st) {a : Addr} {t : List Nat} {ns : List Int} {os : List O} {m : Int} {N : Nat} {dv : Option V} {s : SS} {fr : Bool} (ht : t.length ≤ 30) (hns : NoS t)
    (w : WB os ns t s.place s.d dv s) (hl : os.length = 13) :
    TS ⟨c.G, n + 1 + 1 + 1 + 1 + 1, 13, lawS, lawN, lawG⟩ st (MidL a t m N s fr os) (Then 13 fun σ' => σ' = MidL a t m N s fr os) := by
  refine part_of (P := fun st => TS _ st _ _) rfl hst ?_
  have hkl := nrm_take_len t t.length
  rw [List.take_length] at hkl
  have hp := w.at_.p_le
  have hdl := w.at_.dl
  have cS : Cls c.G 131 sks := cls_S hK
  have o1 : os[8]? = some (.inst 131 sks (svs 8 9 10 11 (nrm (seg t s.u s.d)) (nrm (seg t s.u s.d)).length s.off (lnOf (nrm (t.take s.u))) (clOf (nrm (t.take s.u))) (bufD s.b))) := w.at_.o
  have hfl := faults_le (t.take s.d)
  rw [List.length_take] at hfl
  have er := w.at_.er
  rw [errs_faults (hns.take s.d)] at er
  dsimp only [lawN, lawG, MidL, LB]
  repeat walk_at "ts"
  refine TCall_of ?_
  refine s_position (by exact hK) rfl (by exact w.at_) (by exact w.ok) ?_
  repeat walk_at "ts"
  refine TItem_list (d := spotD ((nrm t).take (s.p t))) w.sp (by omega) (by omega) (by rw [Int.toNat_natCast]; exact spots_at (by omega)) ?_
  unfold spotD
  refine TC_ne_pair ?_
  refine ite_f (by simp) ?_
  repeat walk_at "ts"
  refine TItem_list (d := .int (s.d : Nat)) (app_l w.sa) (by decide) (by decide) rfl ?_
  repeat walk_at "ts"
  refine TItem_list (d := .int (faults (t.take s.d) : Nat)) (app_l w.to) (by omega) (by omega) (by rw [Int.toNat_natCast]; exact tolds_at hdl) ?_
  refine TBin_mull app_new (by omega) (by omega) (by simp; omega) ?_
  rw [Int.toNat_natCast, bad_rep]
  refine TC_ne_strs (app_l (app_l er)) app_new (bad_ok _) (bad_ok _) ?_
  refine ite_f (by simp) (TT_or0 (ite_f rfl ?_))
  repeat walk_at "ts"
  refine ⟨rfl, _, ⟨⟨_, List.append_assoc ..⟩, by show 13 ≤ os.length; omega, w.ok, LocLe.refl _, by simp [okL, okV, hl]⟩, rfl⟩
end
set_option Elab.async false
set_option autoImplicit true
set_option linter.unusedVariables false
set_option maxRecDepth 20000
/-- between two turns -/
def Turn (a : Addr) (ns : List Int) (t : List Nat) (σ' : St) : Prop :=
  ∃ os s fr dv, σ' = ⟨LB a t none (some (.d (.int (s.p t : Nat)))) (some (.obj 12)) (some (.d (.int ((nrm (t.take s.u)).length : Nat)))) (some (.d (.bool fr))) none none none none, os⟩ ∧ WB os ns t s.place s.d dv s ∧ os.length = 13 ∧ (fr = true → 1 ≤ s.off)
section
variable {c : Cx} {P : Params}
set_option maxHeartbeats 4000000 in
theorem law_turns (hK : c.G.K = fgx c.G.w.params) {n : Nat} {st : Stmt} (hst : lawB[9]? = some st) {a : Addr} {t : List Nat} {ns : List Int} {σ : St} (ht : t.length ≤ 30) (hns : NoS t) (h0 : Turn a ns t σ) :
    TS ⟨c.G, n + 1 + 1 + 1 + 1 + 1, 0, lawS, lawN, lawG⟩ st σ (fun fl σ' => fl = .next ∧ Turn a ns t σ') := by
  refine part_of (P := fun st => TS _ st _ _) rfl hst ?_
  have h0' := h0
  obtain ⟨os, s, fr, dv, rfl, w, hl, hfr⟩ := h0
  refine TS_for (TI_list ?_)
  dsimp only [lawN, lawG, LB] at h0' ⊢
  repeat walk_at "ts"
  refine ⟨3, ns.map .int, rfl, w.nu, fun _ σ2 => Turn a ns t σ2, h0', ?_, ?_, fun _ h => ⟨rfl, h⟩⟩
  · rintro i _ ⟨Y, s1, fr1, dv1, rfl, w1, hl1, _⟩
    exact ⟨by show Y.length = os.length; omega, w1.nu⟩
  clear w hfr h0'
  rintro i d _ hd ⟨Y, s, fr, dv, rfl, w, hl1, hfr⟩
  obtain ⟨m, _, rfl⟩ : ∃ m, ns[i]? = some m ∧ d = .int m := by
    rw [List.getElem?_map] at hd
    obtain ⟨x, h1, h2⟩ := Option.map_eq_some_iff.mp hd
    exact ⟨x, h1, h2.symm⟩
  have hK' := hK
  generalize c.G.w.params = P at hK'
  dsimp only [Cx.floor, LB]
  rw [hl]
  clear hl
  walk_at "ts"
  -- the deed, the size
  refine TB_to ⟨LB a t (some (.d (.int m))) (some (.d (.int (s.p t : Nat)))) (some (.obj 12)) (some (.d (.int ((nrm (t.take s.u)).length : Nat)))) (some (.d (.bool fr))) none none none none, Y.set 1 (.cell (some (.d (.int (m / 12 % 8)))))⟩ ?_ ?_
  · have c1 := w.c1
    dsimp only [LB]
    repeat walk_at "ts"
    refine TBin_div (by decide) (by decide) ?_
    repeat walk_at "ts"
    refine TBin_mod (by decide) ?_
    repeat walk_at "ts"
    exact ⟨rfl, rfl⟩
  have w1 := w.deed (.int (m / 12 % 8))
  have hl2 : (Y.set 1 (.cell (some (.d (.int (m / 12 % 8)))))).length = 13 := by rw [List.length_set]; exact hl1
  clear w hl1
  generalize m / 12 % 8 = dd at *
  generalize Y.set 1 (.cell (some (.d (.int dd)))) = Y at *
  have hz0 := Int.emod_nonneg (m / 2304) (show (5 : Int) ≠ 0 by decide)
  have hz5 := Int.emod_lt_of_pos (m / 2304) (show (0 : Int) < 5 by decide)
  obtain ⟨N, hN⟩ : ∃ N : Nat, 2 + m / 2304 % 5 = (N : Int) := ⟨(2 + m / 2304 % 5).toNat, by omega⟩
  refine TB_to (MidL a t m N s fr Y) ?_ ?_
  · dsimp only [LB, MidL]
    repeat walk_at "ts"
    refine TBin_div (by decide) (by decide) ?_
    repeat walk_at "ts"
    refine TBin_mod (by decide) ?_
    repeat walk_at "ts"
    rw [hN]
    exact ⟨rfl, rfl⟩
  refine TB_step (law_read hK rfl ht (by omega) w1 hl2 hfr) ?_
  clear w1 hl2 hfr
  rintro _ ⟨Y, s, fr, rfl, w, hl, hfr⟩
  refine TB_step (law_deed hK rfl ht w hl hfr) ?_
  clear w hl hfr
  rintro _ ⟨Y, s, fr, rfl, w, hl, hfr⟩
  refine TB_step (law_check hK rfl ht hns w hl) ?_
  rintro _ rfl
  refine TB_nil ?_
  refine ⟨⟨LB a t none (some (.d (.int (s.p t : Nat)))) (some (.obj 12)) (some (.d (.int ((nrm (t.take s.u)).length : Nat)))) (some (.d (.bool fr))) none none none none, Y⟩, ⟨⟨[], (List.append_nil _).symm⟩, by show 13 ≤ Y.length; omega, w.ok, ?_, by simp [okL, okV, hl]⟩, Y, s, fr, _, rfl, w, hl, hfr⟩
  exact .same (.same (.drop (.same (.same (.same (.same (.same (.same (.same (.same (.same (.same (.same (.same (.same (.same (.drop (LocLe.refl _))))))))))))))))))
set_option maxHeartbeats 4000000 in
theorem law_tail1 (hK : c.G.K = fgx P) {n : Nat} {st : Stmt} (hst : lawB[10]? = some st) {a : Addr} {t : List Nat} {ns : List Int} {σ : St} (ht : t.length ≤ 30) (h0 : Turn a ns t σ) :
    TS ⟨c.G, n + 1 + 1 + 1 + 1 + 1, 0, lawS, lawN, lawG⟩ st σ (Then 0 fun σ' => ∃ os s p start fr a' d' dv, σ' = ⟨LB a t none p (some (.obj 12)) start fr none none none none, os⟩ ∧ WB os ns t a' d' dv s ∧ s.d = t.length ∧ s.p t = (nrm t).length) := by
  refine part_of (P := fun st => TS _ st _ _) rfl hst ?_
  obtain ⟨os, s, fr, dv, rfl, w, hl, hfr⟩ := h0
  have hkl := nrm_take_len t t.length
  rw [List.take_length] at hkl
  have hp := w.at_.p_le
  have cS : Cls c.G 131 sks := cls_S hK
  have o1 : os[8]? = some (.inst 131 sks (svs 8 9 10 11 (nrm (seg t s.u s.d)) (nrm (seg t s.u s.d)).length s.off (lnOf (nrm (t.take s.u))) (clOf (nrm (t.take s.u))) (bufD s.b))) := w.at_.o
  have c0 := w.c0
  dsimp only [lawN, lawG, LB]
  repeat walk_at "ts"
  refine TCall_of ?_
  refine c_until2 (f := fun _ => false) (by exact hK) rfl (by rfl) (fun _ => by rfl) (fun c' σ' ch QB hG q => TC_in_nil q) (by exact w.at_) (by exact w.ok) (fun os1 s1 r hcu hS1 hb1 => ?_)
  obtain ⟨hd1, hp1, rfl⟩ := hcu.all (fun _ => rfl) w.at_.toSI
  have w1 := w.move hS1 hb1
  have ke := w1.ke
  have c0' := w1.c0
  have e1 : s1.e t = (nrm t).length := w1.at_.end_iff.mpr hd1
  repeat walk_at "ts"
  refine TSlc_list ke (by unfold chs; rw [List.length_map]; omega) ?_
  rw [sl_from _ (by omega), Int.toNat_natCast]
  have hcd : (chs (nrm t)).drop (s.p t) = (((nrm t).drop (s.p t)).map fun ch => [ch]).map .str := by rw [chs, List.map_map, List.map_drop]; rfl
  rw [hcd]
  repeat walk_at "ts"
  refine TCall_join app_new (by rw [one_sum, List.length_drop]; omega) ?_
  rw [one_flat]
  repeat walk_at "ts"
  refine TC_nes ?_
  refine ite_f (by simp) ?_
  have w2 := w1.app (l := [.list ((((nrm t).drop (s.p t)).map fun ch => [ch]).map .str)]) rfl
  generalize os1 ++ [O.list ((((nrm t).drop (s.p t)).map fun ch => [ch]).map .str)] = os2 at *
  have o2 : os2[8]? = some (.inst 131 sks (svs 8 9 10 11 (nrm (seg t s1.u s1.d)) (nrm (seg t s1.u s1.d)).length s1.off (lnOf (nrm (t.take s1.u))) (clOf (nrm (t.take s1.u))) (bufD s1.b))) := w2.at_.o
  repeat walk_at "ts"
  refine TCall_of ?_
  refine s_char (by exact hK) rfl (by exact w2.at_) (by exact w2.ok) (fun os' ch hlt hch hS hb => by omega) (fun os' ch he hd hch hS hb => by omega) (fun os3 he hd hS3 hb3 => ?_)
  have w3 := w2.move hS3 hb3
  have hd3 : (s1.read t 10240).d = t.length := by rw [w2.at_.toSI.read_end hd]; exact hd
  have hp3 : (s1.read t 10240).p t = (nrm t).length := e1
  have e3 : (s1.read t 10240).e t = (nrm t).length := w3.at_.end_iff.mpr hd3
  generalize s1.read t 10240 = s3 at *
  repeat walk_at "ts"
  refine TC_isnotn ?_
  dsimp only
  refine ite_f rfl ?_
  have o3 : os3[8]? = some (.inst 131 sks (svs 8 9 10 11 (nrm (seg t s3.u s3.d)) (nrm (seg t s3.u s3.d)).length s3.off (lnOf (nrm (t.take s3.u))) (clOf (nrm (t.take s3.u))) (bufD s3.b))) := w3.at_.o
  repeat walk_at "ts"
  refine TCall_of ?_
  refine s_char (by exact hK) rfl (by exact w3.at_) (by exact w3.ok) (fun os' ch hlt hch hS hb => by omega) (fun os' ch he hd hch hS hb => by omega) (fun os4 he' hd' hS4 hb4 => ?_)
  have w4 := w3.move hS4 hb4
  have hd4 : (s3.read t 10240).d = t.length := by rw [w3.at_.toSI.read_end hd']; exact hd'
  have hp4 : (s3.read t 10240).p t = (nrm t).length := e3
  generalize s3.read t 10240 = s4 at *
  repeat walk_at "ts"
  refine TC_isnotn ?_
  dsimp only
  refine ite_f rfl (TT_or0 (ite_f rfl ?_))
  repeat walk_at "ts"
  have hlen := w4.len
  refine ⟨rfl, _, ⟨⟨[], (List.append_nil _).symm⟩, Nat.zero_le _, w4.ok, LocLe.refl _, by simp [okL, okV]; omega⟩, os4, s4, _, _, _, _, _, _, rfl, w4, hd4, hp4⟩
set_option maxHeartbeats 4000000 in
theorem law_tail2 (hK : c.G.K = fgx P) {n : Nat} {st : Stmt} (hst : lawB[11]? = some st) {a : Addr} {t : List Nat} {ns : List Int} {os : List O} {p start fr : Option V} {a' d' : Nat} {dv : Option V} {s : SS} (ht : t.length ≤ 30) (hns : NoS t)
    (w : WB os ns t a' d' dv s) (hd : s.d = t.length) (hp : s.p t = (nrm t).length) :
    TS ⟨c.G, n + 1 + 1 + 1 + 1 + 1, 0, lawS, lawN, lawG⟩ st ⟨LB a t none p (some (.obj 12)) start fr none none none none, os⟩ (fun fl _ => fl = .ret (.d (.bool true))) := by
  refine part_of (P := fun st => TS _ st _ _) rfl hst ?_
  have hkl := nrm_take_len t t.length
  rw [List.take_length] at hkl
  have cS : Cls c.G 131 sks := cls_S hK
  have o1 : os[8]? = some (.inst 131 sks (svs 8 9 10 11 (nrm (seg t s.u s.d)) (nrm (seg t s.u s.d)).length s.off (lnOf (nrm (t.take s.u))) (clOf (nrm (t.take s.u))) (bufD s.b))) := w.at_.o
  have er := w.at_.er
  rw [hd, List.take_length, errs_faults hns] at er
  obtain ⟨l, hsl, hll⟩ := spots_last (nrm t)
  obtain ⟨l2, htl, hl2⟩ := tolds_last t t.length
  rw [List.take_length] at htl
  have hfl := faults_le t
  have sp := w.sp
  have to := w.to
  rw [hsl] at sp
  rw [htl] at to
  dsimp only [lawN, lawG, LB]
  repeat walk_at "ts"
  refine TE_and ?_
  repeat walk_at "ts"
  refine TCall_of ?_
  refine s_position (by exact hK) rfl (by exact w.at_) (by exact w.ok) ?_
  rw [hp, List.take_length]
  repeat walk_at "ts"
  refine TItem_neg1 (d := spotD (nrm t)) sp (by omega) ?_
  unfold spotD
  refine TC_eq_pair ?_
  refine TTr_bool ?_
  refine ite_t (by simp) ?_
  refine TE_bool1 ?_
  repeat walk_at "ts"
  refine TItem_neg1 (d := .int (faults t : Nat)) (app_l to) (by omega) ?_
  refine TBin_mull app_new (by omega) (by omega) (by simp; omega) ?_
  rw [Int.toNat_natCast, bad_rep]
  refine TC_eq_strs (app_l (app_l er)) app_new (bad_ok _) (bad_ok _) ?_
  repeat walk_at "ts"
  rw [decide_eq_true rfl]
end
set_option Elab.async false
set_option autoImplicit true
set_option linter.unusedVariables false
set_option maxRecDepth 20000
section
variable {c : Cx} {P : Params}
theorem law_all (hK : c.G.K = fgx c.G.w.params) {n : Nat} {a : Addr} {items : List Value} {ns₀ : List Int} (hL : c.G.H.IsList a items.toArray) (hD : DRs c.G.H (ns₀.map .int) items) (hlen : ns₀.length ≤ 100) :
    TB0 ⟨c.G, n + 1 + 1 + 1 + 1 + 1, 0, lawS, lawN, lawG⟩ lawB ⟨L0 a none none none none none, [.cell none, .cell none, .cell none]⟩ (fun fl _ => fl = .ret (.d (.bool true))) := by
  obtain ⟨x0, x1, x2, x3, x4, x5, x6, x7, x8, x9, x10, x11, h⟩ : ∃ x0 x1 x2 x3 x4 x5 x6 x7 x8 x9 x10 x11, lawB = [x0, x1, x2, x3, x4, x5, x6, x7, x8, x9, x10, x11] := ⟨_, _, _, _, _, _, _, _, _, _, _, _, rfl⟩
  have g : ∀ (i : Nat) (x : Stmt), [x0, x1, x2, x3, x4, x5, x6, x7, x8, x9, x10, x11][i]? = some x → lawB[i]? = some x := fun i x e => by rw [h]; exact e
  rw [h]
  have hl30 : (ns₀.take 30).length ≤ 30 := by rw [List.length_take]; omega
  refine TB0_to _ (law_numbers (n := n + 1 + 1 + 1) hK (g 0 x0 rfl) hL hD hlen) ?_
  generalize ns₀.take 30 = ns at hl30
  have hl4 : [O.cell none, .cell none, .cell none, .list (ns.map .int)].length = 4 := rfl
  have h0 : [O.cell none, .cell none, .cell none, .list (ns.map .int)][0]? = some (.cell none) := rfl
  have h1 : [O.cell none, .cell none, .cell none, .list (ns.map .int)][1]? = some (.cell none) := rfl
  have h2 : [O.cell none, .cell none, .cell none, .list (ns.map .int)][2]? = some (.cell none) := rfl
  have h3 : [O.cell none, .cell none, .cell none, .list (ns.map .int)][3]? = some (.list (ns.map .int)) := rfl
  have hO : [O.cell none, .cell none, .cell none, .list (ns.map .int)].all (okO [O.cell none, .cell none, .cell none, .list (ns.map .int)].length) = true := rfl
  generalize [O.cell none, .cell none, .cell none, .list (ns.map .int)] = os at *
  refine TB_toW _ (law_text (n := n + 1 + 1 + 1) hK (g 1 x1 rfl) hl4 h3 hO hl30) ?_
  have ht : (ns.map lawSign).length ≤ 30 := by rw [List.length_map]; exact hl30
  have hns := law_NoS ns
  generalize ns.map lawSign = t at *
  refine TB_to _ (law_four (n := n + 1 + 1 + 1) hK (g 2 x2 rfl) hl4 h0) ?_
  have w := new_WA (ns := ns) t hl4 h0 h1 h2 h3 hO
  generalize (os ++ [O.list []] ++ [O.list [.int 0]] ++ [O.list [.int 0]] ++ [O.list [.tup [.int 1, .int 0]]]).set 0 (.cell (some (.obj 4))) = os at *
  refine TB_step (law_signs (n := n + 1 + 1 + 1) hK (g 3 x3 rfl) ht w) ?_
  clear hl4 h0 h1 h2 h3 hO w
  rintro _ ⟨os, rfl, w⟩
  refine TB_to _ (law_stream hK (g 4 x4 rfl) w.len w.ok) ?_
  have hS := sAt_new (os := os) (text := t) (by omega) hns.noSur
  have hO := okO_new (os := os) (text := t) w.ok
  rw [w.len] at hS hO
  have hl12 : (os ++ new0 8 t).length = 12 := by simp [new0, w.len]
  refine TB_toW _ (law_first hK (g 5 x5 rfl) hl12 hS hO) ?_
  refine law_678 hK (g 6 x6 rfl) (g 7 x7 rfl) (g 8 x8 rfl) hl12 ?_
  have w2 := new_WB w (by omega) hns.noSur
  have hT : Turn a ns t ⟨LB a t none (some (.d (.int 0))) (some (.obj 12)) (some (.d (.int 0))) (some (.d (.bool false))) none none none none, os ++ new0 8 t ++ [O.list [.int 0, .int 0]]⟩ :=
    ⟨_, ⟨0, 0, 0, 0, none⟩, false, none, rfl, w2, by rw [List.length_append, hl12]; rfl, fun h => Bool.noConfusion h⟩
  refine TB_cons (TS_mono (law_turns hK (g 9 x9 rfl) ht hns hT) ?_)
  clear hS hO hl12 w2 hT w
  rintro fl σ ⟨rfl, hT⟩
  refine Nx_next ?_
  refine TB_step (law_tail1 hK (g 10 x10 rfl) ht hT) ?_
  rintro _ ⟨os, s, p, start, fr, a', d', dv, rfl, w, hd, hp⟩
  refine TB_cons (TS_mono (law_tail2 hK (g 11 x11 rfl) ht hns w hd hp) ?_)
  rintro fl σ rfl
  exact Nx_ret rfl
end
theorem drs_ints {h : Heap} {vs : List Value} {ns : List Int} (hI : IntsAre vs ns) : DRs h (ns.map .int) vs := by
  induction hI with
  | nil => exact ⟨rfl, fun i d v e => by simp at e⟩
  | cons n t r ih =>
    obtain ⟨h1, h2⟩ := ih
    refine ⟨by simpa using h1, fun i d v e1 e2 => ?_⟩
    cases i with
    | zero => simp at e1 e2; subst e1 e2; exact DR.int _ _
    | succ i => exact h2 i d v (by simpa using e1) (by simpa using e2)
theorem deep_ok (env : Env) : (callerA.deeper env).handled = none ∧ (callerA.deeper env).depth ≤ 800 ∧ (callerA.deeper env).units ≤ 8000 := ⟨rfl, Nat.le_of_ble_eq_true rfl, Nat.le_of_ble_eq_true rfl⟩
theorem law_cells : ∀ p ∈ lawN.zipIdx, lawS.names.lookup p.1 = some NameKind.cell → p.2 = 4 ∨ p.2 = 16 ∨ p.2 = 20 := by decide +kernel
theorem law_pos : ∀ p ∈ ([true, false, false, false, true, false, false, false, false, false, false, false, false, false, false, false, true, false, false, false, true, false] : List Bool).zipIdx, p.1 = true → p.2 = 0 ∨ p.2 = 4 ∨ p.2 = 16 ∨ p.2 = 20 := by decide
theorem law_script : lawS.names.lookup ("script" : Str) = some NameKind.local := by decide +kernel
theorem run_law (G : Cfg) (hK : G.K = fgx G.w.params) {a : Addr} {items : List Value} {ns : List Int} (hL : G.H.IsList a items.toArray) (hI : IntsAre items ns) (hlen : ns.length ≤ 100) {A : Around} {env : Env} {s : Shared} {m : Str → Option Value} (hA : A.handled = none ∧ A.depth ≤ 800 ∧ A.units ≤ 8000)
    (he1 : env.scope = lawS) (he2 : env.globals = mainGlobals) (he3 : env.builtins = builtinsNs) (F : Fr G.H env.locals s.heap m) (hm : m "script" = some (.ref a)) (hLoc : G.H.get? env.locals = none)
    {k1 k2 k3 : Addr} {o1 o2 o3 : Obj} (N : News G.H env.locals s.heap [(k3, o3), (k2, o2), (k1, o1)]) (d1 : o1.data = .cell none) (d2 : o2.data = .cell none) (d3 : o3.data = .cell none)
    (e1 : env.cells.lookup ("kept" : Str) = some k1) (e2 : env.cells.lookup ("deed" : Str) = some k2) (e3 : env.cells.lookup ("row" : Str) = some k3) (n12 : k1 ≠ k2) (n13 : k1 ≠ k3) (n23 : k2 ≠ k3) :
    wpAny (model G.prog G.w) A (execs lawB env) (fun fl s' => fl = .ret (.bool true) ∧ (∀ b o, G.H.get? b = some o → s'.heap.get? b = some o) ∧ s'.os = s.os ∧ s'.gens = s.gens) NoE s := by
  obtain ⟨g1, l1, f1⟩ := N (k1, o1) (by simp)
  obtain ⟨g2, l2, f2⟩ := N (k2, o2) (by simp)
  obtain ⟨g3, l3, f3⟩ := N (k3, o3) (by simp)
  dsimp only at g1 l1 f1 g2 l2 f2 g3 l3 f3
  have hown : ∀ b, own [(k1, k1), (k2, k2), (k3, k3)] b → b = k1 ∨ b = k2 ∨ b = k3 := by
    rintro b ⟨p, hp, e⟩
    simp only [List.mem_cons, List.not_mem_nil, or_false] at hp
    rcases hp with rfl | rfl | rfl <;> simp_all
  have := law_all (c := ⟨G, 0, 0, lawS, [], []⟩) hK (n := 0) hL (drs_ints hI) hlen A env [(k1, k1), (k2, k2), (k3, k3)] s ⟨hA.1, by have := hA.2.1; dsimp only; omega, by have := hA.2.2; dsimp only; omega⟩
    { scope := he1, good := law_good G _ _, globals := he2, builtins := he3, keep := F.keep, above := fun b hb => by rcases hown b hb with rfl | rfl | rfl <;> assumption
      aboveL := hLoc, notL := fun hb => (hown _ hb).elim (fun e => l1 e.symm) fun q => q.elim (fun e => l2 e.symm) (fun e => l3 e.symm)
      apart := by simp [Apart, n12, n13, n23], len := rfl, base := Nat.zero_le _
      objs := fun k o p e1 e2 => by
        match k with
        | 0 => cases e1; cases e2; exact ⟨rfl, none, ⟨o1, g1, d1⟩, fun u h => nomatch h⟩
        | 1 => cases e1; cases e2; exact ⟨rfl, none, ⟨o2, g2, d2⟩, fun u h => nomatch h⟩
        | 2 => cases e1; cases e2; exact ⟨rfl, none, ⟨o3, g3, d3⟩, fun u h => nomatch h⟩
        | k + 3 => cases e1
      cel := fun i x h1 h2 => by
        have := law_cells (x, i) (by rw [List.mem_zipIdx_iff_getElem?]; exact h1) h2
        dsimp only at this
        rcases this with rfl | rfl | rfl
        · exact ⟨0, rfl⟩
        · exact ⟨1, rfl⟩
        · exact ⟨2, rfl⟩
      ns := ⟨m, F.ns, fun i x v h1 h2 => by
        have hx : ∀ j y, lawN[j]? = some y → i = j → x = y := fun j y e q => by subst q; have := h1.symm.trans e; cases this; rfl
        have hs : ((L0 a none none none none none).map Option.isSome)[i]? = some true := by rw [List.getElem?_map, h2]; rfl
        have hi : i = 0 ∨ i = 4 ∨ i = 16 ∨ i = 20 := law_pos (true, i) (List.mem_zipIdx_iff_getElem?.mpr hs) rfl
        rcases hi with rfl | rfl | rfl | rfl
        · obtain rfl := hx 0 _ rfl rfl
          cases h2; exact ⟨_, .inl ⟨law_script, hm⟩, rfl⟩
        · obtain rfl := hx 4 _ rfl rfl
          cases h2; exact ⟨.ref k1, .inr ⟨rfl, cell_kept, k1, e1, rfl⟩, _, rfl, rfl⟩
        · obtain rfl := hx 16 _ rfl rfl
          cases h2; exact ⟨.ref k2, .inr ⟨rfl, cell_deed, k2, e2, rfl⟩, _, rfl, rfl⟩
        · obtain rfl := hx 20 _ rfl rfl
          cases h2; exact ⟨.ref k3, .inr ⟨rfl, cell_row, k3, e3, rfl⟩, _, rfl, rfl⟩⟩ }
  refine wpAny_mono this (fun fl s' ⟨ι', fl', σ', x, R, r, q⟩ => ?_) fun _ _ x => x
  subst q
  have e : fl = .ret (.bool true) := by
    cases fl with
    | ret v => cases r; rfl
    | _ => exact r.elim
  refine ⟨e, fun b o hb' => x.keep b o (F.keep b o hb') (fun hb => ?_) (fun e => ?_), x.os, x.gens⟩
  · rcases hown b hb with rfl | rfl | rfl
    · rw [f1] at hb'; cases hb'
    · rw [f2] at hb'; cases hb'
    · rw [f3] at hb'; cases hb'
  · subst e; rw [hLoc] at hb'; cases hb'
end Mine
set_option maxRecDepth 100000 in
set_option maxHeartbeats 8000000 in
theorem PySem.Challenge.cw_qo0004_01_holds : PySem.Challenge.rw_qo0004_01.Holds := by
  w_on; o_law
  refine holds_open (q := Mine.vwx) (loose := Mine.loosex) (Xt := Mine.xtx) (XP := XL Mine.vwx []) (Yf := Mine.hkx.obs) (Ya := Mine.hkx.val) (YP := Mine.hkx.says) (N := 7000) Mine.left_x (Hook.of Mine.hkx) (Hook.keeps Mine.hkx)
    (fun s e => xl_of s (Bool.and_eq_true_iff.mp e).1) XL.keeps (by rfl) (by rfl) (by rfl) (fun s e => recFacts_of (Bool.and_eq_true_iff.mp e).2) rfl (by first | assumption | decide +kernel) (by decide +kernel) ⟨rfl, rfl, rfl, rfl, rfl, by decide +kernel⟩ ?hw ?hc
  case hw => w_witness2
  intro w s₀ s₁ mg mb G Y fa o pm cd doc dV kV ho hd hcd hD hmg hg args vals as hpre hlay hrd hwl hlo
  have KX := kIn_of Y
  k_behind G ho hd hcd hD hmg hpre hlay hrd hwl hlo cd
  rename Top _ _ _ _ _ _ => T
  rename Fr _ _ _ _ => F
  rename IntsAre _ _ => hI
  rename Heap.IsList _ _ _ => hL
  rename News _ _ _ _ => N
  refine wpAny_mono (E := fun _ _ => False) (Mine.run_law ⟨_, w, _, _, _, KX, T.b, T.builtins, T.nolimit⟩ rfl hL hI (by omega) (Mine.deep_ok _) rfl rfl rfl F rfl (Mine.fresh_size _) N (by assumption) (by assumption) (by assumption) rfl rfl rfl (Nat.ne_of_lt (Nat.lt_succ_self _)) (Nat.ne_of_lt (Nat.lt_succ_of_lt (Nat.lt_succ_self _))) (Nat.ne_of_lt (Nat.lt_succ_self _))) (fun fl s' hq => ?_) (fun _ _ x => x.elim)
  obtain ⟨rfl, hk, ho, hn⟩ := hq
  exact ⟨.inl ⟨.bool true, .bool true, [], rfl, fun _ => rfl, .bool true, (by with_unfolding_all rfl), fun _ => ⟨List.nodup_nil, fun _ h => (nomatch h)⟩⟩, hk, ho, hn.trans hg⟩

