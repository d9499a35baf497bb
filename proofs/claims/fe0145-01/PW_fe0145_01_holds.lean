import PyProof.Rows.All
import Wide.All
import OpenK.AllK
import Wide.FinOn
import Lean
import PySem.Challenge.RW_fe0145_01
set_option Elab.async false
section
open PySem PySem.W PyProof.Rows
namespace Mine
def sgn (c : Nat) : Str := ⟨#[c]⟩
noncomputable def starL (rec : List Nat → Bool) : List Nat → Bool
  | [] => rec []
  | c :: cs => rec (c :: cs) || starL rec cs
noncomputable def signL (opt : Bool) (fit : Nat → Bool) (rec : List Nat → Bool) : List Nat → Bool
  | [] => opt && rec []
  | c :: cs => (opt && rec (c :: cs)) || (fit c && rec cs)
noncomputable def takesL (one maybe : Str) : List Nat → List Nat → Bool
  | [] => fun t => t.isEmpty
  | p :: ps => if p = 42 then starL (takesL one maybe ps) else signL (decide (sgn p = maybe)) (fun c => decide (sgn p = one) || decide (sgn p = maybe) || decide (p = c)) (takesL one maybe ps)
theorem takesL_nil (one maybe : Str) (t : List Nat) : takesL one maybe [] t = t.isEmpty := rfl
theorem takesL_cn (one maybe : Str) (p : Nat) (ps : List Nat) : takesL one maybe (p :: ps) [] = ((decide (p = 42) || decide (sgn p = maybe)) && takesL one maybe ps []) := by
  show (if p = 42 then starL (takesL one maybe ps) else signL (decide (sgn p = maybe)) (fun c => decide (sgn p = one) || decide (sgn p = maybe) || decide (p = c)) (takesL one maybe ps)) [] = _
  by_cases h : p = 42
  · rw [if_pos h, decide_eq_true h]; rfl
  · rw [if_neg h, decide_eq_false h]; rfl
theorem takesL_cc (one maybe : Str) (p : Nat) (ps : List Nat) (c : Nat) (cs : List Nat) : takesL one maybe (p :: ps) (c :: cs) =
    (((decide (p = 42) || decide (sgn p = maybe)) && takesL one maybe ps (c :: cs)) ||
      ((decide (p = 42) || decide (sgn p = one) || decide (sgn p = maybe) || decide (p = c)) && takesL one maybe (if p = 42 then p :: ps else ps) cs)) := by
  show (if p = 42 then starL (takesL one maybe ps) else signL (decide (sgn p = maybe)) (fun c => decide (sgn p = one) || decide (sgn p = maybe) || decide (p = c)) (takesL one maybe ps)) (c :: cs) = _
  by_cases h : p = 42
  · rw [if_pos h, if_pos h, decide_eq_true h]
    have e : takesL one maybe (p :: ps) cs = starL (takesL one maybe ps) cs := by
      show (if p = 42 then starL (takesL one maybe ps) else signL (decide (sgn p = maybe)) (fun c => decide (sgn p = one) || decide (sgn p = maybe) || decide (p = c)) (takesL one maybe ps)) cs = _
      rw [if_pos h]
    rw [e]
    simp [starL]
  · rw [if_neg h, if_neg h, decide_eq_false h]
    simp [signL]
noncomputable def takesF (p t one maybe : Str) : Bool := takesL one maybe p.cps.toList t.cps.toList
def takesPre (p t one maybe : Str) : Prop := p.length + t.length ≤ 40 ∧ one.length ≤ 40 ∧ maybe.length ≤ 40
def takesSz (p t _one _maybe : Str) : Nat := p.length + t.length

theorem len_eq (x : Str) : x.length = x.cps.toList.length := by simp [Str.length]
theorem str_ext {x y : Str} (h : x.cps.toList = y.cps.toList) : x = y := by
  cases x; cases y; congr 1; exact Array.toList_inj.mp h
theorem slice1 (x : Str) (h : 1 ≤ x.length) : (Txt.slice x (some 1) none).cps.toList = x.cps.toList.tail := by
  rw [slice_from_eq (by decide) (by omega) rfl]
  show ((x.cps.toList.drop 1).take ((x.length : Int) - 1).toNat) = _
  rw [List.take_of_length_le (by rw [List.length_drop, ← len_eq]; omega), List.drop_one]
theorem slice1_len (x : Str) (h : 1 ≤ x.length) : (Txt.slice x (some 1) none).length = x.length - 1 := by
  rw [len_eq, slice1 x h, List.length_tail, ← len_eq]
theorem nonempty_cons {x : Str} (h : 1 ≤ x.length) : ∃ c cs, x.cps.toList = c :: cs := by
  rw [len_eq] at h
  match e : x.cps.toList, h with
  | c :: cs, _ => exact ⟨c, cs, rfl⟩
theorem item0 {x : Str} {c : Nat} {cs : List Nat} (h : x.cps.toList = c :: cs) : Txt.item x 0 = sgn c := by
  have hx : x = ⟨(c :: cs).toArray⟩ := str_ext (by simp [h])
  subst hx
  simp [Txt.item, Txt.charAt, seqIndex?, Str.length, sgn]
theorem star_is : Str.ofString "*" = sgn 42 := by decide +kernel
theorem empty_is : Str.ofString "" = ⟨#[]⟩ := by decide +kernel
theorem sgn_inj {a b : Nat} : (sgn a = sgn b) = (a = b) := by simp [sgn]
theorem ne_empty {t : Str} : (t != Str.ofString "") = decide (1 ≤ t.length) := by
  rw [empty_is]
  cases t with | mk a =>
  by_cases h : a = #[]
  · subst h; rfl
  · have h1 : (Str.mk a != Str.mk #[]) = true := by simp [h]
    rw [h1]
    have : a.size ≠ 0 := fun e => h (Array.eq_empty_of_size_eq_zero e)
    have h2 : 1 ≤ (Str.mk a).length := by show 1 ≤ a.size; omega
    exact (decide_eq_true h2).symm
theorem takesF_nil {p t one maybe : Str} (h : ¬ 1 ≤ p.length) : takesF p t one maybe = !((t.length : Int) != 0) := by
  have : p.cps.toList = [] := by
    rw [len_eq] at h
    exact List.eq_nil_of_length_eq_zero (by omega)
  unfold takesF
  rw [this, takesL_nil, len_eq]
  cases t.cps.toList <;> simp
  omega
theorem takesF_eq {p t one maybe : Str} (h : 1 ≤ p.length) : takesF p t one maybe =
    ((([Str.ofString "*", maybe].any fun x => x == Txt.item p 0) && takesF (Txt.slice p (some 1) none) t one maybe) ||
      ((t != Str.ofString "") && ([Str.ofString "*", one, maybe, Txt.item t 0].any fun x => x == Txt.item p 0) &&
        takesF (if (Txt.item p 0 == Str.ofString "*") = true then p else Txt.slice p (some 1) none) (Txt.slice t (some 1) none) one maybe)) := by
  obtain ⟨c, cs, e⟩ := nonempty_cons h
  rw [item0 e, star_is, ne_empty]
  have e1 : (Txt.slice p (some 1) none).cps.toList = cs := by rw [slice1 p h, e]; rfl
  have c2 : (sgn c == sgn 42) = decide (c = 42) := by
    by_cases hc : c = 42
    · subst hc; simp
    · rw [decide_eq_false hc]
      exact beq_eq_false_iff_ne.mpr (by rw [ne_eq, sgn_inj]; exact hc)
  have c3 : ∀ m : Str, (m == sgn c) = decide (sgn c = m) := by
    intro m
    by_cases hc : sgn c = m
    · rw [decide_eq_true hc, hc]; exact beq_self_eq_true m
    · rw [decide_eq_false hc]
      exact beq_eq_false_iff_ne.mpr fun e => hc e.symm
  by_cases ht : 1 ≤ t.length
  · obtain ⟨d, ds, et⟩ := nonempty_cons ht
    have e2 : (Txt.slice t (some 1) none).cps.toList = ds := by rw [slice1 t ht, et]; rfl
    rw [item0 et]
    unfold takesF
    rw [e, et, takesL_cc, e1, e2]
    simp only [List.any_cons, List.any_nil, Bool.or_false, c2, c3, ht, decide_true, Bool.true_and, decide_eq_true_eq, sgn_inj]
    by_cases hc : c = 42
    · simp [hc, e]
    · simp [hc, e1, Bool.or_assoc]
  · have et : t.cps.toList = [] := by
      rw [len_eq] at ht
      exact List.eq_nil_of_length_eq_zero (by omega)
    unfold takesF
    rw [e, et, takesL_cn, e1]
    simp only [List.any_cons, List.any_nil, Bool.or_false, c2, c3, ht, decide_false, Bool.false_and, Bool.or_false, sgn_inj]

section
variable {p t one maybe : Str}
theorem w_no1 (h : ([Str.ofString "*", maybe].any fun x => x == Txt.item p 0) = false) : (([Str.ofString "*", maybe].any fun x => x == Txt.item p 0) && takesF (Txt.slice p (some 1) none) t one maybe) = false := by rw [h]; rfl
theorem w_no2 (h : takesF (Txt.slice p (some 1) none) t one maybe = false) : (([Str.ofString "*", maybe].any fun x => x == Txt.item p 0) && takesF (Txt.slice p (some 1) none) t one maybe) = false := by rw [h, Bool.and_false]
theorem w_yes (hp : 1 ≤ p.length) (h : ([Str.ofString "*", maybe].any fun x => x == Txt.item p 0) = true) (h2 : takesF (Txt.slice p (some 1) none) t one maybe = true) : true = takesF p t one maybe := by
  rw [takesF_eq hp, h, h2]; rfl
theorem w_short (hp : 1 ≤ p.length) (h : (([Str.ofString "*", maybe].any fun x => x == Txt.item p 0) && takesF (Txt.slice p (some 1) none) t one maybe) = false) (ht : (t != Str.ofString "") = false) : (t != Str.ofString "") = takesF p t one maybe := by
  rw [takesF_eq hp, h, ht]; rfl
theorem w_unfit (hp : 1 ≤ p.length) (h : (([Str.ofString "*", maybe].any fun x => x == Txt.item p 0) && takesF (Txt.slice p (some 1) none) t one maybe) = false)
    (hf : ([Str.ofString "*", one, maybe, Txt.item t 0].any fun x => x == Txt.item p 0) = false) : ([Str.ofString "*", one, maybe, Txt.item t 0].any fun x => x == Txt.item p 0) = takesF p t one maybe := by
  rw [takesF_eq hp, h, hf]; simp
theorem w_star (hp : 1 ≤ p.length) (h : (([Str.ofString "*", maybe].any fun x => x == Txt.item p 0) && takesF (Txt.slice p (some 1) none) t one maybe) = false) (ht : (t != Str.ofString "") = true)
    (hf : ([Str.ofString "*", one, maybe, Txt.item t 0].any fun x => x == Txt.item p 0) = true) (hs : (Txt.item p 0 == Str.ofString "*") = true) : takesF p (Txt.slice t (some 1) none) one maybe = takesF p t one maybe := by
  rw [takesF_eq (t := t) hp, h, hf, ht, if_pos hs]; simp
theorem w_sign (hp : 1 ≤ p.length) (h : (([Str.ofString "*", maybe].any fun x => x == Txt.item p 0) && takesF (Txt.slice p (some 1) none) t one maybe) = false) (ht : (t != Str.ofString "") = true)
    (hf : ([Str.ofString "*", one, maybe, Txt.item t 0].any fun x => x == Txt.item p 0) = true) (hs : (Txt.item p 0 == Str.ofString "*") = false) : takesF (Txt.slice p (some 1) none) (Txt.slice t (some 1) none) one maybe = takesF p t one maybe := by
  rw [takesF_eq (t := t) hp, h, hf, ht, if_neg (by rw [hs]; exact Bool.false_ne_true)]; simp
end
end Mine
end
section
open PySem PySem.W PyProof.Rows
namespace Mine
-- the functions of the walk (T3)
def sOpt (maybe : Str) (c : Nat) : Bool := (Str.mk #[c] == Str.ofString "*") || ((maybe != Str.ofString "") && (Str.mk #[c] == maybe))
def sFit (t one maybe : Str) (c i : Nat) : Bool := ([Str.ofString "*", one, Txt.item t (i : Int)].any fun x => x == Str.mk #[c]) || ((maybe != Str.ofString "") && (Str.mk #[c] == maybe))
def st1a (t one maybe : Str) (c : Nat) (reach later : List Bool) (i : Nat) : List Bool :=
  if reach.getD i false = true then
    (if decide (i < t.length) = true ∧ sFit t one maybe c i = true then (if sOpt maybe c = true then later.set i true else later).set (i + 1) true else (if sOpt maybe c = true then later.set i true else later))
  else later
def st1 (t one maybe : Str) (c : Nat) (reach later : List Bool) (i : Nat) : List Bool :=
  if (Str.mk #[c] == Str.ofString "*") = true ∧ (st1a t one maybe c reach later i).getD i false = true ∧ i < t.length then (st1a t one maybe c reach later i).set (i + 1) true else st1a t one maybe c reach later i
def st2 (later : List Bool) (i : Nat) : List Bool := later.set (i + 1) (later.getD (i + 1) false || later.getD i false)
def turnB (t one maybe : Str) (reach : List Bool) (c : Nat) : List Bool :=
  if (Str.mk #[c] == Str.ofString "*") = true then (List.range t.length).foldl st2 ((List.range (t.length + 1)).foldl (st1 t one maybe c reach) (List.replicate (t.length + 1) false))
  else (List.range (t.length + 1)).foldl (st1 t one maybe c reach) (List.replicate (t.length + 1) false)
def takenG (p t one maybe : Str) : Bool := (p.cps.toList.foldl (turnB t one maybe) (true :: List.replicate t.length false)).getD t.length false
theorem st1_len (t one maybe : Str) (c : Nat) (reach later : List Bool) (i : Nat) : (st1 t one maybe c reach later i).length = later.length := by
  unfold st1 st1a
  repeat' split
  all_goals simp only [List.length_set]
theorem st2_len (later : List Bool) (i : Nat) : (st2 later i).length = later.length := by
  unfold st2; rw [List.length_set]
theorem fold_len {g : List Bool → Nat → List Bool} (hg : ∀ b i, (g b i).length = b.length) : ∀ (l : List Nat) (b : List Bool), (l.foldl g b).length = b.length
  | [], _ => rfl
  | _ :: r, _ => (fold_len hg r _).trans (hg _ _)
theorem turnB_len (t one maybe : Str) (reach : List Bool) (c : Nat) : (turnB t one maybe reach c).length = t.length + 1 := by
  unfold turnB
  split
  · rw [fold_len st2_len, fold_len (st1_len _ _ _ _ _), List.length_replicate]
  · rw [fold_len (st1_len _ _ _ _ _), List.length_replicate]

-- the plain law
theorem getD_set_b (l : List Bool) (i j : Nat) (v : Bool) : ((l.set i v).getD j false = true) ↔ (if i = j ∧ i < l.length then v = true else l.getD j false = true) := by
  rw [List.getD_eq_getElem?_getD, List.getD_eq_getElem?_getD, List.getElem?_set]
  by_cases h : i = j
  · subst h
    by_cases h2 : i < l.length
    · simp [h2]
    · simp [h2]
  · simp [h]
theorem star_eq (c : Nat) : (Str.mk #[c] == Str.ofString "*") = decide (c = 42) := by
  show (sgn c == Str.ofString "*") = _
  rw [star_is]
  by_cases hc : c = 42
  · subst hc; simp
  · rw [decide_eq_false hc]
    exact beq_eq_false_iff_ne.mpr (by rw [ne_eq, sgn_inj]; exact hc)
theorem maybe_eq (maybe : Str) (c : Nat) : ((maybe != Str.ofString "") && (Str.mk #[c] == maybe)) = decide (sgn c = maybe) := by
  show ((maybe != Str.ofString "") && (sgn c == maybe)) = _
  by_cases hc : sgn c = maybe
  · rw [decide_eq_true hc, ← hc, ne_empty]
    have : 1 ≤ (sgn c).length := Nat.le_refl 1
    rw [decide_eq_true this]
    simp
  · rw [decide_eq_false hc, beq_eq_false_iff_ne.mpr hc, Bool.and_false]
theorem sOpt_iff (maybe : Str) (c : Nat) : sOpt maybe c = true ↔ (c = 42 ∨ sgn c = maybe) := by
  unfold sOpt
  rw [star_eq, maybe_eq]
  simp
theorem item_at {t : Str} {i d : Nat} (h : t.cps.toList[i]? = some d) : Txt.item t (i : Int) = sgn d := by
  have hi : i < t.cps.size := by
    have := (List.getElem?_eq_some_iff.mp h).1
    simpa using this
  have hc : Txt.charAt t (i : Int) = some d := by
    unfold Txt.charAt
    have h1 : seqIndex? (i : Int) t.length = some i := by
      unfold seqIndex?
      have : t.length = t.cps.size := rfl
      simp
      omega
    rw [h1]
    simpa using h
  unfold Txt.item
  rw [hc]
  rfl
theorem sFit_iff {t : Str} {i d : Nat} (h : t.cps.toList[i]? = some d) (one maybe : Str) (c : Nat) : sFit t one maybe c i = true ↔ (c = 42 ∨ sgn c = one ∨ sgn c = maybe ∨ c = d) := by
  unfold sFit
  rw [maybe_eq, item_at h]
  have c3 : ∀ m : Str, (m == Str.mk #[c]) = decide (sgn c = m) := by
    intro m
    show (m == sgn c) = _
    by_cases hc : sgn c = m
    · rw [decide_eq_true hc, hc]; exact beq_self_eq_true m
    · rw [decide_eq_false hc]
      exact beq_eq_false_iff_ne.mpr fun e => hc e.symm
  simp only [List.any_cons, List.any_nil, Bool.or_false, c3, star_is, sgn_inj, Bool.or_eq_true, decide_eq_true_eq]
  constructor
  · rintro ((h | h | h) | h)
    · exact .inl h
    · exact .inr (.inl h)
    · exact .inr (.inr (.inr h))
    · exact .inr (.inr (.inl h))
  · rintro (h | h | h | h)
    · exact .inl (.inl h)
    · exact .inl (.inr (.inl h))
    · exact .inr h
    · exact .inl (.inr (.inr h))

section
variable {t one maybe : Str} {c : Nat} {bs : List Bool}
theorem rep_getD (n j : Nat) : ((List.replicate n false).getD j false = true) ↔ False := by
  rw [List.getD_eq_getElem?_getD, List.getElem?_replicate]
  split <;> simp
/-- the first inner loop, a sign that is no star -/
theorem fold_sign (hc : c ≠ 42) : ∀ k, k ≤ t.length + 1 → ∀ j, ((List.range k).foldl (st1 t one maybe c bs) (List.replicate (t.length + 1) false)).getD j false = true ↔
    ∃ i, i < k ∧ bs.getD i false = true ∧ ((j = i ∧ sOpt maybe c = true) ∨ (j = i + 1 ∧ i < t.length ∧ sFit t one maybe c i = true)) := by
  intro k
  induction k with
  | zero => intro _ j; rw [List.range_zero, List.foldl_nil, rep_getD]; simp
  | succ k ih =>
    intro hk j
    have ih := ih (by omega)
    rw [List.range_succ, List.foldl_append, List.foldl_cons, List.foldl_nil]
    generalize hl : (List.range k).foldl (st1 t one maybe c bs) (List.replicate (t.length + 1) false) = l at ih ⊢
    have hlen : l.length = t.length + 1 := by
      rw [← hl, fold_len (st1_len _ _ _ _ _), List.length_replicate]
    have hs : st1 t one maybe c bs l k = st1a t one maybe c bs l k := by
      unfold st1
      rw [if_neg]
      rintro ⟨h, _⟩
      rw [star_eq] at h
      exact hc (of_decide_eq_true h)
    rw [hs]
    unfold st1a
    by_cases hb : bs.getD k false = true
    · rw [if_pos hb]
      by_cases hf : decide (k < t.length) = true ∧ sFit t one maybe c k = true
      · rw [if_pos hf]
        have hk2 := of_decide_eq_true hf.1
        by_cases ho : sOpt maybe c = true
        · rw [if_pos ho, getD_set_b, getD_set_b, List.length_set]
          constructor
          · intro h
            split at h
            · rename_i h1; exact ⟨k, Nat.lt_succ_self _, hb, .inr ⟨h1.1.symm, hk2, hf.2⟩⟩
            · split at h
              · rename_i h1; exact ⟨k, Nat.lt_succ_self _, hb, .inl ⟨h1.1.symm, ho⟩⟩
              · obtain ⟨i, hi, r⟩ := (ih j).mp h
                exact ⟨i, Nat.lt_succ_of_lt hi, r⟩
          · rintro ⟨i, hi, hbi, h⟩
            split
            · rfl
            · rename_i n1
              split
              · rfl
              · rename_i n2
                refine (ih j).mpr ⟨i, ?_, hbi, h⟩
                rcases Nat.lt_succ_iff_lt_or_eq.mp hi with h1 | h1
                · exact h1
                · subst h1
                  rcases h with ⟨h, _⟩ | ⟨h, _⟩
                  · exact absurd ⟨h.symm, by omega⟩ n2
                  · exact absurd ⟨h.symm, by omega⟩ n1
        · rw [if_neg ho, getD_set_b]
          constructor
          · intro h
            split at h
            · rename_i h1; exact ⟨k, Nat.lt_succ_self _, hb, .inr ⟨h1.1.symm, hk2, hf.2⟩⟩
            · obtain ⟨i, hi, r⟩ := (ih j).mp h
              exact ⟨i, Nat.lt_succ_of_lt hi, r⟩
          · rintro ⟨i, hi, hbi, h⟩
            split
            · rfl
            · rename_i n1
              refine (ih j).mpr ⟨i, ?_, hbi, h⟩
              rcases Nat.lt_succ_iff_lt_or_eq.mp hi with h1 | h1
              · exact h1
              · subst h1
                rcases h with ⟨_, h⟩ | ⟨h, _⟩
                · exact absurd h ho
                · exact absurd ⟨h.symm, by omega⟩ n1
      · rw [if_neg hf]
        by_cases ho : sOpt maybe c = true
        · rw [if_pos ho, getD_set_b]
          constructor
          · intro h
            split at h
            · rename_i h1; exact ⟨k, Nat.lt_succ_self _, hb, .inl ⟨h1.1.symm, ho⟩⟩
            · obtain ⟨i, hi, r⟩ := (ih j).mp h
              exact ⟨i, Nat.lt_succ_of_lt hi, r⟩
          · rintro ⟨i, hi, hbi, h⟩
            split
            · rfl
            · rename_i n2
              refine (ih j).mpr ⟨i, ?_, hbi, h⟩
              rcases Nat.lt_succ_iff_lt_or_eq.mp hi with h1 | h1
              · exact h1
              · subst h1
                rcases h with ⟨h, _⟩ | ⟨_, h1, h2⟩
                · exact absurd ⟨h.symm, by omega⟩ n2
                · exact absurd ⟨decide_eq_true h1, h2⟩ hf
        · rw [if_neg ho]
          constructor
          · intro h
            obtain ⟨i, hi, r⟩ := (ih j).mp h
            exact ⟨i, Nat.lt_succ_of_lt hi, r⟩
          · rintro ⟨i, hi, hbi, h⟩
            refine (ih j).mpr ⟨i, ?_, hbi, h⟩
            rcases Nat.lt_succ_iff_lt_or_eq.mp hi with h1 | h1
            · exact h1
            · subst h1
              rcases h with ⟨_, h⟩ | ⟨_, h1, h2⟩
              · exact absurd h ho
              · exact absurd ⟨decide_eq_true h1, h2⟩ hf
    · rw [if_neg hb]
      constructor
      · intro h
        obtain ⟨i, hi, r⟩ := (ih j).mp h
        exact ⟨i, Nat.lt_succ_of_lt hi, r⟩
      · rintro ⟨i, hi, hbi, h⟩
        refine (ih j).mpr ⟨i, ?_, hbi, h⟩
        rcases Nat.lt_succ_iff_lt_or_eq.mp hi with h1 | h1
        · exact h1
        · subst h1; exact absurd hbi hb
/-- the first inner loop, a star -/
theorem fold_star : ∀ k, k ≤ t.length + 1 → ∀ j, ((List.range k).foldl (st1 t one maybe 42 bs) (List.replicate (t.length + 1) false)).getD j false = true ↔
    (j ≤ t.length ∧ j ≤ k ∧ ∃ i, i ≤ j ∧ i < k ∧ bs.getD i false = true) := by
  intro k
  induction k with
  | zero => intro _ j; rw [List.range_zero, List.foldl_nil, rep_getD]; simp
  | succ k ih =>
    intro hk j
    have ih := ih (by omega)
    rw [List.range_succ, List.foldl_append, List.foldl_cons, List.foldl_nil]
    generalize hl : (List.range k).foldl (st1 t one maybe 42 bs) (List.replicate (t.length + 1) false) = l at ih ⊢
    have hlen : l.length = t.length + 1 := by
      rw [← hl, fold_len (st1_len _ _ _ _ _), List.length_replicate]
    have ho : sOpt maybe 42 = true := (sOpt_iff _ _).mpr (.inl rfl)
    have hf : k < t.length → sFit t one maybe 42 k = true := fun h => by
      have h' : k < t.cps.toList.length := by rw [← len_eq]; exact h
      exact (sFit_iff (List.getElem?_eq_getElem h') _ _ _).mpr (.inl rfl)
    -- the place k
    have hA : ∀ j, (st1a t one maybe 42 bs l k).getD j false = true ↔ (l.getD j false = true ∨ (bs.getD k false = true ∧ (j = k ∨ (j = k + 1 ∧ k < t.length)))) := by
      intro j
      unfold st1a
      by_cases hb : bs.getD k false = true
      · rw [if_pos hb, if_pos ho]
        by_cases hlt : k < t.length
        · rw [if_pos ⟨decide_eq_true hlt, hf hlt⟩, getD_set_b, getD_set_b, List.length_set]
          constructor
          · intro h
            split at h
            · rename_i h1; exact .inr ⟨hb, .inr ⟨h1.1.symm, hlt⟩⟩
            · split at h
              · rename_i h1; exact .inr ⟨hb, .inl h1.1.symm⟩
              · exact .inl h
          · intro h
            split
            · rfl
            · rename_i n1
              split
              · rfl
              · rename_i n2
                rcases h with h | ⟨_, h | ⟨h, _⟩⟩
                · exact h
                · exact absurd ⟨h.symm, by omega⟩ n2
                · exact absurd ⟨h.symm, by omega⟩ n1
        · rw [if_neg (fun h => hlt (of_decide_eq_true h.1)), getD_set_b]
          constructor
          · intro h
            split at h
            · rename_i h1; exact .inr ⟨hb, .inl h1.1.symm⟩
            · exact .inl h
          · intro h
            split
            · rfl
            · rename_i n2
              rcases h with h | ⟨_, h | ⟨_, h⟩⟩
              · exact h
              · exact absurd ⟨h.symm, by omega⟩ n2
              · exact absurd h hlt
      · rw [if_neg hb]
        exact ⟨.inl, fun h => h.elim id fun h => absurd h.1 hb⟩
    have hAl : (st1a t one maybe 42 bs l k).length = l.length := by
      unfold st1a
      repeat' split
      all_goals simp only [List.length_set]
    have hk0 : (st1a t one maybe 42 bs l k).getD k false = true ↔ ∃ i, i ≤ k ∧ bs.getD i false = true := by
      rw [hA k]
      constructor
      · rintro (h | ⟨h, _⟩)
        · obtain ⟨_, _, i, hi, _, r⟩ := (ih k).mp h
          exact ⟨i, hi, r⟩
        · exact ⟨k, Nat.le_refl _, h⟩
      · rintro ⟨i, hi, r⟩
        rcases Nat.lt_or_ge i k with h1 | h1
        · exact .inl ((ih k).mpr ⟨by omega, Nat.le_refl _, i, hi, h1, r⟩)
        · have : i = k := by omega
          subst this
          exact .inr ⟨r, .inl rfl⟩
    have hmain : (st1 t one maybe 42 bs l k).getD j false = true ↔ ((st1a t one maybe 42 bs l k).getD j false = true ∨ (j = k + 1 ∧ k < t.length ∧ ∃ i, i ≤ k ∧ bs.getD i false = true)) := by
      unfold st1
      by_cases hcond : (Str.mk #[42] == Str.ofString "*") = true ∧ (st1a t one maybe 42 bs l k).getD k false = true ∧ k < t.length
      · rw [if_pos hcond, getD_set_b]
        have hex := hk0.mp hcond.2.1
        constructor
        · intro h
          split at h
          · rename_i h1; exact .inr ⟨h1.1.symm, hcond.2.2, hex⟩
          · exact .inl h
        · intro h
          split
          · rfl
          · rename_i n1
            rcases h with h | ⟨h, _⟩
            · exact h
            · exact absurd ⟨h.symm, by rw [hAl]; have := hcond.2.2; omega⟩ n1
      · rw [if_neg hcond]
        constructor
        · exact .inl
        · rintro (h | ⟨_, h1, h2⟩)
          · exact h
          · exact absurd ⟨by rw [star_eq]; rfl, hk0.mpr h2, h1⟩ hcond
    rw [hmain, hA j]
    constructor
    · rintro ((h | ⟨h, h1 | ⟨h1, h2⟩⟩) | ⟨h, h1, i, hi, r⟩)
      · obtain ⟨a1, a2, i, a3, a4, r⟩ := (ih j).mp h
        exact ⟨a1, by omega, i, a3, by omega, r⟩
      · exact ⟨by omega, by omega, k, by omega, by omega, h⟩
      · exact ⟨by omega, by omega, k, by omega, by omega, h⟩
      · exact ⟨by omega, by omega, i, by omega, by omega, r⟩
    · rintro ⟨a1, a2, i, a3, a4, r⟩
      rcases Nat.lt_or_ge k j with hj | hj
      · exact .inr ⟨by omega, by omega, i, by omega, r⟩
      · rcases Nat.lt_or_ge i k with h1 | h1
        · exact .inl (.inl ((ih j).mpr ⟨a1, hj, i, a3, h1, r⟩))
        · have : i = k := by omega
          subst this
          exact .inl (.inr ⟨r, .inl (by omega)⟩)
/-- the second inner loop keeps what is closed upward -/
theorem fold_up {n : Nat} {P : Nat → Prop} (up : ∀ j, j + 1 ≤ n → P j → P (j + 1)) : ∀ k, k ≤ n → ∀ l : List Bool, l.length = n + 1 → (∀ j, l.getD j false = true ↔ P j) → ∀ j, ((List.range k).foldl st2 l).getD j false = true ↔ P j := by
  intro k
  induction k with
  | zero => intro _ l _ h; simpa using h
  | succ k ih =>
    intro hk l hlen h j
    rw [List.range_succ, List.foldl_append, List.foldl_cons, List.foldl_nil]
    have ih := ih (by omega) l hlen h
    generalize (List.range k).foldl st2 l = l' at ih ⊢
    show ((l'.set (k + 1) (l'.getD (k + 1) false || l'.getD k false)).getD j false = true ↔ P j)
    rw [getD_set_b]
    split
    · rename_i h1
      rw [Bool.or_eq_true, ih, ih, ← h1.1]
      exact ⟨fun h => h.elim id (up k hk), .inl⟩
    · exact ih j
theorem turn_sign (hc : c ≠ 42) (j : Nat) : (turnB t one maybe bs c).getD j false = true ↔
    ∃ i, i ≤ t.length ∧ bs.getD i false = true ∧ ((j = i ∧ sOpt maybe c = true) ∨ (j = i + 1 ∧ i < t.length ∧ sFit t one maybe c i = true)) := by
  unfold turnB
  rw [if_neg (by rw [star_eq]; simpa using hc), fold_sign hc _ (Nat.le_refl _) j]
  constructor
  · rintro ⟨i, hi, r⟩; exact ⟨i, by omega, r⟩
  · rintro ⟨i, hi, r⟩; exact ⟨i, by omega, r⟩
theorem turn_star (j : Nat) : (turnB t one maybe bs 42).getD j false = true ↔ (j ≤ t.length ∧ ∃ i, i ≤ j ∧ bs.getD i false = true) := by
  unfold turnB
  rw [if_pos (by rw [star_eq]; rfl)]
  have h1 : ∀ j, ((List.range (t.length + 1)).foldl (st1 t one maybe 42 bs) (List.replicate (t.length + 1) false)).getD j false = true ↔ (j ≤ t.length ∧ ∃ i, i ≤ j ∧ bs.getD i false = true) := by
    intro j
    rw [fold_star _ (Nat.le_refl _) j]
    constructor
    · rintro ⟨a1, _, i, a3, _, r⟩; exact ⟨a1, i, a3, r⟩
    · rintro ⟨a1, i, a3, r⟩; exact ⟨a1, by omega, i, a3, by omega, r⟩
  exact fold_up (n := t.length) (P := fun j => j ≤ t.length ∧ ∃ i, i ≤ j ∧ bs.getD i false = true) (fun j hj ⟨_, i, hi, r⟩ => ⟨hj, i, by omega, r⟩) _ (Nat.le_refl _) _
    (by rw [fold_len (st1_len _ _ _ _ _), List.length_replicate]) h1 j
end

theorem drop_cons {ts : List Nat} {j : Nat} (h : j < ts.length) : ts.drop j = ts[j] :: ts.drop (j + 1) := List.drop_eq_getElem_cons h
theorem takes_star (one maybe : Str) (ps ts : List Nat) : ∀ k j, j + k = ts.length → (takesL one maybe (42 :: ps) (ts.drop j) = true ↔ ∃ i, j ≤ i ∧ i ≤ ts.length ∧ takesL one maybe ps (ts.drop i) = true) := by
  intro k
  induction k with
  | zero =>
    intro j hj
    have e : ts.drop j = [] := List.drop_of_length_le (by omega)
    rw [e, takesL_cn]
    constructor
    · intro h
      simp at h
      exact ⟨j, Nat.le_refl _, by omega, by rw [e]; exact h⟩
    · rintro ⟨i, h1, h2, h⟩
      have : ts.drop i = [] := List.drop_of_length_le (by omega)
      rw [this] at h
      simp [h]
  | succ k ih =>
    intro j hj
    have hlt : j < ts.length := by omega
    rw [drop_cons hlt, takesL_cc, ← drop_cons hlt, if_pos rfl]
    have ih := ih (j + 1) (by omega)
    simp only [decide_true, Bool.true_or, Bool.true_and, Bool.or_eq_true]
    rw [ih]
    constructor
    · rintro (h | ⟨i, h1, h2, h⟩)
      · exact ⟨j, Nat.le_refl _, by omega, h⟩
      · exact ⟨i, by omega, h2, h⟩
    · rintro ⟨i, h1, h2, h⟩
      rcases Nat.lt_or_ge j i with h3 | h3
      · exact .inr ⟨i, h3, h2, h⟩
      · have : i = j := by omega
        subst this
        exact .inl h
theorem takes_sign (one maybe : Str) {c : Nat} (hc : c ≠ 42) (ps : List Nat) (t : Str) {j : Nat} (hj : j ≤ t.length) : takesL one maybe (c :: ps) (t.cps.toList.drop j) = true ↔
    ((sOpt maybe c = true ∧ takesL one maybe ps (t.cps.toList.drop j) = true) ∨ (j < t.length ∧ sFit t one maybe c j = true ∧ takesL one maybe ps (t.cps.toList.drop (j + 1)) = true)) := by
  rw [sOpt_iff]
  rcases Nat.lt_or_ge j t.length with hlt | hge
  · have hlt' : j < t.cps.toList.length := by rw [← len_eq]; exact hlt
    rw [sFit_iff (List.getElem?_eq_getElem hlt')]
    rw [drop_cons hlt', takesL_cc, if_neg hc]
    simp only [Bool.or_eq_true, Bool.and_eq_true, decide_eq_true_eq, hlt, true_and, hc, false_or]
    constructor
    · rintro (h | ⟨(h | h) | h, r⟩)
      · exact .inl h
      · exact .inr ⟨.inl h, r⟩
      · exact .inr ⟨.inr (.inl h), r⟩
      · exact .inr ⟨.inr (.inr h), r⟩
    · rintro (h | ⟨h | h | h, r⟩)
      · exact .inl h
      · exact .inr ⟨.inl (.inl h), r⟩
      · exact .inr ⟨.inl (.inr h), r⟩
      · exact .inr ⟨.inr h, r⟩
  · have e : t.cps.toList.drop j = [] := List.drop_of_length_le (by rw [← len_eq]; exact hge)
    rw [e, takesL_cn]
    simp only [Bool.or_eq_true, Bool.and_eq_true, decide_eq_true_eq, hc, false_or]
    constructor
    · exact .inl
    · rintro (h | ⟨h, _⟩)
      · exact h
      · omega

def Reached (t one maybe : Str) (bs : List Bool) (ps : List Nat) : Prop := ∃ j, j ≤ t.length ∧ bs.getD j false = true ∧ takesL one maybe ps (t.cps.toList.drop j) = true
theorem reached_step (t one maybe : Str) (bs : List Bool) (c : Nat) (ps : List Nat) : Reached t one maybe bs (c :: ps) ↔ Reached t one maybe (turnB t one maybe bs c) ps := by
  unfold Reached
  by_cases hc : c = 42
  · subst hc
    constructor
    · rintro ⟨j, hj, hb, h⟩
      obtain ⟨i, h1, h2, r⟩ := (takes_star one maybe ps t.cps.toList (t.length - j) j (by rw [← len_eq]; omega)).mp h
      rw [← len_eq] at h2
      exact ⟨i, h2, (turn_star i).mpr ⟨h2, j, h1, hb⟩, r⟩
    · rintro ⟨i, hi, hb, h⟩
      obtain ⟨_, j, hj, hb⟩ := (turn_star i).mp hb
      exact ⟨j, by omega, hb, (takes_star one maybe ps t.cps.toList (t.length - j) j (by rw [← len_eq]; omega)).mpr ⟨i, hj, by rw [← len_eq]; exact hi, h⟩⟩
  · constructor
    · rintro ⟨j, hj, hb, h⟩
      rcases (takes_sign one maybe hc ps t hj).mp h with ⟨ho, r⟩ | ⟨hlt, hf, r⟩
      · exact ⟨j, hj, (turn_sign hc j).mpr ⟨j, hj, hb, .inl ⟨rfl, ho⟩⟩, r⟩
      · exact ⟨j + 1, by omega, (turn_sign hc (j + 1)).mpr ⟨j, hj, hb, .inr ⟨rfl, hlt, hf⟩⟩, r⟩
    · rintro ⟨j, hj, hb, h⟩
      obtain ⟨i, hi, hb2, ⟨rfl, ho⟩ | ⟨rfl, hlt, hf⟩⟩ := (turn_sign hc j).mp hb
      · exact ⟨j, hj, hb2, (takes_sign one maybe hc ps t hj).mpr (.inl ⟨ho, h⟩)⟩
      · exact ⟨i, hi, hb2, (takes_sign one maybe hc ps t hi).mpr (.inr ⟨hlt, hf, h⟩)⟩
theorem reached_fold (t one maybe : Str) : ∀ (ps : List Nat) (bs : List Bool), Reached t one maybe bs ps ↔ Reached t one maybe (ps.foldl (turnB t one maybe) bs) []
  | [], _ => Iff.rfl
  | c :: ps, bs => (reached_step t one maybe bs c ps).trans (reached_fold t one maybe ps _)
theorem takes_taken (p t one maybe : Str) : takesF p t one maybe = takenG p t one maybe := by
  rw [Bool.eq_iff_iff]
  have h1 : takesF p t one maybe = true ↔ Reached t one maybe (true :: List.replicate t.length false) p.cps.toList := by
    unfold Reached takesF
    constructor
    · intro h
      exact ⟨0, Nat.zero_le _, rfl, by rw [List.drop_zero]; exact h⟩
    · rintro ⟨j, _, hb, h⟩
      cases j with
      | zero => rw [List.drop_zero] at h; exact h
      | succ j =>
        rw [List.getD_cons_succ, rep_getD] at hb
        exact hb.elim
  rw [h1, reached_fold]
  unfold Reached takenG
  constructor
  · rintro ⟨j, hj, hb, h⟩
    rw [takesL_nil, List.isEmpty_iff] at h
    have : t.length ≤ j := by
      rw [len_eq]
      exact List.drop_eq_nil_iff.mp h
    have : j = t.length := by omega
    subst this
    exact hb
  · intro h
    exact ⟨t.length, Nat.le_refl _, h, by rw [takesL_nil, List.isEmpty_iff]; exact List.drop_of_length_le (by rw [← len_eq]; exact Nat.le_refl _)⟩
end Mine
end
section
open PySem PySem.W PyProof.Rows
namespace Mine
section
variable {t one maybe : Str} {c j : Nat} {b c' X0 : List Bool}
theorem toN (j : Nat) : ((j : Int)).toNat = j := Int.toNat_natCast j
theorem toN1 (j : Nat) : ((j : Int) + 1).toNat = j + 1 := by omega
theorem oT1 (h : (Str.mk #[c] == Str.ofString "*") = true) : sOpt maybe c = true := by unfold sOpt; rw [h]; rfl
theorem oT2 (h : (maybe != Str.ofString "") = true) (h2 : (Str.mk #[c] == maybe) = true) : sOpt maybe c = true := by unfold sOpt; rw [h, h2]; simp
theorem oF1 (h : (Str.mk #[c] == Str.ofString "*") = false) (h2 : (maybe != Str.ofString "") = false) : sOpt maybe c = false := by unfold sOpt; rw [h, h2]; rfl
theorem oF2 (h : (Str.mk #[c] == Str.ofString "*") = false) (h2 : (Str.mk #[c] == maybe) = false) : sOpt maybe c = false := by unfold sOpt; rw [h, h2]; simp
theorem fT1 (h : ([Str.ofString "*", one, Txt.item t (j : Int)].any fun x => x == Str.mk #[c]) = true) : sFit t one maybe c j = true := by unfold sFit; rw [h]; rfl
theorem fT2 (h : (maybe != Str.ofString "") = true) (h2 : (Str.mk #[c] == maybe) = true) : sFit t one maybe c j = true := by unfold sFit; rw [h, h2]; simp
theorem fF1 (h : ([Str.ofString "*", one, Txt.item t (j : Int)].any fun x => x == Str.mk #[c]) = false) (h2 : (maybe != Str.ofString "") = false) : sFit t one maybe c j = false := by unfold sFit; rw [h, h2]; rfl
theorem fF2 (h : ([Str.ofString "*", one, Txt.item t (j : Int)].any fun x => x == Str.mk #[c]) = false) (h2 : (Str.mk #[c] == maybe) = false) : sFit t one maybe c j = false := by unfold sFit; rw [h, h2]; simp
theorem a_0 (h : b.getD (j : Int).toNat false = false) : c' = st1a t one maybe c b c' j := by
  rw [toN] at h
  unfold st1a; rw [if_neg (by rw [h]; exact Bool.false_ne_true)]
theorem a_TT (h : b.getD (j : Int).toNat false = true) (o : sOpt maybe c = true) (l : j < t.length) (f : sFit t one maybe c j = true) : (c'.set (j : Int).toNat true).set ((j : Int) + 1).toNat true = st1a t one maybe c b c' j := by
  rw [toN] at h
  rw [toN, toN1]
  unfold st1a; rw [if_pos h, if_pos ⟨decide_eq_true l, f⟩, if_pos o]
theorem a_TL (h : b.getD (j : Int).toNat false = true) (o : sOpt maybe c = true) (l : ¬ j < t.length) : (c'.set (j : Int).toNat true) = st1a t one maybe c b c' j := by
  rw [toN] at h
  rw [toN]
  unfold st1a; rw [if_pos h, if_neg (fun x => l (of_decide_eq_true x.1)), if_pos o]
theorem a_TF (h : b.getD (j : Int).toNat false = true) (o : sOpt maybe c = true) (f : sFit t one maybe c j = false) : (c'.set (j : Int).toNat true) = st1a t one maybe c b c' j := by
  rw [toN] at h
  rw [toN]
  unfold st1a; rw [if_pos h, if_neg (fun x => by rw [f] at x; exact Bool.false_ne_true x.2), if_pos o]
theorem a_FT (h : b.getD (j : Int).toNat false = true) (o : sOpt maybe c = false) (l : j < t.length) (f : sFit t one maybe c j = true) : c'.set ((j : Int) + 1).toNat true = st1a t one maybe c b c' j := by
  rw [toN] at h
  rw [toN1]
  unfold st1a; rw [if_pos h, if_pos ⟨decide_eq_true l, f⟩, if_neg (by rw [o]; exact Bool.false_ne_true)]
theorem a_FL (h : b.getD (j : Int).toNat false = true) (o : sOpt maybe c = false) (l : ¬ j < t.length) : c' = st1a t one maybe c b c' j := by
  rw [toN] at h
  unfold st1a; rw [if_pos h, if_neg (fun x => l (of_decide_eq_true x.1)), if_neg (by rw [o]; exact Bool.false_ne_true)]
theorem a_FF (h : b.getD (j : Int).toNat false = true) (o : sOpt maybe c = false) (f : sFit t one maybe c j = false) : c' = st1a t one maybe c b c' j := by
  rw [toN] at h
  unfold st1a; rw [if_pos h, if_neg (fun x => by rw [f] at x; exact Bool.false_ne_true x.2), if_neg (by rw [o]; exact Bool.false_ne_true)]
theorem z_S (e : X0 = st1a t one maybe c b c' j) (h : (Str.mk #[c] == Str.ofString "*") = false) : X0 = st1 t one maybe c b c' j := by
  unfold st1; rw [← e, if_neg (fun x => by rw [h] at x; exact Bool.false_ne_true x.1)]
theorem z_V (e : X0 = st1a t one maybe c b c' j) (h : X0.getD (j : Int).toNat false = false) : X0 = st1 t one maybe c b c' j := by
  rw [toN] at h
  unfold st1; rw [← e, if_neg (fun x => by rw [h] at x; exact Bool.false_ne_true x.2.1)]
theorem z_L (e : X0 = st1a t one maybe c b c' j) (h : ¬ j < t.length) : X0 = st1 t one maybe c b c' j := by
  unfold st1; rw [← e, if_neg (fun x => h x.2.2)]
theorem z_1 (e : X0 = st1a t one maybe c b c' j) (h : (Str.mk #[c] == Str.ofString "*") = true) (v : X0.getD (j : Int).toNat false = true) (l : j < t.length) : X0.set ((j : Int) + 1).toNat true = st1 t one maybe c b c' j := by
  rw [toN] at v
  rw [toN1]
  unfold st1; rw [← e, if_pos ⟨h, v, l⟩]
theorem y_1 (h : c'.getD ((j : Int) + 1).toNat false = true) : c'.set ((j : Int) + 1).toNat true = st2 c' j := by
  rw [toN1] at h ⊢; unfold st2; rw [h]; rfl
theorem y_0 (h : c'.getD ((j : Int) + 1).toNat false = false) : c'.set ((j : Int) + 1).toNat (c'.getD (j : Int).toNat false) = st2 c' j := by
  rw [toN1] at h ⊢; rw [toN]; unfold st2; rw [h]; rfl
theorem y_1' (h : c'.getD ((j : Int) + 1).toNat false = true) : c'.set ((j : Int) + 1).toNat (c'.getD ((j : Int) + 1).toNat false) = st2 c' j := by
  rw [h]; exact y_1 h
end
end Mine
end
section
open PySem PySem.W PyProof.Rows PySem.StrLaws PySem.Builtin.Str
namespace Mine
noncomputable def del (c : Nat) : List Nat → List Nat
  | [] => []
  | a :: r => if a = 46 ∧ r.head? = some c then del c r else a :: del c r
noncomputable def insl (c : Nat) : List Nat → List Nat
  | [] => []
  | k :: r => if k = c then 46 :: k :: insl c r else k :: insl c r
theorem insl_append (c : Nat) : ∀ a b : List Nat, insl c (a ++ b) = insl c a ++ insl c b
  | [], _ => rfl
  | k :: r, b => by
    have ih := insl_append c r b
    by_cases h : k = c
    · show (if k = c then 46 :: k :: insl c (r ++ b) else k :: insl c (r ++ b)) = (if k = c then 46 :: k :: insl c r else k :: insl c r) ++ insl c b
      rw [if_pos h, if_pos h, ih]; rfl
    · show (if k = c then 46 :: k :: insl c (r ++ b) else k :: insl c (r ++ b)) = (if k = c then 46 :: k :: insl c r else k :: insl c r) ++ insl c b
      rw [if_neg h, if_neg h, ih]; rfl
theorem insl_free (c : Nat) : ∀ l : List Nat, c ∉ l → insl c l = l
  | [], _ => rfl
  | k :: r, h => by
    have h1 : ¬ k = c := fun e => h (e ▸ List.mem_cons_self ..)
    have h2 : c ∉ r := fun m => h (List.mem_cons_of_mem _ m)
    unfold insl
    rw [if_neg h1, insl_free c r h2]
theorem insl_join (c : Nat) : ∀ parts : List Str, (∀ p ∈ parts, c ∉ p.cps.toList) → insl c (Str.join ⟨#[c]⟩ parts).cps.toList = (Str.join ⟨#[46, c]⟩ parts).cps.toList
  | [], _ => rfl
  | [p], h => insl_free c _ (h p (List.mem_singleton.mpr rfl))
  | p :: q :: r, h => by
    have ih := insl_join c (q :: r) fun a ha => h a (List.mem_cons_of_mem _ ha)
    show insl c (p ++ ⟨#[c]⟩ ++ Str.join ⟨#[c]⟩ (q :: r)).cps.toList = (p ++ ⟨#[46, c]⟩ ++ Str.join ⟨#[46, c]⟩ (q :: r)).cps.toList
    simp only [Str.cps_append, Array.toList_append]
    rw [insl_append, insl_append, ih, insl_free c _ (h p (List.mem_cons_self ..))]
    show p.cps.toList ++ insl c [c] ++ _ = _
    have : insl c [c] = [46, c] := by simp [insl]
    rw [this]
theorem replace_ins (x : Str) (c : Nat) : (Txt.replace x ⟨#[c]⟩ ⟨#[46, c]⟩).cps.toList = insl c x.cps.toList := by
  rw [replace_one, ← insl_join c _ (split_free x c), join_split]

def Pt (L : List Nat) (c k : Nat) : Prop := L[k]? = some 46 ∧ L[k + 1]? = some c
theorem at_two (x : Str) (c k : Nat) : At x ⟨#[46, c]⟩ x.length k ↔ Pt x.cps.toList c k := by
  unfold At Pt
  rw [subAt_eq]
  have h2 : (⟨#[46, c]⟩ : Str).length = 2 := rfl
  rw [h2, len_eq]
  generalize x.cps.toList = L
  constructor
  · rintro ⟨h, e⟩
    have e := eq_of_beq e
    have e0 : ((L.drop k).take 2)[0]? = some 46 := by rw [e]; rfl
    have e1 : ((L.drop k).take 2)[1]? = some c := by rw [e]; rfl
    rw [List.getElem?_take_of_lt (by decide), List.getElem?_drop] at e0 e1
    exact ⟨e0, e1⟩
  · rintro ⟨h0, h1⟩
    have l1 : k + 1 < L.length := (List.getElem?_eq_some_iff.mp h1).1
    refine ⟨by omega, ?_⟩
    rw [List.drop_eq_getElem_cons (by omega), List.drop_eq_getElem_cons (by omega)]
    have a0 := (List.getElem?_eq_some_iff.mp h0).2
    have a1 := (List.getElem?_eq_some_iff.mp h1).2
    rw [a0, a1]
    simp
theorem del_skip (L : List Nat) (c : Nat) : ∀ n a, a + n ≤ L.length → (∀ k, a ≤ k → k < a + n → ¬ Pt L c k) → del c (L.drop a) = (L.drop a).take n ++ del c (L.drop (a + n)) := by
  intro n
  induction n with
  | zero => intro a _ _; simp
  | succ n ih =>
    intro a hl hn
    have hlt : a < L.length := by omega
    have hh : (L.drop (a + 1)).head? = L[a + 1]? := by rw [List.head?_drop]
    have ih' := ih (a + 1) (by omega) (fun k h1 h2 => hn k (by omega) (by omega))
    rw [List.drop_eq_getElem_cons hlt]
    rw [List.take_succ_cons, List.cons_append]
    conv => lhs; unfold del
    rw [if_neg, ih']
    · have : a + 1 + n = a + (n + 1) := by omega
      rw [this]
    · rintro ⟨h1, h2⟩
      rw [hh] at h2
      exact hn a (Nat.le_refl _) (by omega) ⟨by rw [List.getElem?_eq_getElem hlt, h1], h2⟩
theorem del_parts (x : Str) (c : Nat) (hc : c ≠ 46) : ∀ (cuts : List Nat) (a f : Nat), a ≤ x.length → ChainG x ⟨#[46, c]⟩ x.length a cuts f → (∀ k, f ≤ k → ¬ At x ⟨#[46, c]⟩ x.length k) →
    del c (x.cps.toList.drop a) = (Str.join ⟨#[c]⟩ (partsFrom x (⟨#[46, c]⟩ : Str).length a cuts)).cps.toList
  | [], a, f, hal, h, hn => by
    have e : f = a := h
    subst e
    show del c _ = (strSub x f x.length).cps.toList
    rw [strSub_toList]
    have hl : f + (x.length - f) = x.cps.toList.length := by rw [← len_eq]; omega
    have := del_skip x.cps.toList c (x.length - f) f (by omega) (fun k h1 _ hp => hn k h1 ((at_two x c k).mpr hp))
    rw [this, hl, List.drop_length]
    simp [del]
  | d :: r, a, f, hal, h, hn => by
    obtain ⟨had, hA, hno, hr⟩ := h
    have hP := (at_two x c d).mp hA
    have l1 : d + 1 < x.cps.toList.length := (List.getElem?_eq_some_iff.mp hP.2).1
    have ih := del_parts x c hc r (d + 2) f (by rw [len_eq]; omega) hr hn
    obtain ⟨p, q, e⟩ := partsFrom_ne x (⟨#[46, c]⟩ : Str).length (d + 2) r
    have step := del_skip x.cps.toList c (d - a) a (by omega) (fun k h1 h2 hp => hno k h1 (by omega) ((at_two x c k).mpr hp))
    have e1 : a + (d - a) = d := by omega
    rw [step, e1]
    have hd : del c (x.cps.toList.drop d) = c :: del c (x.cps.toList.drop (d + 2)) := by
      rw [List.drop_eq_getElem_cons (by omega), List.drop_eq_getElem_cons l1]
      have a0 := (List.getElem?_eq_some_iff.mp hP.1).2
      have a1 := (List.getElem?_eq_some_iff.mp hP.2).2
      rw [a0, a1]
      conv => lhs; unfold del
      rw [if_pos ⟨rfl, rfl⟩]
      conv => lhs; unfold del
      rw [if_neg (fun x => hc x.1)]
    rw [hd, ih]
    show _ = (Str.join ⟨#[c]⟩ (strSub x a d :: partsFrom x (⟨#[46, c]⟩ : Str).length (d + 2) r)).cps.toList
    rw [e]
    show _ = (strSub x a d ++ ⟨#[c]⟩ ++ Str.join ⟨#[c]⟩ (p :: q)).cps.toList
    simp only [Str.cps_append, Array.toList_append, strSub_toList, List.append_assoc]
    rfl
theorem replace_del (x : Str) (c : Nat) (hc : c ≠ 46) : (Txt.replace x ⟨#[46, c]⟩ ⟨#[c]⟩).cps.toList = del c x.cps.toList := by
  obtain ⟨f, hG, hn⟩ := occ_tight x ⟨#[46, c]⟩ (by show 1 ≤ 2; decide)
  have key := del_parts x c hc _ 0 f (Nat.zero_le _) hG hn
  rw [List.drop_zero] at key
  unfold Txt.replace
  have h10 : ((⟨#[46, c]⟩ : Str).length == 0) = false := rfl
  rw [h10, Bool.false_and, Bool.or_false]
  cases he : (Builtin.Str.occurrences x ⟨#[46, c]⟩ 0 x.length (x.length + 1)).isEmpty
  · rw [if_neg Bool.false_ne_true, glued_eq_join, partsBetween_eq, key]
  · rw [if_pos rfl, key]
    rw [List.isEmpty_iff.mp he]
    show x.cps.toList = (strSub x 0 x.length).cps.toList
    rw [sub_whole]
-- the two insertions, then the two strikings
noncomputable def f1 (l : List Nat) : List Nat := insl 63 (insl 42 l)
theorem head_f1 (l : List Nat) : (f1 l).head? ≠ some 42 := by
  cases l with
  | nil => simp [f1, insl]
  | cons a r =>
    unfold f1
    by_cases h : a = 42
    · simp [insl, h]
    · by_cases h2 : a = 63
      · simp [insl, h2]
      · simp [insl, h, h2]
theorem del_f1 : ∀ l : List Nat, del 42 (f1 l) = insl 63 l
  | [] => rfl
  | a :: r => by
    have ih := del_f1 r
    have hh := head_f1 r
    unfold f1 at ih hh ⊢
    by_cases h : a = 42
    · subst h
      have e : insl 63 (insl 42 (42 :: r)) = 46 :: 42 :: insl 63 (insl 42 r) := by simp [insl]
      have e2 : insl 63 (42 :: r) = 42 :: insl 63 r := by simp [insl]
      rw [e, e2, ← ih]
      conv => lhs; unfold del
      rw [if_pos ⟨rfl, rfl⟩]
      conv => lhs; unfold del
      rw [if_neg (fun x => by cases x.1)]
    · have e0 : insl 42 (a :: r) = a :: insl 42 r := by simp [insl, h]
      rw [e0]
      by_cases h2 : a = 63
      · subst h2
        have e : insl 63 (63 :: insl 42 r) = 46 :: 63 :: insl 63 (insl 42 r) := by simp [insl]
        have e2 : insl 63 (63 :: r) = 46 :: 63 :: insl 63 r := by simp [insl]
        rw [e, e2, ← ih]
        conv => lhs; unfold del
        rw [if_neg (fun x => by simp at x)]
        conv => lhs; unfold del
        rw [if_neg (fun x => by cases x.1)]
      · have e : insl 63 (a :: insl 42 r) = a :: insl 63 (insl 42 r) := by simp [insl, h2]
        have e2 : insl 63 (a :: r) = a :: insl 63 r := by simp [insl, h2]
        rw [e, e2, ← ih]
        conv => lhs; unfold del
        rw [if_neg (fun x => hh x.2)]
theorem head_i63 (l : List Nat) : (insl 63 l).head? ≠ some 63 := by
  cases l with
  | nil => simp [insl]
  | cons a r =>
    unfold insl
    by_cases h : a = 63
    · rw [if_pos h]; simp
    · rw [if_neg h]; simpa using h
theorem del_i63 : ∀ l : List Nat, del 63 (insl 63 l) = l
  | [] => rfl
  | a :: r => by
    have ih := del_i63 r
    have hh := head_i63 r
    by_cases h : a = 63
    · subst h
      have e : insl 63 (63 :: r) = 46 :: 63 :: insl 63 r := by simp [insl]
      rw [e]
      conv => lhs; unfold del
      rw [if_pos ⟨rfl, rfl⟩]
      conv => lhs; unfold del
      rw [if_neg (fun x => by cases x.1), ih]
    · have e : insl 63 (a :: r) = a :: insl 63 r := by simp [insl, h]
      rw [e]
      conv => lhs; unfold del
      rw [if_neg (fun x => hh x.2), ih]
theorem wrap_back (p : Str) : Txt.replace (Txt.replace (Txt.replace (Txt.replace p (Str.ofString "*") (Str.ofString ".*")) (Str.ofString "?") (Str.ofString ".?")) (Str.ofString ".*") (Str.ofString "*")) (Str.ofString ".?") (Str.ofString "?") = p := by
  have s1 : Str.ofString "*" = ⟨#[42]⟩ := by decide +kernel
  have s2 : Str.ofString ".*" = ⟨#[46, 42]⟩ := by decide +kernel
  have s3 : Str.ofString "?" = ⟨#[63]⟩ := by decide +kernel
  have s4 : Str.ofString ".?" = ⟨#[46, 63]⟩ := by decide +kernel
  rw [s1, s2, s3, s4]
  refine str_ext ?_
  rw [replace_del _ _ (by decide), replace_del _ _ (by decide), replace_ins, replace_ins]
  show del 63 (del 42 (f1 p.cps.toList)) = _
  rw [del_f1, del_i63]
end Mine
end
section
open PySem PySem.W PySem.Calls PyProof.Rows PySem.Spec
namespace Mine
def Stop (P : Prop) : Prop := P
theorem Stop.out {P : Prop} (h : Stop P) : P := h
def bls (bs : List Bool) : List Value := bs.map Value.bool
theorem bls_are : ∀ bs : List Bool, LSm.BoolsAre (bls bs) bs
  | [] => .nil
  | b :: r => .cons b (bls_are r)
theorem bls_set (bs : List Bool) (k : Nat) (b : Bool) : (bls bs).set k (.bool b) = bls (bs.set k b) := by
  unfold bls; rw [List.map_set]
theorem bls_rep (b : Bool) (k : Nat) : (List.replicate k [Value.bool b]).flatten = bls (List.replicate k b) := by
  induction k with
  | zero => rfl
  | succ k ih => rw [List.replicate_succ, List.flatten_cons, ih, List.replicate_succ]; rfl
section
variable {prog : Program} {w : World} {A : Around} {E : Value → Shared → Prop} {s : Shared} {h₀ : Heap} {L D l l' : Addr} {m : Str → Option Value} {news news' : List (Addr × Obj)} {as bs : List Bool} {n n' : Nat} {k x : Int} {t u : Tok} {b : Bool}
theorem b_sub {value slice : PySem.Expr} {Q : Value → Shared → Prop} (N : News h₀ L s.heap news) (hm : (D, listOf (bls bs).toArray n) ∈ news) (h0 : 0 ≤ k) (h1 : k < bs.length) (hfit : k < 2 ^ 63) (h : Q (.bool (bs.getD k.toNat false)) s)
    (hs : subscripted slice false (.ref D) (.int k u) = operate [.ref D, .int k u] (getItem (.ref D) (.int k u)) := by with_unfolding_all rfl) :
    wpAny (model prog w) A (subscriptTail value slice (.ref D) (.int k u)) Q E s := kbo_sub N hm (bls_are bs) h0 h1 hfit h hs
theorem b_set {Q : Unit → Shared → Prop} (F : Fr h₀ L s.heap m) (N : News h₀ L s.heap news) (U : Upd D (listOf (bls bs).toArray n) (listOf (bls (bs.set k.toNat b)).toArray n) news news') (h0 : 0 ≤ k) (h1 : k < bs.length) (hfit : k < 2 ^ 63)
    (h : ∀ h', Fr h₀ L h' m → News h₀ L h' news' → Q () { s with heap := h' }) :
    wpAny (model prog w) A (setItem (.ref D) (.int k t) (.bool b)) Q E s := by
  rw [← bls_set] at U
  exact kbo_set F N U (bls_are bs) h0 h1 hfit fun h' F' N' _ _ => h h' F' N'
theorem b_mul {Q : Value → Shared → Prop} (F : Fr h₀ L s.heap m) (N : News h₀ L s.heap news) (hm : (l, listOf #[Value.bool b] n) ∈ news) (hlo : 0 ≤ x) (hhi : x ≤ 1000)
    (h : ∀ D h', Fr h₀ L h' m → News h₀ L h' ((D, listOf (bls (List.replicate x.toNat b)).toArray 0) :: news) → (∀ p ∈ news, p.1 < D) → Q (.ref D) { s with heap := h' }) : wpAny (model prog w) A (binaryOp .Mult (.ref l) (.int x u)) Q E s := by
  refine kbo_mul (vs := [Value.bool b]) (bs := [b]) F N (News.isList N hm) (.cons b .nil) (by omega) (by omega) (by simp; omega) ?_
  intro D h' F' N' l1 _ _ _ _ _ _ _
  rw [bls_rep] at N'
  exact h D h' F' N' l1
theorem b_addT {Q : Value → Shared → Prop} (F : Fr h₀ L s.heap m) (N : News h₀ L s.heap news) (hm : (l, listOf #[Value.bool b] n) ∈ news) (hm' : (l', listOf (bls bs).toArray n') ∈ news) (hz : bs.length ≤ 1000)
    (h : ∀ D h', Fr h₀ L h' m → News h₀ L h' ((D, listOf (bls (b :: bs)).toArray 0) :: news) → (∀ p ∈ news, p.1 < D) → Q (.ref D) { s with heap := h' }) : wpAny (model prog w) A (binaryOp .Add (.ref l) (.ref l')) Q E s := by
  refine add_arrays F N (News.isList N hm) (News.isList N hm') ?_ ?_
  · intro h' F' N'
    exact h _ h' F' N' fun p hp => Heap.lt_size (N p hp).1
  · have : sizeLine = 2 ^ 24 := sizeLine_eq
    rw [this]; simp [bls]; omega

def BlPost (h₀ : Heap) (L D : Addr) (nn : Nat) (b' : List Bool) (rest : List (Addr × Obj)) (x : Str) (m₀ : Str → Option Value) (s₁ : Shared) (f : Flow) (s₂ : Shared) : Prop :=
  match f with
  | .next => ∃ h' tk m' b'', s₂ = { s₁ with heap := h', toks := tk } ∧ Fr h₀ L h' m' ∧ (∀ z, z ≠ x → m' z = m₀ z) ∧ News h₀ L h' ((D, listOf (bls b'').toArray nn) :: rest) ∧ b'' = b'
  | _ => False
theorem BlPost.intro {nn : Nat} {b' b'' : List Bool} {rest : List (Addr × Obj)} {x : Str} {m₀ m' : Str → Option Value} {s₁ : Shared} {h' : Heap} {tk : Nat} (F : Fr h₀ L h' m') (N : News h₀ L h' ((D, listOf (bls b'').toArray nn) :: rest)) (hm : ∀ z, z ≠ x → m' z = m₀ z) (e : b'' = b') :
    BlPost h₀ L D nn b' rest x m₀ s₁ .next { s₁ with heap := h', toks := tk } := ⟨h', tk, m', b'', rfl, F, hm, N, e⟩

theorem bl_range {env : Env} {x : Str} {body : List Stmt} {Q : Flow → Shared → Prop} {D R r : Addr} {a₀ b₀ : Int} {t₀ u₀ v₀ : Tok} {nn : Nat} {oR : Obj} {rest : List (Addr × Obj)} {m₀ : Str → Option Value} (num : Nat) (g : List Bool → Nat → List Bool) (c₀ : List Bool) (news : List (Addr × Obj))
    (hh : A.handled = none) (hr : IsRange s.heap r a₀ b₀ 1 t₀ u₀ v₀) (ha : a₀ = 0) (hb : b₀ = (num : Int)) (hnum : num ≤ 1000) (F : Fr h₀ env.locals s.heap m₀) (N : News h₀ env.locals s.heap news) (hsub : ∀ p ∈ (D, listOf (bls c₀).toArray nn) :: (R, oR) :: rest, p ∈ news) (hg : ∀ b i, (g b i).length = b.length)
    (turn : ∀ (i : Nat) (c : List Bool) t h tk rest₁, i < num → c.length = c₀.length → (∀ p ∈ rest₁, p.1 ≠ D) → D ≠ R →
      Fr h₀ env.locals h (fun y => if y = x then some (.int (i : Int) t) else m₀ y) → News h₀ env.locals h ((D, listOf (bls c).toArray nn) :: (R, oR) :: rest₁) →
      wpAny (model prog w) A (execs body env) (BlPost h₀ env.locals D nn (g c i) ((R, oR) :: rest₁) x m₀ { s with heap := h, toks := tk }) E { s with heap := h, toks := tk })
    (hDR : D ≠ R) (hoff : ∀ p ∈ rest, p.1 ≠ D)
    (done : ∀ (u : Str → Option Value) h tk, Fr h₀ env.locals h (fun y => if y = x then u y else m₀ y) → News h₀ env.locals h ((D, listOf (bls ((List.range num).foldl g c₀)).toArray nn) :: (R, oR) :: rest) → ((List.range num).foldl g c₀).length = c₀.length → Q .next { s with heap := h, toks := tk }) :
    wpAny (model prog w) A (pyIter (.ref r)) (fun it s₂ => LoopAtV prog w A h₀ env x body Q E it s₂) E s := by
  subst ha hb
  have em : ∀ (v : Option Value) (u : Str → Option Value), (fun y => if y = x then v else kstB (fun z => if ([] : List Str).contains z then u z else m₀ z) ([] : List (Str × Value)) y) = fun y => if y = x then v else m₀ y := fun v u => by
    funext y; simp [kstB]
  refine kst_range (n := num) (fun c : List Bool => (D, listOf (bls c).toArray nn) :: (R, oR) :: rest) (fun _ => []) (fun c => c.length = c₀.length) [] (fun pre c => c = (List.range pre.length).foldl g c₀) c₀
    hh hr (small_one (by omega) (by omega) (by omega) (by omega)) (rangeSize_nat _ _) F (fun p hp => N p (hsub p hp)) rfl (fun p hp => nomatch hp) rfl ?_ ?_
  · intro c pre k t u h tk own hk hlt hof hf hp F₁ N₁
    rw [em] at F₁
    have hk' : k = (pre.length : Int) := by omega
    subst hk'
    have hoD : ∀ p ∈ rest ++ own, p.1 ≠ D := fun p hp => (List.mem_append.mp hp).elim (hoff p) fun q => hof p q D (.head _)
    refine wpAny_mono (turn pre.length c t h tk (rest ++ own) hlt hf hoD hDR F₁ N₁) (fun f s₂ p => ?_) fun _ _ e => e
    have fin : BlPost h₀ env.locals D nn (g c pre.length) ((R, oR) :: (rest ++ own)) x m₀ { s with heap := h, toks := tk } .next s₂ → InvEndN h₀ env.locals (KstS (fun c : List Bool => (D, listOf (bls c).toArray nn) :: (R, oR) :: rest) (fun _ => []) (fun c => c.length = c₀.length) x [] m₀ (fun pre c => c = (List.range pre.length).foldl g c₀) (pre ++ [(pre.length : Int)])) own ((((D, listOf (bls c₀).toArray nn) :: (R, oR) :: rest)).map (·.1)) { s with heap := h, toks := tk } s₂ := by
      rintro ⟨h', tk', m', b'', rfl, F₂, hm, N₂, rfl⟩
      refine kst_end (Led := fun c : List Bool => (D, listOf (bls c).toArray nn) :: (R, oR) :: rest) (ps := fun _ => []) (Facts := fun c => c.length = c₀.length) (stored := []) (P := fun pre c => c = (List.range pre.length).foldl g c₀) (g c pre.length) F₂ N₂ ?_ ?_ rfl ((hg _ _).trans hf) (fun p hp => nomatch hp) (fun z hz _ _ => hm z hz) ?_
      · intro p hp
        rcases List.mem_cons.mp hp with q | hp
        · exact List.mem_cons.mpr (.inl q)
        · rcases List.mem_cons.mp hp with q | hp
          · exact List.mem_cons.mpr (.inr (List.mem_cons.mpr (.inl q)))
          · exact .tail _ (.tail _ (List.mem_append_left _ hp))
      · intro p hp
        exact .tail _ (.tail _ (List.mem_append_right _ hp))
      · show g c pre.length = (List.range (pre ++ [(pre.length : Int)]).length).foldl g c₀
        rw [List.length_append, List.length_singleton, List.range_succ, List.foldl_append, ← hp]
        rfl
    cases f with
    | next => exact fin p
    | cont => exact p.elim
    | brk => exact p.elim
    | ret v => exact p.elim
  · intro c u h tk hf hp F₁ N₁
    have e2 : (fun y => if y = x then u y else kstB (fun z => if ([] : List Str).contains z then u z else m₀ z) ([] : List (Str × Value)) y) = fun y => if y = x then u y else m₀ y := by
      funext y; simp [kstB]
    rw [e2] at F₁
    have hl : (rangeKs 0 num).length = num := rangeKs_length _ _
    rw [hl] at hp
    subst hp
    exact done u h tk F₁ N₁ hf

def TxPost (h₀ : Heap) (L : Addr) (b' : List Bool) (rest : List (Addr × Obj)) (x y : Str) (stored : List Str) (m₀ : Str → Option Value) (s₁ : Shared) (f : Flow) (s₂ : Shared) : Prop :=
  match f with
  | .next => ∃ h' tk m' r' nn' b'', s₂ = { s₁ with heap := h', toks := tk } ∧ Fr h₀ L h' m' ∧ m' y = some (.ref r') ∧ (∀ z, z ≠ x → z ≠ y → stored.contains z = false → m' z = m₀ z) ∧ News h₀ L h' ((r', listOf (bls b'').toArray nn') :: rest) ∧ b'' = b' ∧ (∀ p ∈ rest, p.1 ≠ r')
  | _ => False
theorem TxPost.intro {b' b'' : List Bool} {rest : List (Addr × Obj)} {x y : Str} {stored : List Str} {m₀ m' : Str → Option Value} {s₁ : Shared} {h' : Heap} {tk : Nat} {r' : Addr} {nn' : Nat} (F : Fr h₀ L h' m') (hy : m' y = some (.ref r')) (N : News h₀ L h' ((r', listOf (bls b'').toArray nn') :: rest))
    (hm : ∀ z, z ≠ x → z ≠ y → stored.contains z = false → m' z = m₀ z) (e : b'' = b') (ho : ∀ p ∈ rest, p.1 ≠ r') : TxPost h₀ L b' rest x y stored m₀ s₁ .next { s₁ with heap := h', toks := tk } := ⟨h', tk, m', r', nn', b'', rfl, F, hy, hm, N, e, ho⟩

theorem bl_text {env : Env} {x y : Str} {body : List Stmt} {Q : Flow → Shared → Prop} {xt : Str} {tx : Tok} {r₀ : Addr} {n₀ : Nat} {rest : List (Addr × Obj)} {m₀ : Str → Option Value} (stored : List Str) (g : List Bool → Nat → List Bool) (b₀ : List Bool) (news : List (Addr × Obj))
    (hh : A.handled = none) (F : Fr h₀ env.locals s.heap m₀) (N : News h₀ env.locals s.heap news) (hsub : ∀ p ∈ (r₀, listOf (bls b₀).toArray n₀) :: rest, p ∈ news) (hy : m₀ y = some (.ref r₀)) (hg : ∀ b i, b.length = b₀.length → (g b i).length = b₀.length)
    (turn : ∀ (i c : Nat) (b : List Bool) t r nn (u : Str → Option Value) h tk rest₁, xt.cps[i]? = some c → b.length = b₀.length → (∀ p ∈ rest₁, p.1 ≠ r) →
      Fr h₀ env.locals h (fun z => if z = x then some (.str ⟨#[c]⟩ t) else if z = y then some (.ref r) else if stored.contains z then u z else m₀ z) → News h₀ env.locals h ((r, listOf (bls b).toArray nn) :: rest₁) →
      wpAny (model prog w) A (execs body env) (TxPost h₀ env.locals (g b c) rest₁ x y stored m₀ { s with heap := h, toks := tk }) E { s with heap := h, toks := tk })
    (hoff : ∀ p ∈ rest, p.1 ≠ r₀)
    (done : ∀ (u : Str → Option Value) r nn h tk, Fr h₀ env.locals h (fun z => if z = x then u z else if z = y then some (.ref r) else if stored.contains z then u z else m₀ z) → News h₀ env.locals h ((r, listOf (bls (xt.cps.toList.foldl g b₀)).toArray nn) :: rest) → (xt.cps.toList.foldl g b₀).length = b₀.length → Q .next { s with heap := h, toks := tk }) :
    wpAny (model prog w) A (pyIter (.str xt tx)) (fun it s₂ => LoopAtV prog w A h₀ env x body Q E it s₂) E s := by
  have mapE : ∀ (v : Option Value) (r : Addr) (m₁ : Str → Option Value), m₁ y = some (.ref r) → (∀ z, z ≠ x → z ≠ y → stored.contains z = false → m₁ z = m₀ z) →
      (fun z => if z = x then v else m₁ z) = fun z => if z = x then v else if z = y then some (Value.ref r) else if stored.contains z then m₁ z else m₀ z := by
    intro v r m₁ h1 h2
    funext z
    by_cases hz : z = x
    · rw [if_pos hz, if_pos hz]
    · rw [if_neg hz, if_neg hz]
      by_cases hz2 : z = y
      · rw [if_pos hz2, hz2, h1]
      · rw [if_neg hz2]
        cases h3 : stored.contains z with
        | true => rw [if_pos rfl]
        | false => rw [if_neg Bool.false_ne_true]; exact h2 z hz hz2 h3
  have key : ∀ (o : Obj) (St : Nat → Heap → Prop), Walks prog w A s.heap.objs.size [s.heap.objs.size] [s.heap.objs.size] xt.cps.size (SignAt xt) St → St 0 (s.heap.push o) → (∀ i h, St i h → ∃ o, h.get? s.heap.objs.size = some o) →
      LoopAtV prog w A h₀ env x body Q E (.ref s.heap.objs.size) { s with heap := s.heap.push o } := by
    intro o St W hst alive
    refine ⟨_, _, _, _, _, St, m₀, (r₀, listOf (bls b₀).toArray n₀) :: rest, (fun i m₁ nx => ∃ r nn b, nx = (r, listOf (bls b).toArray nn) :: rest ∧ b = (xt.cps.toList.take i).foldl g b₀ ∧ b.length = b₀.length ∧ m₁ y = some (.ref r) ∧ (∀ z, z ≠ x → z ≠ y → stored.contains z = false → m₁ z = m₀ z) ∧ (∀ p ∈ rest, p.1 ≠ r)),
      rfl, W, ?_, ?_, ?_, hst, F.push _, (fun p hp => ⟨Heap.get?_push_of_some _ (N p (hsub p hp)).1, (N p (hsub p hp)).2⟩), ⟨r₀, n₀, b₀, rfl, rfl, rfl, hy, fun _ _ _ _ => rfl, hoff⟩, ?_, ?_⟩
    · intro hm
      exact absurd F.ns.lt ((List.mem_singleton.mp hm) ▸ Nat.lt_irrefl _)
    · intro b' hb
      rw [List.mem_singleton.mp hb]
      exact next_is_new F
    · intro p hp hI
      exact absurd (Heap.lt_size (N p (hsub p hp)).1) ((List.mem_singleton.mp hI) ▸ Nat.lt_irrefl _)
    · rintro i v m₁ nx s₁ own ⟨hh', tk', rfl⟩ hin hP ⟨r, nn, b, rfl, hb, hlen, h1, h2, hoff'⟩ hnw hown _ hall hst₁ F₁ N₁
      obtain ⟨c, t, hc, rfl⟩ := hP
      dsimp only at F₁ N₁ hst₁
      rw [mapE _ r m₁ h1 h2] at F₁
      have hrI : r ∉ [s.heap.objs.size] := hnw _ (.head _)
      have hr1 : ∀ p ∈ own ++ rest, p.1 ≠ r := fun p hp => (List.mem_append.mp hp).elim (fun q e => hrI (e ▸ hown p q)) fun q => hoff' p q
      have N₂ : News h₀ env.locals hh' ((r, listOf (bls b).toArray nn) :: (own ++ rest)) := fun p hp => by
        rcases List.mem_cons.mp hp with q | hp
        · exact N₁ p (List.mem_append_right _ (List.mem_cons.mpr (.inl q)))
        · rcases List.mem_append.mp hp with q | q
          · exact N₁ p (List.mem_append_left _ q)
          · exact N₁ p (List.mem_append_right _ (.tail _ q))
      refine wpAny_mono (turn i c b t r nn m₁ hh' tk' (own ++ rest) hc hlen hr1 F₁ N₂) (fun f s₂ p => ?_) fun _ _ e => e
      have fin : TxPost h₀ env.locals (g b c) (own ++ rest) x y stored m₀ { s with heap := hh', toks := tk' } .next s₂ → LoopStepU h₀ env.locals [s.heap.objs.size] own (fun m₁ nx => ∃ r nn b, nx = (r, listOf (bls b).toArray nn) :: rest ∧ b = (xt.cps.toList.take (i + 1)).foldl g b₀ ∧ b.length = b₀.length ∧ m₁ y = some (.ref r) ∧ (∀ z, z ≠ x → z ≠ y → stored.contains z = false → m₁ z = m₀ z) ∧ (∀ p ∈ rest, p.1 ≠ r)) { s with heap := hh', toks := tk' } .next s₂ := by
        rintro ⟨h', tk'', m', r', nn', b'', rfl, F₃, hy', hm', N₃, rfl, ho'⟩
        obtain ⟨oI, hoI⟩ := alive _ _ hst₁
        have hmI : (s.heap.objs.size, oI) ∈ own := hall _ (.head _) (next_is_new F) _ hoI
        have hne : s.heap.objs.size ≠ r' := ho' _ (List.mem_append_left _ hmI)
        refine ⟨rfl, h', tk'', m', (r', listOf (bls (g b c)).toArray nn') :: rest, rfl, F₃, ?_, ?_, r', nn', g b c, rfl, ?_, hg _ _ hlen, hy', hm', fun p hp => ho' p (List.mem_append_right _ hp)⟩
        · intro p hp
          rcases List.mem_append.mp hp with q | q
          · exact N₃ p (.tail _ (List.mem_append_left _ q))
          · rcases List.mem_cons.mp q with q | q
            · exact N₃ p (List.mem_cons.mpr (.inl q))
            · exact N₃ p (.tail _ (List.mem_append_right _ q))
        · intro p hp hI
          have e := List.mem_singleton.mp hI
          rcases List.mem_cons.mp hp with q | q
          · rw [q] at e; exact hne e.symm
          · exact hnw p (.tail _ q) hI
        · have hc' : xt.cps.toList[i]? = some c := by rw [← hc]; simp
          rw [List.take_add_one, hc', List.foldl_append, ← hb]
          rfl
      cases f with
      | next => exact .next (fin p)
      | cont => exact p.elim
      | brk => exact p.elim
      | ret v => exact p.elim
    · rintro h' tk' m' nx F' N' _ ⟨r, nn, b, rfl, hb, hlen, h1, h2, _⟩
      have hl : xt.cps.toList.take xt.cps.size = xt.cps.toList := List.take_of_length_le (by simp)
      rw [hl] at hb
      subst hb
      refine done m' r nn h' tk' ?_ N' hlen
      have e3 : (fun z => if z = x then m' z else if z = y then some (Value.ref r) else if stored.contains z then m' z else m₀ z) = m' := by
        funext z
        by_cases hz : z = x
        · rw [if_pos hz]
        · rw [if_neg hz]
          by_cases hz2 : z = y
          · rw [if_pos hz2, hz2, h1]
          · rw [if_neg hz2]
            cases h3 : stored.contains z with
            | true => rw [if_pos rfl]
            | false => rw [if_neg Bool.false_ne_true]; exact (h2 z hz hz2 h3).symm
      rw [e3]; exact F'
  cases ha : xt.cps.all (· < 128)
  · exact wpAny_pyIter_wide ha (key _ _ (Walks.strWide hh _ xt tx) ⟨_, Heap.get?_push_size _ rfl, rfl, rfl⟩ fun _ _ st => let ⟨o, ho, _⟩ := st; ⟨o, ho⟩)
  · exact wpAny_pyIter_ascii ha (key _ _ (Walks.strAscii hh _ xt tx) ⟨_, Heap.get?_push_size _ rfl, rfl, rfl⟩ fun _ _ st => let ⟨o, ho, _⟩ := st; ⟨o, ho⟩)
end
end Mine
end
section
open PySem PySem.W PySem.Calls PyProof.Rows PySem.Spec
namespace Mine
theorem pre_of {p t one maybe : Str} (h1 : p.length ≤ 8) (h2 : t.length ≤ 8) (h3 : one.length ≤ 8) (h4 : maybe.length ≤ 8) : takesPre p t one maybe := ⟨by omega, by omega, by omega⟩
theorem insl_len (c : Nat) : ∀ l : List Nat, (insl c l).length ≤ 2 * l.length
  | [] => Nat.le_refl _
  | k :: r => by
    have ih := insl_len c r
    unfold insl
    split
    · simp only [List.length_cons]; omega
    · simp only [List.length_cons]; omega
theorem del_len (c : Nat) : ∀ l : List Nat, (del c l).length ≤ l.length
  | [] => Nat.le_refl _
  | k :: r => by
    have ih := del_len c r
    unfold del
    split
    · simp only [List.length_cons]; omega
    · simp only [List.length_cons]; omega
theorem l1 : Str.ofString "*" = ⟨#[42]⟩ := by decide +kernel
theorem l2 : Str.ofString ".*" = ⟨#[46, 42]⟩ := by decide +kernel
theorem l3 : Str.ofString "?" = ⟨#[63]⟩ := by decide +kernel
theorem l4 : Str.ofString ".?" = ⟨#[46, 63]⟩ := by decide +kernel
theorem rl1 (x : Str) : (Txt.replace x (Str.ofString "*") (Str.ofString ".*")).length ≤ 2 * x.length := by
  rw [l1, l2, len_eq, replace_ins, len_eq x]; exact insl_len _ _
theorem rl2 (x : Str) : (Txt.replace x (Str.ofString "?") (Str.ofString ".?")).length ≤ 2 * x.length := by
  rw [l3, l4, len_eq, replace_ins, len_eq x]; exact insl_len _ _
theorem rl3 (x : Str) : (Txt.replace x (Str.ofString ".*") (Str.ofString "*")).length ≤ 2 * x.length := by
  rw [l1, l2, len_eq, replace_del _ _ (by decide), len_eq x]
  have := del_len 42 x.cps.toList
  omega
theorem rl4 (x : Str) : (Txt.replace x (Str.ofString ".?") (Str.ofString "?")).length ≤ 2 * x.length := by
  rw [l3, l4, len_eq, replace_del _ _ (by decide), len_eq x]
  have := del_len 63 x.cps.toList
  omega
theorem wrap_slice (p : Str) : Txt.slice (Str.ofString "^" ++ p ++ Str.ofString "$") (some 1) (some (-1)) = p := by
  have a1 : Str.ofString "^" = ⟨#[94]⟩ := by decide +kernel
  have a2 : Str.ofString "$" = ⟨#[36]⟩ := by decide +kernel
  rw [a1, a2]
  generalize hx : (Str.mk #[94] ++ p ++ Str.mk #[36]) = x
  have hc : x.cps.toList = 94 :: (p.cps.toList ++ [36]) := by
    rw [← hx]
    show ((#[94] ++ p.cps) ++ #[36]).toList = _
    simp
  have hl : x.length = p.length + 2 := by rw [len_eq, hc, len_eq p]; simp
  show StrLaws.sliceText x (some 1) (some (-1)) = p
  rw [StrLaws.sliceText_neg_hi x (some 1) (by decide) (by omega), StrLaws.sliceText_plain ⟨by decide, by omega, by rw [← len_eq]; omega⟩]
  refine str_ext ?_
  show ((x.cps.toList.drop 1).take _) = p.cps.toList
  rw [hc]
  have e : (-1 + (x.length : Int) - 1).toNat = p.cps.toList.length := by rw [← len_eq]; omega
  rw [e]
  simp
section
variable {prog : Program} {w : World} {A : Around} {E : Value → Shared → Prop} {s : Shared} {x x' y z : Str} {t u v : Tok} {h₀ : Heap} {L : Addr} {m : Str → Option Value} {news : List (Addr × Obj)} {Q : Value → Shared → Prop}
theorem rep_law (hu : @LT.lt Nat _ 0 u) (hv : @LT.lt Nat _ u v) (h1 : @LE.le Nat _ 1 s.toks) (hyz : (y == z) = false) (hx : x.length ≤ 1000) (hz : z.length ≤ 4) (hl : (Txt.replace x y z).length ≤ 2 * x.length)
    (h : ∀ t' (k : Nat) r, 1 ≤ k → r = Txt.replace x y z → r.length ≤ 2 * x.length → Q (.str r t') { s with toks := k }) : wpAny (model prog w) A (call (.builtin "str.replace") [.str x t, .str y u, .str z v]) Q E s :=
  wpAny_with_toks h1 (SC.replaceW (Nat.ne_of_gt hu) (Nat.ne_of_gt (Nat.lt_trans hu hv)) (Nat.ne_of_lt hv) hyz (by omega) (by omega) fun t' k hk => h t' k _ hk rfl hl)
theorem slice_law {value slice : PySem.Expr} {ui uj : Tok} (hq : Txt.slice x (some 1) (some (-1)) = x') (hF : Fr h₀ L s.heap m) (hN : News h₀ L s.heap news) (h1 : @LE.le Nat _ 1 s.toks) (hx : x.length ≤ 1000)
    (h : ∀ h' t' (k : Nat), 1 ≤ k → Fr h₀ L h' m → News h₀ L h' news → Q (.str x' t') { s with heap := h', toks := k })
    (hs : subscripted slice false (.str x t) (.ref s.heap.objs.size) = operate [.ref s.heap.objs.size, .str x t] (getItem (.str x t) (.ref s.heap.objs.size)))
    (ht : ∀ r, letTemporaryGo value (.str x t) r = pure ()) :
    wpAny (model prog w) A (subscriptTail value slice (.str x t) (.ref s.heap.objs.size)) Q E { s with heap := s.heap.push { cls := .type "slice", data := .fields #[.int 1 ui, .int (-1) uj, .none] } } := by
  subst hq
  refine wpAny_with_toks (n := 1) h1 (slice_strN_ss hF hN (fun h' t' k F N hk => h h' t' k hk F N) hs ht (by rw [sizeLine_eq]; omega))
theorem wrap_slice' {W W0 p : Str} (h0 : W0 = Str.ofString "^" ++ p) (h : W = W0 ++ Str.ofString "$") : Txt.slice W (some 1) (some (-1)) = p := by
  subst h0 h; exact wrap_slice p
theorem wrap_back' {p r1 r2 r3 r4 : Str} (h4 : r4 = Txt.replace r3 (Str.ofString ".?") (Str.ofString "?")) (h3 : r3 = Txt.replace r2 (Str.ofString ".*") (Str.ofString "*")) (h2 : r2 = Txt.replace r1 (Str.ofString "?") (Str.ofString ".?")) (h1 : r1 = Txt.replace p (Str.ofString "*") (Str.ofString ".*")) : r4 = p := by
  subst h1 h2 h3 h4; exact wrap_back p
theorem add_pre (hy : y.length ≤ 200) (h : ∀ t' k W, W = Str.ofString "^" ++ y → W.length = y.length + 1 → Q (.str W t') { s with toks := k }) : wpAny (model prog w) A (binaryOp .Add (.str (Str.ofString "^") t) (.str y u)) Q E s := by
  have e : (Str.ofString "^").length = 1 := by decide +kernel
  refine add_str (fun t' k => h t' k _ rfl ?_) (by rw [sizeLine_eq]; omega)
  rw [Str.length_append, e]; omega
theorem add_suf (hx : x.length ≤ 201) (h : ∀ t' k W, W = x ++ Str.ofString "$" → W.length = x.length + 1 → Q (.str W t') { s with toks := k }) : wpAny (model prog w) A (binaryOp .Add (.str x t) (.str (Str.ofString "$") u)) Q E s := by
  have e : (Str.ofString "$").length = 1 := by decide +kernel
  refine add_str (fun t' k => h t' k _ rfl ?_) (by rw [sizeLine_eq]; omega)
  rw [Str.length_append, e]
theorem sum_ones : ∀ {ss : List Str}, (∀ x ∈ ss, x.length = 1) → (ss.map (·.length)).sum = ss.length
  | [], _ => rfl
  | x :: r, h => by
    rw [List.map_cons, List.sum_cons, h x (.head _), sum_ones fun y hy => h y (.tail _ hy), List.length_cons]; omega
theorem join_law {D : Addr} {ys : List Value} {ss letters : List Str} (N : News h₀ L s.heap news) (hm : (D, LCg.lst ys) ∈ news) (hS : StrsAre ys ss) (hL : ∀ x ∈ ss, x ∈ letters) (hone : (letters.all fun x => x.length == 1) = true) (hl8 : ss.length ≤ 8)
    (h : ∀ pat t' k, pat.length ≤ 8 → Q (.str pat t') { s with toks := k }) : wpAny (model prog w) A (call (.builtin "str.join") [.str (Str.ofString "") t, .ref D]) Q E s := by
  have h1 : ∀ x ∈ ss, x.length = 1 := fun x hx => by
    have := List.all_eq_true.mp hone x (hL x hx)
    simpa using this
  have hsum := sum_ones h1
  have e0 : (Str.ofString "").length = 0 := by decide +kernel
  refine join_listW (items := ys.toArray) (News.isList N hm) (by simpa using hS) (by omega) (by omega) fun t' k => h _ t' k ?_
  have := StrLaws.join_length_le (Str.ofString "") ss
  show (Builtin.Str.glued (Str.ofString "") ss).length ≤ 8
  rw [StrLaws.glued_eq_join]
  rw [e0, hsum] at this
  omega
theorem ne_same {b : Bool} (h : Q (.bool false) s) : wpAny (model prog w) A (compareOp .NotEq (.bool b) (.bool b)) Q E s := by
  refine ne_bool ?_
  have : (b != b) = false := by simp
  rw [this]; exact h
end
end Mine
end
section
open PySem PySem.W PyProof.Rows
namespace Mine
set_option maxRecDepth 100000 in
set_option maxHeartbeats 8000000 in
open_top hd for PySem.Challenge.rw_fe0145_01
end Mine
end
section
open PySem PySem.W PyProof.Rows
namespace Mine
abbrev lawProg : Program := PySem.Challenge.rw_fe0145_01.row.prog
abbrev TopP (mean : ExcName → Option Value) (mg mb : Str → Option Value) (h : Heap) : Prop := Top hd.view_39 (looseW hd.view_39 []) mean mg mb h

def TakesC (w : World) (mean : ExcName → Option Value) (mg mb : Str → Option Value) (M : Nat) : Prop :=
  ∀ (p t one maybe : Str) (tp tt to tm : Tok) (dp un : Nat) (gd : Option (List Code)) (cn : Str) (cs : Scope) (a : Addr) (ccd : Value) (cl : List (Str × Addr)) (outer : List Env) (A₀ : Around) (base h₀ : Heap) (L : Addr) (m : Str → Option Value) (news : List (Addr × Obj)) (s : Shared) (Q E : Value → Shared → Prop),
    Below A₀ base outer h₀ → Fr h₀ L s.heap m → (hd.heap_39 w.params).In h₀ → News h₀ L s.heap news → Top hd.view_39 (looseW hd.view_39 []) mean mg mb h₀ → cs.kind = .function →
    takesPre p t one maybe → takesSz p t one maybe < M → dp + takesSz p t one maybe + 1 < recursionLimit → un + 8 * (takesSz p t one maybe + 1) < cLine →
    (∀ (h' : Heap) (tk' : Nat), Fr h₀ L h' m → News h₀ L h' news → Q (.bool (takesF p t one maybe)) { s with heap := h', toks := tk' }) →
    wpAny (model PySem.Challenge.rw_fe0145_01.row.prog w) (ktrTop dp un gd cn cs L a ccd cl outer) (call (.ref 21) [.str p tp, .str t tt, .str one to, .str maybe tm]) Q E s

theorem tk_end {p t one maybe : Str} {h₀ : Heap} {L : Addr} {m : Str → Option Value} {news news' : List (Addr × Obj)} {s : Shared} {Q : Value → Shared → Prop} {X : Bool} {h' : Heap} {tk' : Nat}
    (hret : ∀ (h' : Heap) (tk' : Nat), Fr h₀ L h' m → News h₀ L h' news → Q (.bool (takesF p t one maybe)) { s with heap := h', toks := tk' })
    (F : Fr h₀ L h' m) (N : News h₀ L h' news') (hs : ∀ p ∈ news, p ∈ news') (e : X = takesF p t one maybe) : Q (.bool X) { s with heap := h', toks := tk' } := by
  subst e
  exact hret _ _ F (fun q hq => N q (hs q hq))
theorem takes_use {w : World} {mean : ExcName → Option Value} {mg mb : Str → Option Value} {M : Nat} {p t one maybe : Str} {tp tt to tm : Tok} {dp un : Nat} {gd : Option (List Code)} {cn : Str} {cs : Scope} {a : Addr} {ccd : Value} {cl : List (Str × Addr)} {outer : List Env} {A₀ : Around} {base h₀ : Heap} {L : Addr} {m : Str → Option Value} {news : List (Addr × Obj)} {s : Shared} {Q E : Value → Shared → Prop}
    (C : TakesC w mean mg mb M) (B : Below A₀ base outer h₀) (F : Fr h₀ L s.heap m) (X : (hd.heap_39 w.params).In h₀) (N : News h₀ L s.heap news) (T : Top hd.view_39 (looseW hd.view_39 []) mean mg mb h₀) (hk : cs.kind = .function)
    (hpre : takesPre p t one maybe) (hsz : takesSz p t one maybe < M) (hd9 : dp + takesSz p t one maybe + 1 < recursionLimit) (hu9 : un + 8 * (takesSz p t one maybe + 1) < cLine)
    (ret : ∀ (h' : Heap) (tk' : Nat), Fr h₀ L h' m → News h₀ L h' news → Q (.bool (takesF p t one maybe)) { s with heap := h', toks := tk' }) :
    wpAny (model PySem.Challenge.rw_fe0145_01.row.prog w) (ktrTop dp un gd cn cs L a ccd cl outer) (call (.ref 21) [.str p tp, .str t tt, .str one to, .str maybe tm]) Q E s :=
  C _ _ _ _ _ _ _ _ _ _ _ _ _ _ _ _ _ _ _ _ _ _ _ _ _ _ B F X N T hk hpre hsz hd9 hu9 ret
local macro_rules | `(tactic| walk_at "call ref") => `(tactic| (k_here; k_dflt (refine' takes_use ?kC ?k1 ?k2 ?k3 ?k4 ?k5 ?kK ?kp ?kz ?kd ?ku ?_; (case kC => assumption); (case k1 => k_asm); (case k2 => k_asm); (case k3 => k_asm); (case k4 => k_asm); (case k5 => k_asm); (case kK => first | exact rfl | assumption); (case kp => (refine ⟨?_, ?_, ?_⟩; all_goals (repeat' (first | omega | rw [slice1_len])))); (case kz => (simp only [takesSz]; (repeat' (first | omega | rw [slice1_len])))); (case kd => (simp only [takesSz, Around.deeper] at *; (repeat' (first | omega | rw [slice1_len])))); (case ku => (simp only [takesSz, Around.deeper] at *; (repeat' (first | omega | rw [slice1_len])))); intro h9 tk9 F9 N9; (try dsimp only); (try k_fold))))
set_option maxRecDepth 100000 in
set_option maxHeartbeats 8000000 in
theorem takes_step (w : World) (mean : ExcName → Option Value) (mg mb : Str → Option Value) (M : Nat) (ih : TakesC w mean mg mb M) : TakesC w mean mg mb (M + 1) := by
  unfold TakesC
  k_fill
  intro p t one maybe tp tt to tm dp un gd cn cs a ccd cl outer A₀ base h₀ L m news s Q E B F X N T hk hpre hsz hd9 hu9 hret
  obtain ⟨hp1, hp2, hp3⟩ := hpre
  unfold takesSz at hsz hd9 hu9
  refine wpAny_call ?_
  k_dflt cell_enter
  k_steps
  all_goals (refine tk_end hret (by k_asm) (by k_asm) (by first | with_reducible exact fun q hq => hq | with_reducible exact fun q hq => List.mem_cons_of_mem _ hq | with_reducible exact fun q hq => List.mem_cons_of_mem _ (List.mem_cons_of_mem _ hq)) ?_)
  all_goals (first
    | exact w_yes (by omega) (by assumption) (by assumption)
    | exact w_short (by omega) (by first | exact w_no1 (by assumption) | exact w_no2 (by assumption)) (by assumption)
    | exact w_unfit (by omega) (by first | exact w_no1 (by assumption) | exact w_no2 (by assumption)) (by assumption)
    | exact w_star (by omega) (by first | exact w_no1 (by assumption) | exact w_no2 (by assumption)) (by assumption) (by assumption) (by assumption)
    | exact w_sign (by omega) (by first | exact w_no1 (by assumption) | exact w_no2 (by assumption)) (by assumption) (by assumption) (by assumption)
    | exact (takesF_nil (by omega)).symm)
end Mine
end
section
open PySem PySem.W PyProof.Rows
namespace Mine
set_option maxRecDepth 100000 in
set_option maxHeartbeats 8000000 in
theorem next_ok (w : World) (mean : ExcName → Option Value) (mg mb : Str → Option Value) :
  ∀ (st nu : Addr) (vs : List Value) (ns : List Int) (k : Int) (tk : Tok) (n₁ n₂ : Nat) (many : Int) (tm : Tok) (rest : List (Addr × Obj)) (dp un : Nat) (gd : Option (List Code)) (cn : Str) (cs : Scope) (a : Addr) (ccd : Value) (cl : List (Str × Addr)) (outer : List Env) (A₀ : Around) (base h₀ : Heap) (L : Addr) (m : Str → Option Value) (s : Shared) (Q E : Value → Shared → Prop),
    Below A₀ base outer h₀ → Fr h₀ L s.heap m → (hd.heap_39 w.params).In h₀ → News h₀ L s.heap ((st, listOf #[.ref nu, .int k tk] n₁) :: (nu, listOf vs.toArray n₂) :: rest) → nu ≠ st → OwnOff rest [st] → IntsAre vs ns →
    1 ≤ ns.length → ns.length ≤ 64 → (∀ x ∈ ns, 0 ≤ x ∧ x < 2000000) → 0 ≤ k → k ≤ 10000 → 1 ≤ many → many ≤ 10 →
    Top hd.view_39 (looseW hd.view_39 []) mean mg mb h₀ → cs.kind = .function → dp + 1 < recursionLimit → un + 8 < cLine →
    (∀ (v : Int) (t t2 : Tok) (h' : Heap) (tk' : Nat), 0 ≤ v → v < many → Fr h₀ L h' m → News h₀ L h' ((st, listOf #[.ref nu, .int (k + 1) t2] n₁) :: (nu, listOf vs.toArray n₂) :: rest) → Q (.int v t) { s with heap := h', toks := tk' }) →
    wpAny (model PySem.Challenge.rw_fe0145_01.row.prog w) (ktrTop dp un gd cn cs L a ccd cl outer) (call (.ref 70) [.ref st, .int many tm]) Q E s := by
  k_fill
  intro st nu vs ns k tk n₁ n₂ many tm rest dp un gd cn cs a ccd cl outer A₀ base h₀ L m s Q E B F X N hne hoff hI hl1 hl2 hns hk0 hk1 hm0 hm1 T hk hd9 hu9 hret
  have hq0 : 0 ≤ k.fdiv (ns.length : Int) := Int.fdiv_nonneg hk0 (by omega)
  have hq1 : k.fdiv (ns.length : Int) ≤ 10000 := by
    have h1 : k.fdiv (ns.length : Int) = k / (ns.length : Int) := Int.fdiv_eq_ediv_of_nonneg _ (by omega)
    rw [h1]
    exact Int.le_trans (Int.ediv_le_self _ hk0) hk1
  have hx : ∀ j : Nat, 0 ≤ ns.getD j 0 ∧ ns.getD j 0 < 2000000 := fun j => by
    rw [List.getD_eq_getElem?_getD]
    cases e : ns[j]? with
    | none => exact ⟨Int.le_refl _, by decide⟩
    | some x => exact hns x (List.mem_of_getElem? e)
  have hx1 := (hx (k.fmod ↑ns.length).toNat).1
  have hx2 := (hx (k.fmod ↑ns.length).toNat).2
  refine wpAny_call ?_
  k_dflt cell_enter
  k_steps
  all_goals (refine hret _ _ _ _ _ (Int.fmod_nonneg_of_pos _ (by omega)) (Int.fmod_lt_of_pos _ (by omega)) (by k_asm) (cb_drop (by k_asm) (by exact fun q hq => .tail _ hq)))
end Mine
end
section
open PySem PySem.W PyProof.Rows
namespace Mine
theorem tx_same {u u2 m₀ : Str → Option Value} {vr v1 v2 v3 : Option Value} (z : Str) (h1 : z ≠ Str.ofString "sign") (h2 : z ≠ Str.ofString "reach") (h3 : [Str.ofString "later", Str.ofString "at"].contains z = false) :
    (if z = Str.ofString "reach" then vr else if z = Str.ofString "at" then u2 z else if z = Str.ofString "later" then v1 else if z = Str.ofString "sign" then v2 else if z = Str.ofString "reach" then v3 else if [Str.ofString "later", Str.ofString "at"].contains z = true then u z else m₀ z) = m₀ z := by
  have h4 : z ≠ Str.ofString "later" := by
    intro e; subst e
    exact absurd h3 (by decide +kernel)
  have h5 : z ≠ Str.ofString "at" := by
    intro e; subst e
    exact absurd h3 (by decide +kernel)
  rw [if_neg h2, if_neg h5, if_neg h4, if_neg h1, if_neg h2, if_neg (by rw [h3]; exact Bool.false_ne_true)]
theorem tx_same2 {u u2 u3 m₀ : Str → Option Value} {vr v1 v2 v3 : Option Value} (z : Str) (h1 : z ≠ Str.ofString "sign") (h2 : z ≠ Str.ofString "reach") (h3 : [Str.ofString "later", Str.ofString "at"].contains z = false) :
    (if z = Str.ofString "reach" then vr else if z = Str.ofString "at" then u3 z else if z = Str.ofString "at" then u2 z else if z = Str.ofString "later" then v1 else if z = Str.ofString "sign" then v2 else if z = Str.ofString "reach" then v3 else if [Str.ofString "later", Str.ofString "at"].contains z = true then u z else m₀ z) = m₀ z := by
  have h5 : z ≠ Str.ofString "at" := by
    intro e; subst e
    exact absurd h3 (by decide +kernel)
  have := tx_same (u := u) (u2 := u2) (m₀ := m₀) (vr := vr) (v1 := v1) (v2 := v2) (v3 := v3) z h1 h2 h3
  rw [if_neg h2] at this ⊢
  rw [if_neg h5]
  exact this
theorem nw_skip {h₀ h' : Heap} {L : Addr} {q q' : Addr × Obj} {news : List (Addr × Obj)} (N : News h₀ L h' (q :: q' :: news)) : News h₀ L h' (q :: news) := fun p hp => (List.mem_cons.mp hp).elim (fun e => N p (e ▸ .head _)) fun e => N p (.tail _ (.tail _ e))
theorem ret_b {h₀ : Heap} {L : Addr} {m : Str → Option Value} {news news' : List (Addr × Obj)} {s : Shared} {Q : Value → Shared → Prop} {X Y : Bool} {h' : Heap} {tk' : Nat}
    (hret : ∀ (h' : Heap) (tk' : Nat), Fr h₀ L h' m → News h₀ L h' news → Q (.bool Y) { s with heap := h', toks := tk' })
    (F : Fr h₀ L h' m) (N : News h₀ L h' news') (hs : ∀ p ∈ news, p ∈ news') (e : X = Y) : Q (.bool X) { s with heap := h', toks := tk' } := by
  subst e
  exact hret _ _ F (fun q hq => N q (hs q hq))
def JoinB (h₀ : Heap) (L : Addr) (m : Str → Option Value) (D : Addr) (nn : Nat) (X : List Bool) (rest : List (Addr × Obj)) (s₁ : Shared) (f : Flow) (s₂ : Shared) : Prop :=
  f = .next ∧ ∃ h' tk X', s₂ = { s₁ with heap := h', toks := tk } ∧ Fr h₀ L h' m ∧ News h₀ L h' ((D, listOf (bls X').toArray nn) :: rest) ∧ X' = X
theorem JoinB.intro {h₀ h' : Heap} {L D : Addr} {m : Str → Option Value} {nn tk : Nat} {X X' : List Bool} {rest : List (Addr × Obj)} {s₁ : Shared} (F : Fr h₀ L h' m) (N : News h₀ L h' ((D, listOf (bls X').toArray nn) :: rest)) (e : X' = X) : JoinB h₀ L m D nn X rest s₁ .next { s₁ with heap := h', toks := tk } := ⟨rfl, h', tk, X', rfl, F, N, e⟩
theorem if_join {M : Model} {A : Around} {E : Value → Shared → Prop} {s : Shared} {env : Env} {h₀ : Heap} {L D : Addr} {m : Str → Option Value} {nn n : Nat} {rest : List (Addr × Obj)} {Z : List Bool} {Q : Flow → Shared → Prop} {st : Stmt} (X : List Bool) (_F : Fr h₀ L s.heap m) (_N : News h₀ L s.heap ((D, listOf (bls Z).toArray nn) :: rest)) (hX : X.length = n)
    (h : wpAny M A (exec st env) (JoinB h₀ L m D nn X rest s) E s)
    (k : ∀ h' tk Y, Y = X → Y.length = n → Fr h₀ L h' m → News h₀ L h' ((D, listOf (bls Y).toArray nn) :: rest) → Q .next { s with heap := h', toks := tk }) : wpAny M A (exec st env) Q E s :=
  wpAny_mono h (fun f s' hj => by
    obtain ⟨rfl, h', tk, X', rfl, F', N', e⟩ := hj
    exact k h' tk X' e (e ▸ hX) F' N') fun _ _ e => e
structure Mark : Prop where
  x : True
def ifA (maybe : Str) (c : Nat) (l : List Bool) (j : Nat) : List Bool := if sOpt maybe c = true then l.set j true else l
def ifB (t one maybe : Str) (c : Nat) (l : List Bool) (j : Nat) : List Bool := if decide (j < t.length) = true ∧ sFit t one maybe c j = true then l.set (j + 1) true else l
theorem ifA_len {maybe : Str} {c : Nat} {l : List Bool} {j n : Nat} (h : l.length = n) : (ifA maybe c l j).length = n := by unfold ifA; (split <;> first | exact h | (rw [List.length_set]; exact h))
theorem ifB_len {t one maybe : Str} {c : Nat} {l : List Bool} {j n : Nat} (h : l.length = n) : (ifB t one maybe c l j).length = n := by unfold ifB; (split <;> first | exact h | (rw [List.length_set]; exact h))
theorem jA_T {maybe : Str} {c : Nat} {l : List Bool} {j : Nat} (o : sOpt maybe c = true) : l.set (j : Int).toNat true = ifA maybe c l j := by unfold ifA; rw [toN, if_pos o]
theorem jA_F {maybe : Str} {c : Nat} {l : List Bool} {j : Nat} (o : sOpt maybe c = false) : l = ifA maybe c l j := by unfold ifA; rw [if_neg (by rw [o]; exact Bool.false_ne_true)]
theorem jB_T {t one maybe : Str} {c : Nat} {l : List Bool} {j : Nat} (h : j < t.length) (f : sFit t one maybe c j = true) : l.set ((j : Int) + 1).toNat true = ifB t one maybe c l j := by unfold ifB; rw [toN1, if_pos ⟨decide_eq_true h, f⟩]
theorem jB_L {t one maybe : Str} {c : Nat} {l : List Bool} {j : Nat} (h : ¬ j < t.length) : l = ifB t one maybe c l j := by unfold ifB; rw [if_neg (fun x => h (of_decide_eq_true x.1))]
theorem jB_F {t one maybe : Str} {c : Nat} {l : List Bool} {j : Nat} (f : sFit t one maybe c j = false) : l = ifB t one maybe c l j := by unfold ifB; rw [if_neg (fun x => by rw [f] at x; exact Bool.false_ne_true x.2)]
theorem j_all {t one maybe : Str} {c : Nat} {b l Y Z : List Bool} {j : Nat} (h : b.getD (j : Int).toNat false = true) (hZ : Z = ifB t one maybe c Y j) (hY : Y = ifA maybe c l j) : Z = st1a t one maybe c b l j := by
  rw [toN] at h
  subst hY hZ
  unfold st1a ifB ifA
  rw [if_pos h]
theorem nw_tail {h₀ h' : Heap} {L : Addr} {q : Addr × Obj} {news : List (Addr × Obj)} (N : News h₀ L h' (q :: news)) : News h₀ L h' news := fun p hp => N p (.tail _ hp)
local macro_rules | `(tactic| walk_at "binaryOp Mult ref int") => `(tactic| (k_here; (with_reducible show wpAny _ _ (binaryOp Operator.Mult (Value.ref _) (Value.int _ _)) _ _ _); k_dflt (refine' b_mul ?F ?N ?m ?lo ?hi ?_; (case F => k_asm); (case N => k_asm); (case m => k_mem); (case lo => omega); (case hi => omega)); intro D' h' F' N' l1; (try k_lt l1)))
local macro_rules | `(tactic| walk_at "binaryOp Add ref ref") => `(tactic| (k_here; (with_reducible show wpAny _ _ (binaryOp _ (Value.ref _) (Value.ref _)) _ _ _); k_dflt (refine' b_addT ?F ?N ?m ?m2 ?z ?_; (case F => k_asm); (case N => k_asm); (case m => k_mem); (case m2 => k_mem); (case z => (simp only [List.length_replicate]; omega))); intro D' h' F' N' l1; (try k_lt l1)))
local macro_rules | `(tactic| walk_at "subscriptTail") => `(tactic| (k_here; (with_reducible show wpAny _ _ (subscriptTail _ _ (Value.ref _) (Value.int _ _)) _ _ _); k_dflt (refine' b_sub ?k1 ?k2 ?k4 ?k5 ?k6 ?_ ?k7; (case k1 => k_asm); (case k2 => k_mem); (case k4 => omega); (case k5 => ((try simp only [List.length_set]); omega)); (case k6 => omega); (case k7 => with_unfolding_all rfl); k_whole)))
local macro_rules | `(tactic| walk_at "setItem ref int") => `(tactic| (k_here; (with_reducible show wpAny _ _ (setItem (Value.ref _) (Value.int _ _) (Value.bool _)) _ _ _); k_dflt (refine' b_set ?k1 ?k2 ?k3 ?k5 ?k6 ?k7 ?_; (case k1 => k_asm); (case k2 => k_asm); (case k3 => k_upd); (case k5 => omega); (case k6 => ((try simp only [List.length_set]); omega)); (case k7 => omega); k_whole); intro h' F' N'; (try k_sweep)))
local macro_rules | `(tactic| walk_at "exec If") => `(tactic| (k_here; (with_reducible show wpAny _ _ (exec (Stmt.If _ [Stmt.Assign [PySem.Expr.Subscript _ _ _] _ _] [] _) _) _ _ _); (with_reducible rename Mark => mk9); refine Stop.out ?_))
local macro_rules | `(tactic| walk_at "pyIter ref") => `(tactic| (k_here; refine Stop.out ?_))
local macro_rules | `(tactic| walk_at "pyIter str") => `(tactic| (k_here; refine Stop.out ?_))
local macro_rules | `(tactic| walk_at "exec For") => `(tactic| (k_here; (rename Fr _ _ _ _ => lF'); (with_unfolding_all refine' For_invVF lF' ?k1 ?k2 ?_; (case k1 => exact rfl); (case k2 => exact rfl); k_whole)))
set_option maxRecDepth 100000 in
set_option maxHeartbeats 8000000 in
theorem taken_ok (w : World) (mean : ExcName → Option Value) (mg mb : Str → Option Value) :
  ∀ (p t one maybe : Str) (tp tt to tm : Tok) (dp un : Nat) (gd : Option (List Code)) (cn : Str) (cs : Scope) (a : Addr) (ccd : Value) (cl : List (Str × Addr)) (outer : List Env) (A₀ : Around) (base h₀ : Heap) (L : Addr) (m : Str → Option Value) (news : List (Addr × Obj)) (s : Shared) (Q E : Value → Shared → Prop),
    Below A₀ base outer h₀ → Fr h₀ L s.heap m → (hd.heap_39 w.params).In h₀ → News h₀ L s.heap news → Top hd.view_39 (looseW hd.view_39 []) mean mg mb h₀ → cs.kind = .function →
    p.length ≤ 8 → t.length ≤ 8 → one.length ≤ 8 → maybe.length ≤ 8 → dp + 1 < recursionLimit → un + 8 < cLine →
    (∀ (h' : Heap) (tk' : Nat), Fr h₀ L h' m → News h₀ L h' news → Q (.bool (takenG p t one maybe)) { s with heap := h', toks := tk' }) →
    wpAny (model PySem.Challenge.rw_fe0145_01.row.prog w) (ktrTop dp un gd cn cs L a ccd cl outer) (call (.ref 82) [.str p tp, .str t tt, .str one to, .str maybe tm]) Q E s := by
  k_fill
  intro p t one maybe tp tt to tm dp un gd cn cs a ccd cl outer A₀ base h₀ L m news s Q E B F X N T hk hl1 hl2 hl3 hl4 hd9 hu9 hret
  refine wpAny_call ?_
  k_dflt cell_enter
  k_steps
  unfold Stop
  (rename (_ < _ ∧ _ < _ ∧ _ < _ ∧ AllLt _ _) => hLt)
  (rename Fr _ _ _ _ => hF)
  (rename News _ _ _ _ => hN)
  refine bl_text (rest := news) (y := Str.ofString "reach") [Str.ofString "later", Str.ofString "at"] (turnB t one maybe) (true :: List.replicate t.length false) _ rfl hF hN (List.forall_mem_cons.mpr ⟨List.Mem.head _, fun q hq => .tail _ (.tail _ (.tail _ (.tail _ hq)))⟩) rfl (fun b c _ => by rw [turnB_len, List.length_cons, List.length_replicate]) ?turn (fun q hq => Nat.ne_of_lt (ktn_ltOf hLt.2.2.2 q hq)) ?done
  case turn =>
    clear hF hN hLt
    intro i c b t' r nn u h tk rest₁ hc hlen hoff1 F1 N1
    k_fold
    k_steps
    unfold Stop
    (rename (_ < _ ∧ _ < _ ∧ AllLt _ _) => hLt)
    (rename Fr _ _ _ _ => hF)
    (rename News _ _ _ _ => hN)
    (rename IsRange _ _ _ _ _ _ _ _ => hR)
    have e9 : ((t.length : Int) + 1).toNat = t.length + 1 := by omega
    rw [e9] at hN
    refine bl_range (R := r) (oR := listOf (bls b).toArray nn) (rest := rest₁) (t.length + 1) (st1 t one maybe c b) (List.replicate (t.length + 1) false) _ rfl hR rfl (by omega) (by omega) hF hN (List.forall_mem_cons.mpr ⟨List.Mem.head _, List.forall_mem_cons.mpr ⟨.tail _ (.tail _ (.head _)), fun q hq => .tail _ (.tail _ (.tail _ hq))⟩⟩) (st1_len _ _ _ _ _) ?turn1 (neN (Nat.ne_of_gt hLt.2.1)) (fun q hq => Nat.ne_of_lt (ktn_ltOf hLt.2.2 q hq)) ?done1
    case turn1 =>
      clear hF hN hLt hR
      intro j c' tj h5 tk5 rest₂ hj hlc hoff2 hne F2 N2
      k_fold
      have hne9 := neN (Ne.symm hne)
      have hOwn : OwnOff rest₂ [_] := fun q hq d hd => (List.mem_singleton.mp hd) ▸ hoff2 q hq
      rw [List.length_replicate] at hlc
      rw [List.length_cons, List.length_replicate] at hlen
      have mk := Mark.mk trivial
      k_steps
      · unfold Stop
        (rename Mark => mk8)
        refine if_join (n := t.length + 1) (ifA maybe c c' j) (by k_asm) (by k_asm) (ifA_len hlc) ?ia ?ka
        case ia =>
          clear mk8
          k_steps
          all_goals (refine JoinB.intro (by k_asm) (by first | k_asm | exact nw_tail (by k_asm)) ?_)
          all_goals (first | exact jA_T (by first | exact oT1 (by assumption) | exact oT2 (by assumption) (by assumption)) | exact jA_F (by first | exact oF1 (by assumption) (by assumption) | exact oF2 (by assumption) (by assumption)))
        case ka =>
          intro h6 tk6 Y hY hYl F3 N3
          k_steps
          unfold Stop
          (rename Mark => mk7)
          refine if_join (n := t.length + 1) (ifB t one maybe c Y j) (by k_asm) (by k_asm) (ifB_len hYl) ?ib ?kb
          case ib =>
            clear mk7
            k_steps
            all_goals (refine JoinB.intro (by k_asm) (by first | k_asm | exact nw_tail (by k_asm)) ?_)
            all_goals (first
              | exact jB_T (by omega) (by first | exact fT1 (by assumption) | exact fT2 (by assumption) (by assumption))
              | exact jB_F (by first | exact fF1 (by assumption) (by assumption) | exact fF2 (by assumption) (by assumption))
              | exact jB_L (by omega))
          case kb =>
            intro h7 tk7 Z hZ hZl F4 N4
            k_steps
            unfold Stop
            (rename Mark => mk6)
            clear mk6
            k_steps
            all_goals (refine BlPost.intro (by k_asm) (by k_asm) (by exact fun z hz => if_neg hz) ?_)
            all_goals (first | refine z_S ?_ (by assumption) | refine z_V ?_ (by assumption) | refine z_L ?_ (by omega) | refine z_1 ?_ (by assumption) (by assumption) (by omega))
            all_goals (exact j_all (by assumption) hZ hY)
      · unfold Stop
        (rename Mark => mk8)
        clear mk8
        k_steps
        all_goals (refine BlPost.intro (by k_asm) (by k_asm) (by exact fun z hz => if_neg hz) ?_)
        all_goals (first | refine z_S ?_ (by assumption) | refine z_V ?_ (by assumption) | refine z_L ?_ (by omega) | refine z_1 ?_ (by assumption) (by assumption) (by omega))
        all_goals (exact a_0 (by assumption))
    case done1 =>
      clear hF hN hR
      intro u2 h6 tk6 F3 N3 hl3
      rw [List.length_replicate] at hl3
      k_steps
      · unfold Stop
        (rename Fr _ _ _ _ => hF)
        (rename News _ _ _ _ => hN)
        (rename IsRange _ _ _ _ _ _ _ _ => hR)
        refine bl_range (R := r) (oR := listOf (bls b).toArray nn) (rest := rest₁) t.length st2 ((List.range (t.length + 1)).foldl (st1 t one maybe c b) (List.replicate (t.length + 1) false)) _ rfl hR rfl rfl (by omega) hF hN (fun q hq => hq) st2_len ?turn2 (neN (Nat.ne_of_gt hLt.2.1)) (fun q hq => Nat.ne_of_lt (ktn_ltOf hLt.2.2 q hq)) ?done2
        case turn2 =>
          clear hF hN hR
          intro j c' tj h5 tk5 rest₂ hj hlc hoff2 hne F2 N2
          k_fold
          have hne9 := neN (Ne.symm hne)
          have hOwn : OwnOff rest₂ [_] := fun q hq d hd => (List.mem_singleton.mp hd) ▸ hoff2 q hq
          rw [hl3] at hlc
          k_steps
          all_goals (refine BlPost.intro (by k_asm) (by k_asm) (by exact fun z hz => if_neg hz) ?_)
          all_goals (first | exact y_1 (by assumption) | exact y_0 (by assumption) | exact y_1' (by assumption))
        case done2 =>
          clear hF hN hR
          intro u3 h7 tk7 F4 N4 hl4
          k_steps
          all_goals (refine TxPost.intro (by k_asm) (by rfl) (nw_skip (by k_asm)) (by first | exact tx_same | exact tx_same2) ?_ (fun q hq => Nat.ne_of_lt (ktn_ltOf hLt.2.2 q hq)))
          all_goals (unfold turnB; rw [if_pos (by assumption)])
      · (refine TxPost.intro (by k_asm) (by rfl) (nw_skip (by k_asm)) (by first | exact tx_same | exact tx_same2) ?_ (fun q hq => Nat.ne_of_lt (ktn_ltOf hLt.2.2 q hq)))
        unfold turnB; rw [if_neg (by first | assumption | (intro h9; simp_all))]
  case done =>
    clear hF hN
    intro u6 r6 n6 h6 tk6 F3 N3 hl3
    rw [List.length_cons, List.length_replicate] at hl3
    k_steps
    all_goals (exact ret_b hret (by k_asm) (by k_asm) (fun q hq => .tail _ hq) rfl)
end Mine
end
section
open PySem PySem.W PySem.Calls PyProof.Rows PySem.Spec
namespace Mine
theorem next_law {w : World} {mean : ExcName → Option Value} {mg mb : Str → Option Value} {st nu : Addr} {vs : List Value} {ns : List Int} {k : Int} {tk : Tok} {n₁ n₂ : Nat} {many : Int} {tm : Tok} {all : List (Addr × Obj)} {g : Obj → List (Addr × Obj)} {dp un : Nat} {gd : Option (List Code)} {cn : Str} {cs : Scope} {a : Addr} {ccd : Value} {cl : List (Str × Addr)} {outer : List Env} {A₀ : Around} {base h₀ : Heap} {L : Addr} {m : Str → Option Value} {s : Shared} {Q E : Value → Shared → Prop}
    (B : Below A₀ base outer h₀) (F : Fr h₀ L s.heap m) (X : (hd.heap_39 w.params).In h₀) (N : News h₀ L s.heap all) (T : Top hd.view_39 (looseW hd.view_39 []) mean mg mb h₀) (hk : cs.kind = .function)
    (U : UpdF st (listOf #[.ref nu, .int k tk] n₁) all g) (hnu : (nu, listOf vs.toArray n₂) ∈ all) (hne : nu ≠ st) (hI : IntsAre vs ns) (hl1 : 1 ≤ ns.length) (hl2 : ns.length ≤ 64) (hx : ∀ x ∈ ns, 0 ≤ x ∧ x < 2000000)
    (hk0 : 0 ≤ k) (hk1 : k ≤ 10000) (hm0 : 1 ≤ many) (hm1 : many ≤ 10) (hd9 : dp + 1 < recursionLimit) (hu9 : un + 8 < cLine)
    (ret : ∀ (v : Int) (t t2 : Tok) (h' : Heap) (tk' : Nat), 0 ≤ v → v < many → Fr h₀ L h' m → News h₀ L h' (g (listOf #[.ref nu, .int (k + 1) t2] n₁)) → Q (.int v t) { s with heap := h', toks := tk' }) :
    wpAny (model PySem.Challenge.rw_fe0145_01.row.prog w) (ktrTop dp un gd cn cs L a ccd cl outer) (call (.ref 70) [.ref st, .int many tm]) Q E s := by
  obtain ⟨pre, post, e, eg, hp, hq⟩ := U.split
  have hoff : ∀ p ∈ pre ++ post, p.1 ≠ st := fun p hm => (List.mem_append.mp hm).elim (hp p) (hq p)
  refine next_ok w mean mg mb st nu vs ns k tk n₁ n₂ many tm (pre ++ post) dp un gd cn cs a ccd cl outer A₀ base h₀ L m s Q E B F X ?_ hne (fun p hm b hb => (List.mem_singleton.mp hb) ▸ hoff p hm) hI hl1 hl2 hx hk0 hk1 hm0 hm1 T hk hd9 hu9 ?_
  · intro p hm
    rcases List.mem_cons.mp hm with q | hm
    · exact N p (by rw [e, q]; exact List.mem_append_right _ (.head _))
    · rcases List.mem_cons.mp hm with q | hm
      · exact N p (q ▸ hnu)
      · rcases List.mem_append.mp hm with q | q
        · exact N p (by rw [e]; exact List.mem_append_left _ q)
        · exact N p (by rw [e]; exact List.mem_append_right _ (.tail _ q))
  · intro v t t2 h' tk' hv0 hv1 F' N'
    refine ret v t t2 h' tk' hv0 hv1 F' ?_
    rw [eg]
    intro p hm
    rcases List.mem_append.mp hm with q | q
    · exact N' p (.tail _ (.tail _ (List.mem_append_left _ q)))
    · rcases List.mem_cons.mp q with q | q
      · exact N' p (q ▸ .head _)
      · exact N' p (.tail _ (.tail _ (List.mem_append_right _ q)))

section
variable {prog : Program} {w : World} {A : Around} {E : Value → Shared → Prop} {s : Shared} {h₀ : Heap} {L : Addr} {m : Str → Option Value} {env : Env}
theorem compEnd_mono {s₁ s₂ : Shared} {I C D : Addr} {oI oC oD : Obj} {S : List (Addr × Obj) → Prop} {r r' : Value → List (Addr × Obj) → Prop} {y : Value} (hr : ∀ y n, r y n → r' y n) (h : LCg.CompEnd h₀ L m s₁ I oI C oC D oD S r y s₂) : LCg.CompEnd h₀ L m s₁ I oI C oC D oD S r' y s₂ := by
  obtain ⟨h', tk, news', e, F, N, off, hS, hrest⟩ := h
  exact ⟨h', tk, news', e, F, N, off, hS, hr _ _ hrest⟩
theorem comp_ind {elt : Expr} {x : Str} {scope : Scope} {cl : List (Str × Addr)} {S : List (Addr × Obj) → Prop} {P : Nat → Value → Prop} {Fin : List Value → List (Addr × Obj) → Prop} (n : Nat) (J : List Value → List (Addr × Obj) → Prop)
    (step : ∀ ys news, ys.length < n → J ys news → ∀ v I oI C oC D m₂ h tk (E' : Value → Shared → Prop), LCg.NsObj oC m₂ → m₂ x = some v → Fr h₀ L h m → News h₀ L h ((I, oI) :: (C, oC) :: (D, LCg.lst ys) :: news) → LCg.Off3 I C D news → ((@Ne Nat I C) ∧ (@Ne Nat I D) ∧ (@Ne Nat C D)) →
      wpAny (model prog w) A (eval elt (compEnvC scope cl C env)) (LCg.CompEnd h₀ L m { s with heap := h, toks := tk } I oI C oC D (LCg.lst ys) S (fun y news' => J (ys ++ [y]) news')) E' { s with heap := h, toks := tk })
    (fin : ∀ ys news, ys.length = n → J ys news → Fin ys news) :
    ∀ k i ys news, ys.length + k = n → J ys news → LCg.CompRest prog w A h₀ L m env elt x scope cl s S P Fin k i ys news := by
  intro k
  induction k with
  | zero => intro i ys news hl hJ; exact LCg.CompRest.zero (fin ys news hl hJ)
  | succ k ih =>
    intro i ys news hl hJ
    refine LCg.CompRest.succ ?_
    intro v I oI C oC D m₂ h tk E' _ hC hx F N off ne
    refine wpAny_mono (step ys news (by omega) hJ v I oI C oC D m₂ h tk E' hC hx F N off ne) (fun y s₂ he => ?_) fun _ _ e => e
    refine compEnd_mono (fun y news' hJ' => ?_) he
    exact ih (i + 1) (ys ++ [y]) news' (by rw [List.length_append, List.length_singleton]; omega) hJ'

def ElPost (h₀ : Heap) (L : Addr) (m : Str → Option Value) (letters : List Str) (st nu : Addr) (n₁ : Nat) (k : Int) (I : Addr) (oI : Obj) (C : Addr) (oC : Obj) (D : Addr) (ys : List Value) (more : List (Addr × Obj)) (s₁ : Shared) (y : Value) (s₂ : Shared) : Prop :=
  ∃ h' tk x t t', y = .str x t ∧ x ∈ letters ∧ s₂ = { s₁ with heap := h', toks := tk } ∧ Fr h₀ L h' m ∧ News h₀ L h' ((I, oI) :: (C, oC) :: (D, LCg.lst ys) :: (st, listOf #[.ref nu, .int (k + 1) t'] n₁) :: more)
theorem ElPost.intro {letters : List Str} {st nu : Addr} {n₁ : Nat} {k : Int} {I C D : Addr} {oI oC : Obj} {ys : List Value} {more news : List (Addr × Obj)} {s₁ : Shared} {x : Str} {t t' : Tok} {h' : Heap} {tk : Nat} (hx : x ∈ letters) (F : Fr h₀ L h' m)
    (N : News h₀ L h' news) (hs : ∀ p ∈ (I, oI) :: (C, oC) :: (D, LCg.lst ys) :: (st, listOf #[.ref nu, .int (k + 1) t'] n₁) :: more, p ∈ news) : ElPost h₀ L m letters st nu n₁ k I oI C oC D ys more s₁ (.str x t) { s₁ with heap := h', toks := tk } := ⟨h', tk, x, t, t', rfl, hx, rfl, F, fun p hp => N p (hs p hp)⟩
theorem rsz {v : Int} (h : 0 ≤ v) : Builtin.Range.rangeSize 0 v 1 = ((v.toNat : Nat) : Int) := by
  obtain ⟨n, rfl⟩ : ∃ n : Nat, v = (n : Int) := ⟨v.toNat, by omega⟩
  rw [Int.toNat_natCast]
  exact rangeSize_nat _ _
theorem lt_comp {elt : Expr} {x : Str} {scope : Scope} {cl : List (Str × Addr)} {Fin : Shared → List Value → List (Addr × Obj) → Prop} {st nu r : Addr} {n₁ : Nat} {k v : Int} {t' t₁ t₂ t₃ : Tok} {more news : List (Addr × Obj)} (letters : List Str)
    (hh : A.handled = none) (F : Fr h₀ L s.heap m) (N : News h₀ L s.heap news) (hsub : ∀ p ∈ (st, listOf #[.ref nu, .int k t'] n₁) :: more, p ∈ news) (hr : IsRange s.heap r 0 v 1 t₁ t₂ t₃) (hv0 : 0 ≤ v) (hv1 : v ≤ 8) (hk : 0 ≤ k)
    (step : ∀ (k' : Int) (t'' : Tok) ys I oI C oC D (m₂ : Str → Option Value) vx h tk (E' : Value → Shared → Prop), 0 ≤ k' → k' ≤ k + 8 → LCg.NsObj oC m₂ → m₂ x = some vx → Fr h₀ L h m → News h₀ L h ((I, oI) :: (C, oC) :: (D, LCg.lst ys) :: (st, listOf #[.ref nu, .int k' t''] n₁) :: more) →
      (∀ p ∈ (st, listOf #[.ref nu, .int k' t''] n₁) :: more, p.1 ≠ I ∧ p.1 ≠ C ∧ p.1 ≠ D) →
      wpAny (model prog w) A (eval elt (compEnvC scope cl C env)) (ElPost h₀ L m letters st nu n₁ k' I oI C oC D ys more { s with heap := h, toks := tk }) E' { s with heap := h, toks := tk })
    (fin : ∀ (k' : Int) (t'' : Tok) g ys ss, 0 ≤ k' → k' ≤ k + 8 → StrsAre ys ss → ss.length ≤ 8 → (ss.length : Int) ≤ v → (∀ x ∈ ss, x ∈ letters) → Fin { s with heap := g } ys ((st, listOf #[.ref nu, .int k' t''] n₁) :: more)) :
    LCg.CompSrc prog w A h₀ L m env elt x scope cl Fin (.ref r) s := by
  have hst : ∀ p ∈ (st, listOf #[.ref nu, .int k t'] n₁) :: more, p ∈ news := hsub
  refine LCg.CompSrc.range (n := v.toNat) hh F (fun p hp => N p (hst p hp)) hr (small_one (by omega) (by omega) (by omega) (by omega)) (rsz hv0) (by have : sizeLine = 2 ^ 24 := sizeLine_eq; omega) ?_
  intro g
  refine comp_ind (s := { s with heap := g }) v.toNat (fun ys nws => ∃ (k' : Int) (t'' : Tok) (ss : List Str), nws = (st, listOf #[.ref nu, .int k' t''] n₁) :: more ∧ k' = k + (ys.length : Int) ∧ StrsAre ys ss ∧ ∀ x ∈ ss, x ∈ letters) ?_ ?_ v.toNat 0 [] _ (by simp) ⟨k, t', [], rfl, by simp, .nil, fun _ h => nomatch h⟩
  · rintro ys nws hlt ⟨k', t'', ss, rfl, hk', hS, hL⟩ vx I oI C oC D m₂ h tk E' hC hx F₁ N₁ off ne
    refine wpAny_mono (step k' t'' ys I oI C oC D m₂ vx h tk E' (by omega) (by omega) hC hx F₁ N₁ (LCg.Off3.mem off)) (fun y s₂ he => ?_) fun _ _ e => e
    obtain ⟨h', tk', x', t3, t4, rfl, hx', rfl, F₂, N₂⟩ := he
    refine ⟨h', tk', (st, listOf #[.ref nu, .int (k' + 1) t4] n₁) :: more, rfl, F₂, N₂, ?_, trivial, k' + 1, t4, ss ++ [x'], rfl, ?_, hS.append' (.cons _ _ .nil), ?_⟩
    · exact LCg.Off3.of fun p hp => by
        rcases List.mem_cons.mp hp with q | hp
        · rw [q]; exact LCg.Off3.mem off (st, listOf #[.ref nu, .int k' t''] n₁) (.head _)
        · exact LCg.Off3.mem off p (.tail _ hp)
    · rw [List.length_append, List.length_singleton]; omega
    · intro z hz
      rcases List.mem_append.mp hz with q | q
      · exact hL z q
      · rw [List.mem_singleton.mp q]; exact hx'
  · rintro ys nws hlen ⟨k', t'', ss, rfl, hk', hS, hL⟩
    have hl := hS.length
    exact fin k' t'' g ys ss (by omega) (by omega) hS (by omega) (by omega) hL

def LwPost (h₀ : Heap) (L : Addr) (st nu : Addr) (n₁ : Nat) (k : Int) (rest : List (Addr × Obj)) (x : Str) (stored : List Str) (m₀ : Str → Option Value) (s₁ : Shared) (f : Flow) (s₂ : Shared) : Prop :=
  match f with
  | .next => ∃ h' tk m' k' t', s₂ = { s₁ with heap := h', toks := tk } ∧ Fr h₀ L h' m' ∧ (∀ z, z ≠ x → stored.contains z = false → m' z = m₀ z) ∧ News h₀ L h' ((st, listOf #[.ref nu, .int k' t'] n₁) :: rest) ∧ 0 ≤ k' ∧ k' ≤ k + 40
  | _ => False
theorem LwPost.intro {st nu : Addr} {n₁ : Nat} {k k' : Int} {t' : Tok} {rest : List (Addr × Obj)} {x : Str} {stored : List Str} {m₀ m' : Str → Option Value} {s₁ : Shared} {h' : Heap} {tk : Nat} (F : Fr h₀ L h' m') (N : News h₀ L h' ((st, listOf #[.ref nu, .int k' t'] n₁) :: rest))
    (hm : ∀ z, z ≠ x → stored.contains z = false → m' z = m₀ z) (h0 : 0 ≤ k') (h1 : k' ≤ k + 40) : LwPost h₀ L st nu n₁ k rest x stored m₀ s₁ .next { s₁ with heap := h', toks := tk } := ⟨h', tk, m', k', t', rfl, F, hm, N, h0, h1⟩
theorem law_loop {x : Str} {body : List Stmt} {Q : Flow → Shared → Prop} {st nu cA r : Addr} {a₀ b₀ : Int} {t₀ u₀ v₀ : Tok} {n₁ : Nat} {oNu oC : Obj} {k₀ : Int} {tk₀ : Tok} {m₀ : Str → Option Value} (num : Nat) (stored : List Str) (news : List (Addr × Obj))
    (hh : A.handled = none) (hr : IsRange s.heap r a₀ b₀ 1 t₀ u₀ v₀) (ha : a₀ = 0) (hb : b₀ = (num : Int)) (hnum : num ≤ 100) (F : Fr h₀ env.locals s.heap m₀) (N : News h₀ env.locals s.heap news) (hsub : ∀ p ∈ [(st, listOf #[.ref nu, .int k₀ tk₀] n₁), (nu, oNu), (cA, oC)], p ∈ news)
    (h1 : @Ne Nat nu st) (h2 : @Ne Nat cA st) (h3 : @Ne Nat nu cA) (hk : k₀ = 0)
    (turn : ∀ (m₁ : Str → Option Value) (i : Nat) (k : Int) (t' t : Tok) (u : Str → Option Value) h tk rest₁, i < num → 0 ≤ k → k ≤ 40 * (i : Int) → @Ne Nat nu st → @Ne Nat cA st → @Ne Nat nu cA → OwnOff rest₁ [st, nu, cA] →
      Fr h₀ env.locals h (fun y => if y = x then some (.int (i : Int) t) else if stored.contains y then u y else m₁ y) → News h₀ env.locals h ((st, listOf #[.ref nu, .int k t'] n₁) :: (nu, oNu) :: (cA, oC) :: rest₁) →
      wpAny (model prog w) A (execs body env) (LwPost h₀ env.locals st nu n₁ k ((nu, oNu) :: (cA, oC) :: rest₁) x stored m₁ { s with heap := h, toks := tk }) E { s with heap := h, toks := tk })
    (done : ∀ (k : Int) (t' : Tok) (u : Str → Option Value) h tk, 0 ≤ k → Fr h₀ env.locals h (fun y => if y = x then u y else if stored.contains y then u y else m₀ y) → News h₀ env.locals h [(st, listOf #[.ref nu, .int k t'] n₁), (nu, oNu), (cA, oC)] → Q .next { s with heap := h, toks := tk }) :
    wpAny (model prog w) A (pyIter (.ref r)) (fun it s₂ => LoopAtV prog w A h₀ env x body Q E it s₂) E s := by
  subst ha hb hk
  refine kst_range (n := num) (fun c : Int × Tok => [(st, listOf #[.ref nu, .int c.1 c.2] n₁), (nu, oNu), (cA, oC)]) (fun _ => []) (fun _ => True) stored (fun pre c => 0 ≤ c.1 ∧ c.1 ≤ 40 * (pre.length : Int)) (0, tk₀)
    hh hr (small_one (by omega) (by omega) (by omega) (by omega)) (rangeSize_nat _ _) F (fun p hp => N p (hsub p hp)) trivial (fun p hp => nomatch hp) ⟨Int.le_refl _, by simp⟩ ?_ ?_
  · intro c pre k t u h tk own hk hlt hof _ hp F₁ N₁
    have hk' : k = (pre.length : Int) := by omega
    subst hk'
    refine wpAny_mono (turn m₀ pre.length c.1 c.2 t u h tk own hlt hp.1 hp.2 h1 h2 h3 hof F₁ N₁) (fun f s₂ p => ?_) fun _ _ e => e
    have fin : LwPost h₀ env.locals st nu n₁ c.1 ((nu, oNu) :: (cA, oC) :: own) x stored m₀ { s with heap := h, toks := tk } .next s₂ → InvEndN h₀ env.locals (KstS (fun c : Int × Tok => [(st, listOf #[.ref nu, .int c.1 c.2] n₁), (nu, oNu), (cA, oC)]) (fun _ => []) (fun _ => True) x stored m₀ (fun pre c => 0 ≤ c.1 ∧ c.1 ≤ 40 * (pre.length : Int)) (pre ++ [(pre.length : Int)])) own ([(st, listOf #[.ref nu, .int 0 tk₀] n₁), (nu, oNu), (cA, oC)].map (·.1)) { s with heap := h, toks := tk } s₂ := by
      rintro ⟨h', tk', m', k', t', rfl, F₂, hm, N₂, h0, h1⟩
      refine kst_end (Led := fun c : Int × Tok => [(st, listOf #[.ref nu, .int c.1 c.2] n₁), (nu, oNu), (cA, oC)]) (ps := fun _ => []) (Facts := fun _ => True) (stored := stored) (P := fun pre c => 0 ≤ c.1 ∧ c.1 ≤ 40 * (pre.length : Int)) (k', t') F₂ N₂ ?_ ?_ rfl trivial (fun p hp => nomatch hp) (fun z hz _ hs => hm z hz hs) ?_
      · intro p hp
        rcases List.mem_cons.mp hp with q | hp
        · exact List.mem_cons.mpr (.inl q)
        · rcases List.mem_cons.mp hp with q | hp
          · exact List.mem_cons.mpr (.inr (List.mem_cons.mpr (.inl q)))
          · rw [List.mem_singleton.mp hp]; exact .tail _ (.tail _ (.head _))
      · intro p hp
        exact .tail _ (.tail _ (.tail _ hp))
      · refine ⟨h0, ?_⟩
        have := hp.2
        rw [List.length_append, List.length_singleton]
        show k' ≤ 40 * ((pre.length + 1 : Nat) : Int)
        omega
    cases f with
    | next => exact fin p
    | cont => exact p.elim
    | brk => exact p.elim
    | ret v => exact p.elim
  · intro c u h tk _ hp F₁ N₁
    exact done c.1 c.2 u h tk hp.1 F₁ N₁
end
end Mine
end
section
open PySem PySem.W PyProof.Rows
namespace Mine
theorem takes_all (w : World) (mean : ExcName → Option Value) (mg mb : Str → Option Value) : ∀ M, TakesC w mean mg mb M
  | 0 => by intro p t one maybe _ _ _ _ _ _ _ _ _ _ _ _ _ _ _ _ _ _ _ _ _ _ _ _ _ _ _ _ _ hsz; exact absurd hsz (Nat.not_lt_zero _)
  | M + 1 => takes_step w mean mg mb M (takes_all w mean mg mb M)
theorem takes_law {w : World} {mean : ExcName → Option Value} {mg mb : Str → Option Value} {p p' t one maybe : Str} {tp tt to tm : Tok} {dp un : Nat} {gd : Option (List Code)} {cn : Str} {cs : Scope} {a : Addr} {ccd : Value} {cl : List (Str × Addr)} {outer : List Env} {A₀ : Around} {base h₀ : Heap} {L : Addr} {m : Str → Option Value} {news : List (Addr × Obj)} {s : Shared} {Q E : Value → Shared → Prop}
    (B : Below A₀ base outer h₀) (F : Fr h₀ L s.heap m) (X : (hd.heap_39 w.params).In h₀) (N : News h₀ L s.heap news) (T : Top hd.view_39 (looseW hd.view_39 []) mean mg mb h₀) (hk : cs.kind = .function)
    (hq : p = p') (hpre : takesPre p' t one maybe) (hd9 : dp + 42 < recursionLimit) (hu9 : un + 336 < cLine)
    (ret : ∀ (h' : Heap) (tk' : Nat), Fr h₀ L h' m → News h₀ L h' news → Q (.bool (takenG p' t one maybe)) { s with heap := h', toks := tk' }) :
    wpAny (model PySem.Challenge.rw_fe0145_01.row.prog w) (ktrTop dp un gd cn cs L a ccd cl outer) (call (.ref 21) [.str p tp, .str t tt, .str one to, .str maybe tm]) Q E s := by
  subst hq
  have h1 : takesSz p t one maybe ≤ 40 := hpre.1
  refine takes_use (takes_all w mean mg mb (takesSz p t one maybe + 1)) B F X N T hk hpre (Nat.lt_succ_self _) (by omega) (by omega) ?_
  rw [takes_taken]
  exact ret
theorem taken_law {w : World} {mean : ExcName → Option Value} {mg mb : Str → Option Value} {p t one maybe : Str} {tp tt to tm : Tok} {dp un : Nat} {gd : Option (List Code)} {cn : Str} {cs : Scope} {a : Addr} {ccd : Value} {cl : List (Str × Addr)} {outer : List Env} {A₀ : Around} {base h₀ : Heap} {L : Addr} {m : Str → Option Value} {news : List (Addr × Obj)} {s : Shared} {Q E : Value → Shared → Prop}
    (B : Below A₀ base outer h₀) (F : Fr h₀ L s.heap m) (X : (hd.heap_39 w.params).In h₀) (N : News h₀ L s.heap news) (T : Top hd.view_39 (looseW hd.view_39 []) mean mg mb h₀) (hk : cs.kind = .function)
    (h1 : p.length ≤ 8) (h2 : t.length ≤ 8) (h3 : one.length ≤ 8) (h4 : maybe.length ≤ 8) (hd9 : dp + 1 < recursionLimit) (hu9 : un + 8 < cLine)
    (ret : ∀ (h' : Heap) (tk' : Nat), Fr h₀ L h' m → News h₀ L h' news → Q (.bool (takenG p t one maybe)) { s with heap := h', toks := tk' }) :
    wpAny (model PySem.Challenge.rw_fe0145_01.row.prog w) (ktrTop dp un gd cn cs L a ccd cl outer) (call (.ref 82) [.str p tp, .str t tt, .str one to, .str maybe tm]) Q E s :=
  taken_ok w mean mg mb p t one maybe tp tt to tm dp un gd cn cs a ccd cl outer A₀ base h₀ L m news s Q E B F X N T hk h1 h2 h3 h4 hd9 hu9 ret
theorem lt1 : takenG (Str.ofString "a*") (Str.ofString "a") (Str.ofString "?") (Str.ofString "") = true := by decide +kernel
theorem lt2 : takenG (Str.ofString "a?") (Str.ofString "a") (Str.ofString "?") (Str.ofString "") = false := by decide +kernel
theorem lt3 : takenG (Str.ofString "a?") (Str.ofString "a") (Str.ofString ".") (Str.ofString "?") = true := by decide +kernel
theorem lt4 : takenG (Str.ofString "") (Str.ofString "a") (Str.ofString "?") (Str.ofString "") = false := by decide +kernel
theorem litPre (p t one maybe : String) (h : (decide ((Str.ofString p).length + (Str.ofString t).length ≤ 40) && decide ((Str.ofString one).length ≤ 40) && decide ((Str.ofString maybe).length ≤ 40)) = true) : takesPre (Str.ofString p) (Str.ofString t) (Str.ofString one) (Str.ofString maybe) := by
  simp only [Bool.and_eq_true, decide_eq_true_eq] at h
  exact ⟨h.1.1, h.1.2, h.2⟩
theorem ints_ok {ws : List Value} {l : List Int} (h : IntsAre ws (List.map (fun k' => (if k' < 0 then -k' else k').fmod 1000003) (List.take 24 l) ++ [5, 0, 11])) : ∃ ns, IntsAre ws ns ∧ 1 ≤ ns.length ∧ ns.length ≤ 64 ∧ ∀ x ∈ ns, 0 ≤ x ∧ x < 2000000 := by
  refine ⟨_, h, ?_, ?_, ?_⟩
  · rw [List.length_append]; simp
  · rw [List.length_append, List.length_map, List.length_take]; simp; omega
  · intro x hx
    rcases List.mem_append.mp hx with q | q
    · obtain ⟨y, _, rfl⟩ := List.mem_map.mp q
      exact ⟨Int.fmod_nonneg_of_pos _ (by decide), Int.lt_trans (Int.fmod_lt_of_pos _ (by decide)) (by decide)⟩
    · simp at q
      rcases q with rfl | rfl | rfl <;> decide
theorem loop_start {prog : Program} {w : World} {A : Around} {E : Value → Shared → Prop} {s : Shared} {h₀ : Heap} {env : Env} {x : Str} {body : List Stmt} {Q : Flow → Shared → Prop} {st nu cA r : Addr} {a₀ b₀ : Int} {t₀ u₀ v₀ : Tok} {n₁ : Nat} {oNu oC : Obj} {k₀ : Int} {tk₀ : Tok} {m₀ : Str → Option Value} {q1 q2 q3 : Addr × Obj} (num : Nat) (stored : List Str)
    (hh : A.handled = none) (hr : IsRange s.heap r a₀ b₀ 1 t₀ u₀ v₀) (ha : a₀ = 0) (hb : b₀ = (num : Int)) (hnum : num ≤ 100) (F : Fr h₀ env.locals s.heap m₀) (N : News h₀ env.locals s.heap [(st, listOf #[.ref nu, .int k₀ tk₀] n₁), (nu, oNu), q1, q2, q3, (cA, oC)])
    (h1 : @Ne Nat nu st) (h2 : @Ne Nat cA st) (h3 : @Ne Nat nu cA) (hk : k₀ = 0)
    (turn : ∀ (m₁ : Str → Option Value) (i : Nat) (k : Int) (t' t : Tok) (u : Str → Option Value) h tk rest₁, i < num → 0 ≤ k → k ≤ 40 * (i : Int) → @Ne Nat nu st → @Ne Nat cA st → @Ne Nat nu cA → OwnOff rest₁ [st, nu, cA] →
      Fr h₀ env.locals h (fun y => if y = x then some (.int (i : Int) t) else if stored.contains y then u y else m₁ y) → News h₀ env.locals h ((st, listOf #[.ref nu, .int k t'] n₁) :: (nu, oNu) :: (cA, oC) :: rest₁) →
      wpAny (model prog w) A (execs body env) (LwPost h₀ env.locals st nu n₁ k ((nu, oNu) :: (cA, oC) :: rest₁) x stored m₁ { s with heap := h, toks := tk }) E { s with heap := h, toks := tk })
    (done : ∀ (k : Int) (t' : Tok) (u : Str → Option Value) h tk, 0 ≤ k → Fr h₀ env.locals h (fun y => if y = x then u y else if stored.contains y then u y else m₀ y) → News h₀ env.locals h [(st, listOf #[.ref nu, .int k t'] n₁), (nu, oNu), (cA, oC)] → Q .next { s with heap := h, toks := tk }) :
    wpAny (model prog w) A (pyIter (.ref r)) (fun it s₂ => LoopAtV prog w A h₀ env x body Q E it s₂) E s :=
  law_loop num stored _ hh hr ha hb hnum F N (List.forall_mem_cons.mpr ⟨.head _, List.forall_mem_cons.mpr ⟨.tail _ (.head _), List.forall_mem_cons.mpr ⟨.tail _ (.tail _ (.tail _ (.tail _ (.tail _ (.head _))))), fun _ h => nomatch h⟩⟩⟩) h1 h2 h3 hk turn done
local macro_rules | `(tactic| walk_at "call ref") => `(tactic| (k_here; k_dflt (refine' takes_law ?k1 ?k2 ?k3 ?k4 ?k5 ?kK ?kq ?kp ?kd ?ku ?_; (case k1 => k_asm); (case k2 => k_asm); (case k3 => k_asm); (case k4 => k_asm); (case k5 => k_asm); (case kK => first | exact rfl | assumption); (case kq => first | exact wrap_back' (by assumption) (by assumption) (by assumption) (by assumption) | exact rfl); (case kp => first | exact pre_of (by assumption) (by assumption) (by decide +kernel) (by decide +kernel) | exact litPre _ _ _ _ (by decide +kernel)); (case kd => ktr_room); (case ku => ktr_units); intro h9 tk9 F9 N9; (try simp only [lt1, lt2, lt3, lt4]); (try dsimp only); (try k_fold))))
local macro_rules | `(tactic| walk_at "call ref") => `(tactic| (k_here; k_dflt (refine' taken_law ?k1 ?k2 ?k3 ?k4 ?k5 ?kK ?ka ?kb ?kc ?ke ?kd ?ku ?_; (case k1 => k_asm); (case k2 => k_asm); (case k3 => k_asm); (case k4 => k_asm); (case k5 => k_asm); (case kK => first | exact rfl | assumption); (case ka => assumption); (case kb => assumption); (case kc => decide +kernel); (case ke => decide +kernel); (case kd => ktr_room); (case ku => ktr_units); intro h9 tk9 F9 N9; (try dsimp only); (try k_fold))))
local macro_rules | `(tactic| walk_at "call ref") => `(tactic| (k_here; k_dflt (refine' next_law ?k1 ?k2 ?k3 ?k4 ?k5 ?kK ?kU ?kn ?kne ?kI ?ka ?kb ?kc ?k0 ?ke ?kf ?kg ?kd ?ku ?_; (case k1 => k_asm); (case k2 => k_asm); (case k3 => k_asm); (case k4 => k_asm); (case k5 => k_asm); (case kK => first | exact rfl | assumption); (case kU => k_updF); (case kn => k_mem); (case kne => assumption); (case kI => assumption); (case ka => assumption); (case kb => assumption); (case kc => assumption); (case k0 => omega); (case ke => omega); (case kf => decide); (case kg => decide); (case kd => ktr_room); (case ku => ktr_units); intro v9 t9 t29 h9 tk9 hv09 hv19 F9 N9; (try dsimp only); (try k_fold))))
theorem lw_same {u m₀ : Str → Option Value} {v1 v2 v3 v4 : Option Value} (z : Str) (h1 : z ≠ Str.ofString "turn") (h2 : [Str.ofString "pattern", Str.ofString "name", Str.ofString "known"].contains z = false) :
    (if z = Str.ofString "known" then v1 else if z = Str.ofString "name" then v2 else if z = Str.ofString "pattern" then v3 else if z = Str.ofString "turn" then v4 else if [Str.ofString "pattern", Str.ofString "name", Str.ofString "known"].contains z = true then u z else m₀ z) = m₀ z := by
  have h3 : z ≠ Str.ofString "known" := by
    intro e; subst e
    exact absurd h2 (by decide +kernel)
  have h4 : z ≠ Str.ofString "name" := by
    intro e; subst e
    exact absurd h2 (by decide +kernel)
  have h5 : z ≠ Str.ofString "pattern" := by
    intro e; subst e
    exact absurd h2 (by decide +kernel)
  rw [if_neg h3, if_neg h4, if_neg h5, if_neg h1, if_neg (by rw [h2]; exact Bool.false_ne_true)]
theorem getD_mem {l : List Str} {v : Int} (h : v.toNat < l.length) : l.getD v.toNat Str.empty ∈ l := by
  rw [List.getD_eq_getElem?_getD, List.getElem?_eq_getElem h]
  exact List.getElem_mem h
local macro_rules | `(tactic| walk_at "subscriptTail") => `(tactic| (k_here; (with_reducible show wpAny _ _ (subscriptTail _ _ (Value.ref _) (Value.int _ _)) _ _ _); k_dflt (refine kba_turn (value' := PySem.Expr.Name (PySem.Str.ofString "_") ⟨0, 0, 0, 0⟩) (fun _ => rfl) ?_; refine' item_strsA ?k1 ?k2 ?k3 ?k4 ?k5 ?_; (case k1 => exact News.isList (by k_asm) (by k_mem)); (case k2 => repeat constructor); (case k3 => omega); (case k4 => (simp only [List.length_cons, List.length_nil]; omega)); (case k5 => omega)); intro t9))
theorem repr_known {prog : Program} {w : World} {A : Around} {E : Value → Shared → Prop} {s : Shared} {t : Tok} {Q : Value → Shared → Prop} (h : Q (.str (Str.ofString "'^a.*$'") s.toks) { s with toks := s.toks + 1 }) : wpAny (model prog w) A (pyReprObj (.str (Str.ofString "^a.*$") t)) Q E s := by
  have e : reprText (Str.ofString "^a.*$") = Str.ofString "'^a.*$'" := by decide +kernel
  refine pyReprObj_str (hx := ?hx) ?_
  · rw [e]; exact h
  · rw [e, sizeLine_eq]; decide +kernel
local macro_rules | `(tactic| walk_at "pyReprObj str") => `(tactic| (refine repr_known ?_))
local macro_rules | `(tactic| walk_at "call builtin:str.join") => `(tactic| (k_here; (with_reducible show wpAny _ _ (call (Value.builtin "str.join") [Value.str _ _, Value.ref _]) _ _ _); k_dflt (refine' join_law ?k1 ?k2 ?k3 ?k4 ?k5 ?k6 ?_; (case k1 => k_asm); (case k2 => k_mem); (case k3 => assumption); (case k4 => assumption); (case k5 => decide +kernel); (case k6 => assumption)); intro pat9 tp9 kp9 hp9))
local macro_rules | `(tactic| walk_at "call builtin:str.replace") => `(tactic| (k_here; k_dflt (refine' rep_law ?k1 ?k2 ?k3 ?k4 ?k5 ?k6 ?k7 ?_; (case k1 => ((try dsimp only); omega)); (case k2 => ((try dsimp only); omega)); (case k3 => ((try dsimp only); omega)); (case k4 => decide +kernel); (case k5 => omega); (case k6 => decide +kernel); (case k7 => with_reducible (first | exact rl1 _ | exact rl2 _ | exact rl3 _ | exact rl4 _))); intro tr9 kr9 r9 hk9 hr9 hl9))
local macro_rules | `(tactic| walk_at "subscriptTail") => `(tactic| (k_here; (with_reducible show wpAny _ _ (subscriptTail _ (Expr.Slice (some _) (some _) none _) (Value.str _ _) (Value.ref _)) _ _ _); (with_reducible rename Fr _ _ _ _ => F'); (with_reducible rename News _ _ _ _ => N'); k_dflt (refine' slice_law (s := ⟨_, _, _, _, _⟩) ?kq F' N' ?k2 ?k3 ?_ ?k5 ?k6; (case kq => exact wrap_slice' (by assumption) (by assumption)); (case k2 => ((try dsimp only); omega)); (case k3 => omega); (case k5 => with_unfolding_all rfl); (case k6 => (intro _; with_unfolding_all rfl))); intro h9 t9 k9 hk9 F9 N9))
local macro_rules | `(tactic| walk_at "binaryOp Add str str") => `(tactic| (k_here; (with_reducible refine add_pre ?k1 ?_); (case k1 => omega); intro t9 k9 w9 hw9 hl9))
local macro_rules | `(tactic| walk_at "binaryOp Add str str") => `(tactic| (k_here; (with_reducible refine add_suf ?k1 ?_); (case k1 => omega); intro t9 k9 w9 hw9 hl9))
local macro_rules | `(tactic| walk_at "compareOp NotEq bool bool") => `(tactic| (with_reducible refine ne_same ?_))
local macro_rules | `(tactic| walk_at "exec For") => `(tactic| (k_here; (rename Fr _ _ _ _ => lF'); (with_unfolding_all refine' For_invVF lF' ?k1 ?k2 ?_; (case k1 => exact rfl); (case k2 => exact rfl); k_whole)))
local macro_rules | `(tactic| walk_at "pyIter ref") => `(tactic| (k_here; refine Stop.out ?_))
local macro_rules | `(tactic| walk_at "CompSrc") => `(tactic| (k_here; (rename IsRange _ _ _ _ _ _ _ _ => hR9); refine Stop.out ?_))
set_option maxRecDepth 100000 in
set_option maxHeartbeats 8000000 in
theorem w1 : PySem.Challenge.rw_fe0145_01.Holds := hd (by
  k_go0
  all_goals try k_fold
  k_steps
  unfold Stop
  (rename IntsAre _ (_ ++ [5, 0, 11]) => hIn)
  obtain ⟨ns, hI, hn1, hn2, hn3⟩ := ints_ok hIn
  clear hIn
  (rename Fr _ _ _ _ => hF)
  (rename News _ _ _ _ => hN)
  (rename IsRange _ _ _ _ _ _ _ _ => hR)
  refine loop_start 3 [Str.ofString "pattern", Str.ofString "name", Str.ofString "known"] rfl hR rfl rfl (by decide) hF hN (by omega) (by omega) (by omega) rfl ?turn ?done
  case turn =>
    clear hF hN hR
    intro m₁ i k t' t u h tk rest₁ hi hk0 hk1 h1 h2 h3 hoff F1 N1
    k_fold
    k_steps
    unfold Stop
    (rename Fr _ _ _ _ => hF)
    (rename News _ _ _ _ => hN)
    (rename IsRange _ _ _ _ _ _ _ _ => hR)
    refine lt_comp [Str.ofString "a", Str.ofString "b", Str.ofString "*", Str.ofString "?", Str.ofString ".", Str.ofString "a"] rfl hF hN (fun q hq => hq) hR (by omega) (by omega) (by omega) ?step ?fin
    case step =>
      clear hF hN hR F1 N1
      intro k2 t2 ys I oI C oC D m₂ vx h5 tk5 E' hk02 hk12 hC hx F2 N2 hof
      k_fold
      have hS := hof _ (.head _)
      have a1 := neN (Ne.symm hS.1)
      have a2 := neN (Ne.symm hS.2.1)
      have a3 := neN (Ne.symm hS.2.2)
      k_steps
      all_goals (refine ElPost.intro (getD_mem (by simp only [List.length_cons, List.length_nil]; omega)) (by k_asm) (by k_asm) (by exact fun q hq => .tail _ hq))
    case fin =>
      clear hF hN hR F1 N1
      intro k2 t2 g ys ss hk02 hk12 hS hl8 hlv hL
      unfold LCg.FinE
      intro D h5 tk5 F2 N2 off2
      simp only [LCg.Off1] at off2
      k_steps
      unfold Stop
      (rename Fr _ _ _ _ => hF)
      (rename News _ _ _ _ => hN)
      (rename IsRange _ _ _ _ _ _ _ _ => hR)
      clear hS hL F2 N2
      refine lt_comp [Str.ofString "a", Str.ofString "b", Str.ofString ".", Str.ofString "a"] rfl hF hN (by exact fun q hq => .tail _ hq) hR (by omega) (by omega) (by omega) ?step2 ?fin2
      case step2 =>
        clear hF hN hR
        intro k3 t3 ys2 I oI C oC D2 m₂ vx h6 tk6 E' hk03 hk13 hC hx F3 N3 hof
        k_fold
        have hS := hof _ (.head _)
        have a1 := neN (Ne.symm hS.1)
        have a2 := neN (Ne.symm hS.2.1)
        have a3 := neN (Ne.symm hS.2.2)
        k_steps
        all_goals (refine ElPost.intro (getD_mem (by simp only [List.length_cons, List.length_nil]; omega)) (by k_asm) (by k_asm) (by exact fun q hq => .tail _ hq))
      case fin2 =>
        clear hF hN hR
        intro k3 t3 g2 ys2 ss2 hk03 hk13 hS hl82 hlv2 hL
        unfold LCg.FinE
        intro D2 h6 tk6 F3 N3 off3
        simp only [LCg.Off1] at off3
        k_steps
        all_goals (refine LwPost.intro (k' := k3) (t' := t3) (by k_asm) (cb_drop (by k_asm) (by exact fun q hq => .tail _ (.tail _ (.tail _ hq)))) (by exact lw_same) (by omega) (by omega))
  case done =>
    clear hF hN hR
    intro k t' u h tk hk0 F1 N1
    k_steps
    done)
end Mine
end
theorem PySem.Challenge.cw_fe0145_01_holds : PySem.Challenge.rw_fe0145_01.Holds := by
  exact Mine.w1
