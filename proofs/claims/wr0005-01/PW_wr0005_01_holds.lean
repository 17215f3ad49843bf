import PyProof.Rows.All
import Wide.All
import OpenK.AllK
import Wide.FinOn
import Lean
import PySem.Challenge.RW_wr0005_01

set_option Elab.async false

section
open PySem PySem.W PyProof.Rows
namespace Mine
set_option maxRecDepth 100000 in
set_option maxHeartbeats 8000000 in
open_top hd for PySem.Challenge.rw_wr0005_01
end Mine
end

/- part B0 -/
section
open PySem PySem.W PyProof.Rows
namespace Mine
noncomputable abbrev PG : PySem.Program := PySem.Challenge.rw_wr0005_01.row.prog
noncomputable abbrev LS : List Str := looseW hd.view_39 [Str.ofString "_quoted", Str.ofString "_paren_depth"]
abbrev Claim (w : World) (s₀ : Shared) (mg mb : Str → Option Value) (f : Addr) (news : List (Addr × Obj)) (pre : Prop) (vs : List Value) (R : Tok → Value) : Prop :=
  CbClaim PG w (hd.heap_39 w.params) hd.view_39 LS (ExcName.means s₀.heap) mg mb f news [] pre vs R
end Mine
end

/- part P1 -/
section
namespace Mine.Plain
/- the plain law: lists of numbers alone -/
def escL (l : List Nat) : List Nat := l.flatMap fun c => if c = 92 then [92, 92] else if c = 34 then [92, 34] else [c]
def dblL (l : List Nat) : List Nat := l.flatMap fun c => if c = 92 then [92, 92] else [c]
def netL (l : List Nat) : Int := (l.count 40 : Int) - (l.count 41 : Int)
def shutL : List Nat → Option (List Nat)
  | [] => none
  | 34 :: r => some r
  | 92 :: [] => none
  | 92 :: c :: r => if c = 10 then none else shutL r
  | _ :: r => shutL r
theorem shutL_quote (r : List Nat) : shutL (34 :: r) = some r := by simp [shutL]
theorem shutL_back (c : Nat) (r : List Nat) (h : c ≠ 10) : shutL (92 :: c :: r) = shutL r := by simp [shutL, h]
theorem shutL_other (c : Nat) (r : List Nat) (h1 : c ≠ 34) (h2 : c ≠ 92) : shutL (c :: r) = shutL r := by
  rw [shutL]
  all_goals simp_all
theorem shutL_lt : ∀ (l r : List Nat), shutL l = some r → r.length < l.length
  | [], _, h => by simp [shutL] at h
  | [c], r, h => by
    by_cases h1 : c = 34
    · subst h1; simp [shutL] at h; subst h; simp
    · by_cases h2 : c = 92
      · subst h2; simp [shutL] at h
      · rw [shutL] at h
        · have := shutL_lt [] r h; simp at this
        all_goals simp_all
  | c :: d :: t, r, h => by
    by_cases h1 : c = 34
    · subst h1; simp [shutL] at h; subst h; simp
    · by_cases h2 : c = 92
      · subst h2
        simp only [shutL] at h
        split at h
        · cases h
        · have := shutL_lt t r h; simp; omega
      · rw [shutL] at h
        · have := shutL_lt (d :: t) r h; simp at this ⊢; omega
        all_goals simp_all
def unqL : List Nat → List Nat
  | [] => []
  | 34 :: r => match h : shutL r with
    | some t => have := shutL_lt r t h; unqL t
    | none => 34 :: unqL r
  | c :: r => c :: unqL r
termination_by l => l.length
decreasing_by all_goals (simp_all; try omega)
theorem unqL_nil : unqL [] = [] := by rw [unqL]
theorem unqL_shut (r t : List Nat) (h : shutL r = some t) : unqL (34 :: r) = unqL t := by
  rw [unqL]
  split
  · rename_i t' h'; rw [h] at h'; cases h'; rfl
  · rename_i h'; rw [h] at h'; cases h'
theorem unqL_open (r : List Nat) (h : shutL r = none) : unqL (34 :: r) = 34 :: unqL r := by
  rw [unqL]
  split
  · rename_i t' h'; rw [h] at h'; cases h'
  · rfl
theorem unqL_other (c : Nat) (r : List Nat) (h : c ≠ 34) : unqL (c :: r) = c :: unqL r := by
  rw [unqL]
  simp_all
theorem netL_nil : netL [] = 0 := rfl
theorem netL_cons (c : Nat) (l : List Nat) : netL (c :: l) = (if c = 40 then 1 else if c = 41 then -1 else 0) + netL l := by
  unfold netL
  simp only [List.count_cons]
  by_cases h1 : c = 40
  · subst h1; simp; omega
  · by_cases h2 : c = 41
    · subst h2; simp; omega
    · simp [h1, h2]
theorem netL_append (a b : List Nat) : netL (a ++ b) = netL a + netL b := by
  unfold netL; simp only [List.count_append]; omega
theorem dbl_nil : dblL [] = [] := rfl
theorem dbl_cons (c : Nat) (l : List Nat) : dblL (c :: l) = (if c = 92 then [92, 92] else [c]) ++ dblL l := by simp [dblL]
theorem dbl_append (a b : List Nat) : dblL (a ++ b) = dblL a ++ dblL b := by simp [dblL]
theorem net_dbl (l : List Nat) : netL (dblL l) = netL l := by
  induction l with
  | nil => rfl
  | cons c l ih =>
    rw [dbl_cons, netL_append, ih, netL_cons]
    by_cases h : c = 92
    · subst h; simp [netL]
    · rw [if_neg h, netL_cons, netL_nil]; omega
/-- behind a mark, no mark ahead: the scan of the doubled signs comes to what follows -/
theorem shut_dbl (l t : List Nat) (h : 34 ∉ l) (hn : 10 ∉ l) : shutL (dblL l ++ t) = shutL t := by
  induction l with
  | nil => rfl
  | cons c l ih =>
    have h1 : c ≠ 34 := fun e => h (by simp [e])
    have ih' := ih (fun m => h (List.mem_cons_of_mem _ m)) (fun m => hn (List.mem_cons_of_mem _ m))
    rw [dbl_cons]
    by_cases h2 : c = 92
    · subst h2
      simp only [if_true, List.cons_append, List.nil_append]
      rw [shutL_back _ _ (by decide), ih']
    · rw [if_neg h2, List.append_assoc, List.singleton_append, shutL_other _ _ h1 h2, ih']
theorem shut_esc (l r : List Nat) (hn : 10 ∉ l) : shutL (escL l ++ 34 :: r) = some r := by
  induction l with
  | nil => exact shutL_quote r
  | cons c l ih =>
    have ih' := ih (fun m => hn (List.mem_cons_of_mem _ m))
    have e : escL (c :: l) = (if c = 92 then [92, 92] else if c = 34 then [92, 34] else [c]) ++ escL l := by simp [escL]
    rw [e]
    by_cases h2 : c = 92
    · subst h2
      simp only [if_true, List.cons_append, List.nil_append]
      rw [shutL_back _ _ (by decide)]; exact ih'
    · by_cases h1 : c = 34
      · subst h1
        simp only [if_neg h2, if_true, List.cons_append, List.nil_append]
        rw [shutL_back _ _ (by decide)]; exact ih'
      · rw [if_neg h2, if_neg h1, List.append_assoc, List.singleton_append, shutL_other _ _ h1 h2]; exact ih'
theorem unq_dbl (l t : List Nat) (h : 34 ∉ l) : unqL (dblL l ++ t) = dblL l ++ unqL t := by
  induction l with
  | nil => rfl
  | cons c l ih =>
    have h1 : c ≠ 34 := fun e => h (by simp [e])
    have ih' := ih (fun m => h (List.mem_cons_of_mem _ m))
    rw [dbl_cons]
    by_cases h2 : c = 92
    · subst h2
      simp only [if_true, List.cons_append, List.nil_append]
      rw [unqL_other _ _ (by decide), unqL_other _ _ (by decide), ih']
    · rw [if_neg h2]
      simp only [List.cons_append, List.nil_append]
      rw [unqL_other _ _ h1, ih']
/-- outside of all marks, inside of one -/
def O (l t : List Nat) : Int := netL (unqL (dblL l ++ t))
def I (l t : List Nat) : Int := netL (unqL (34 :: (dblL l ++ t)))
theorem split34 (l : List Nat) (h : 34 ∈ l) : ∃ a b, l = a ++ 34 :: b ∧ 34 ∉ a := by
  induction l with
  | nil => cases h
  | cons c l ih =>
    by_cases hc : c = 34
    · exact ⟨[], l, by simp [hc], by simp⟩
    · have hm : 34 ∈ l := by
        rcases List.mem_cons.mp h with e | e
        · exact absurd e.symm hc
        · exact e
      obtain ⟨a, b, e, hn⟩ := ih hm
      exact ⟨c :: a, b, by simp [e], by simp [hn]; exact fun e => hc e.symm⟩
theorem O_split (a b t : List Nat) (h : 34 ∉ a) : O (a ++ 34 :: b) t = netL a + I b t := by
  unfold O I
  rw [dbl_append, dbl_cons]
  simp only [show ¬ (34 : Nat) = 92 by decide, if_false, List.append_assoc, List.cons_append, List.nil_append]
  rw [unq_dbl _ _ h, netL_append, net_dbl]
theorem O_free (a t : List Nat) (h : 34 ∉ a) : O a t = netL a + netL (unqL t) := by
  unfold O
  rw [unq_dbl _ _ h, netL_append, net_dbl]
theorem I_split (a b t : List Nat) (h : 34 ∉ a) (hn : 10 ∉ a) : I (a ++ 34 :: b) t = O b t := by
  unfold O I
  rw [dbl_append, dbl_cons]
  simp only [show ¬ (34 : Nat) = 92 by decide, if_false, List.append_assoc, List.cons_append, List.nil_append]
  rw [unqL_shut _ (dblL b ++ t)]
  rw [shut_dbl _ _ h hn, shutL_quote]
theorem I_shut (a t r : List Nat) (h : 34 ∉ a) (hn : 10 ∉ a) (ht : shutL t = some r) : I a t = netL (unqL r) := by
  unfold I
  rw [unqL_shut _ r]
  rw [shut_dbl _ _ h hn, ht]
theorem I_open (a : List Nat) (h : 34 ∉ a) (hn : 10 ∉ a) : I a [] = netL a := by
  unfold I
  rw [unqL_open _ (by rw [shut_dbl _ _ h hn]; rfl), netL_cons, unq_dbl _ _ h, netL_append, net_dbl, unqL_nil]
  simp [netL_nil]
/-- one more bracket: it counts where the marks are an odd number -/
theorem parity (n : Nat) : ∀ l : List Nat, l.length ≤ n → 10 ∉ l →
    (I l [40, 34] = I l [34] + (l.count 34 % 2 : Nat)) ∧ (O l [40, 34] = O l [34] + (1 - (l.count 34 % 2 : Nat) : Int)) := by
  induction n with
  | zero =>
    intro l hl hn
    have : l = [] := List.eq_nil_of_length_eq_zero (by omega)
    subst this
    have u1 : unqL [34] = [34] := by rw [unqL_open _ rfl, unqL_nil]
    have u2 : unqL [40, 34] = [40, 34] := by rw [unqL_other _ _ (by decide), u1]
    constructor
    · rw [I_shut [] [40, 34] [] (by simp) (by simp) (by rw [shutL_other _ _ (by decide) (by decide), shutL_quote]), I_shut [] [34] [] (by simp) (by simp) (shutL_quote _)]
      simp
    · rw [O_free [] _ (by simp), O_free [] _ (by simp), u1, u2]
      decide
  | succ n ih =>
    intro l hl hn
    have u1 : unqL [34] = [34] := by rw [unqL_open _ rfl, unqL_nil]
    have u2 : unqL [40, 34] = [40, 34] := by rw [unqL_other _ _ (by decide), u1]
    by_cases h : 34 ∈ l
    · obtain ⟨a, b, e, ha⟩ := split34 l h
      subst e
      have hb : b.length ≤ n := by simp at hl; omega
      have hna : 10 ∉ a := fun m => hn (by simp [m])
      have hnb : 10 ∉ b := fun m => hn (by simp [m])
      obtain ⟨i1, i2⟩ := ih b hb hnb
      have hc : (a ++ 34 :: b).count 34 = b.count 34 + 1 := by
        rw [List.count_append, List.count_cons_self, List.count_eq_zero_of_not_mem ha]; omega
      rw [hc, I_split _ _ _ ha hna, I_split _ _ _ ha hna, O_split _ _ _ ha, O_split _ _ _ ha, i1, i2]
      constructor <;> omega
    · have hc : l.count 34 = 0 := List.count_eq_zero_of_not_mem h
      rw [hc]
      constructor
      · rw [I_shut l [40, 34] [] h hn (by rw [shutL_other _ _ (by decide) (by decide), shutL_quote]), I_shut l [34] [] h hn (shutL_quote _)]
        simp
      · rw [O_free l _ h, O_free l _ h, u1, u2, show netL [40, 34] = 1 by decide, show netL [34] = 0 by decide]
        simp
/-- the whole of what is sent -/
def sentL (l : List Nat) : List Nat := 34 :: (escL l ++ 34 :: 32 :: 34 :: dblL l)
theorem unq_sent (l t : List Nat) (hn : 10 ∉ l) : netL (unqL (sentL l ++ t)) = I l t := by
  unfold sentL I
  simp only [List.cons_append, List.append_assoc]
  rw [unqL_shut _ _ (shut_esc l _ hn), unqL_other _ _ (by decide), netL_cons]
  simp
end Mine.Plain
end

/- part P2 -/
section
namespace Mine.Plain
def nameL : List Nat → List Nat
  | [] => []
  | 34 :: 34 :: r => 34 :: nameL r
  | 34 :: _ => []
  | c :: r => c :: nameL r
theorem nameL_two (r : List Nat) : nameL (34 :: 34 :: r) = 34 :: nameL r := by simp [nameL]
theorem nameL_end : nameL [34] = [] := by simp [nameL]
theorem nameL_stop (c : Nat) (r : List Nat) (h : c ≠ 34) : nameL (34 :: c :: r) = [] := by
  rw [nameL]
  simp_all
theorem nameL_other (c : Nat) (r : List Nat) (h : c ≠ 34) : nameL (c :: r) = c :: nameL r := by
  rw [nameL]
  all_goals simp_all
def byL : Nat → List Nat → Int
  | 0, _ => 0
  | k + 1, row =>
    if 34 ∈ row then
      let ahead := row.takeWhile (· != 34)
      let rest := row.dropWhile (· != 34)
      let name := nameL rest.tail
      let used := name.length + name.count 34 + 2
      if used > rest.length then netL ahead + netL (name.reverse.takeWhile (· != 34)).reverse
      else netL ahead + byL k (rest.drop used)
    else netL row
theorem takeWhile_self (p : Nat → Bool) : ∀ l : List Nat, (∀ c ∈ l, p c = true) → l.takeWhile p = l
  | [], _ => rfl
  | c :: l, h => by rw [List.takeWhile_cons, h c (by simp), if_pos rfl, takeWhile_self p l fun d hd => h d (List.mem_cons_of_mem _ hd)]
theorem count_one_ne {c : Nat} (h : c ≠ 34) : List.count 34 [c] = 0 := List.count_eq_zero_of_not_mem (by simp; exact fun e => h e.symm)
/-- what stands behind the last mark -/
def tailL (n : List Nat) : List Nat := (n.reverse.takeWhile (· != 34)).reverse
theorem takeWhile_snoc_stop (p : Nat → Bool) (x : Nat) (h : p x = false) : ∀ l : List Nat, (l ++ [x]).takeWhile p = l.takeWhile p
  | [] => by simp [h]
  | c :: l => by
    rw [List.cons_append, List.takeWhile_cons, List.takeWhile_cons, takeWhile_snoc_stop p x h l]
theorem takeWhile_snoc_go (p : Nat → Bool) (x : Nat) : ∀ l : List Nat, (∀ c ∈ l, p c = true) → (l ++ [x]).takeWhile p = l ++ (if p x then [x] else [])
  | [], _ => by simp [List.takeWhile_cons]
  | c :: l, h => by
    rw [List.cons_append, List.takeWhile_cons, h c (by simp), if_pos rfl, takeWhile_snoc_go p x l fun d hd => h d (List.mem_cons_of_mem _ hd)]; rfl
theorem takeWhile_snoc_past (p : Nat → Bool) (t : List Nat) : ∀ l : List Nat, (∃ c ∈ l, p c = false) → (l ++ t).takeWhile p = l.takeWhile p
  | [], h => by obtain ⟨c, hc, _⟩ := h; cases hc
  | c :: l, h => by
    rw [List.cons_append, List.takeWhile_cons, List.takeWhile_cons]
    cases hp : p c with
    | false => rfl
    | true =>
      simp only [if_true]
      rw [takeWhile_snoc_past p t l]
      obtain ⟨d, hd, hpd⟩ := h
      rcases List.mem_cons.mp hd with e | hd
      · rw [e, hp] at hpd; cases hpd
      · exact ⟨d, hd, hpd⟩
theorem tail_mark (n : List Nat) : tailL (34 :: n) = tailL n := by
  unfold tailL
  rw [List.reverse_cons, takeWhile_snoc_stop _ _ (by decide)]
theorem tail_free (n : List Nat) (h : 34 ∉ n) : tailL n = n := by
  unfold tailL
  rw [takeWhile_self, List.reverse_reverse]
  intro c hc
  have : c ≠ 34 := fun e => h (e ▸ List.mem_reverse.mp hc)
  simp [this]
theorem tail_past (c : Nat) (n : List Nat) (h : 34 ∈ n) : tailL (c :: n) = tailL n := by
  unfold tailL
  rw [List.reverse_cons, takeWhile_snoc_past _ _ _ ⟨34, by simpa using h, by decide⟩]
theorem I_cons (c : Nat) (r : List Nat) (hc : c ≠ 34) (hm : 34 ∈ r) (hn : 10 ∉ c :: r) : I (c :: r) [] = I r [] := by
  obtain ⟨a, b, e, ha⟩ := split34 r hm
  subst e
  have hna : 10 ∉ a := fun m => hn (by simp [m])
  have hc1 : 10 ≠ c := fun e => hn (by simp [e])
  rw [← List.cons_append, I_split (c :: a) b [] (by simp [ha]; exact fun e => hc e.symm) (by simp [hna]; exact hc1), I_split a b [] ha hna]
theorem name_cases : ∀ d : List Nat, 10 ∉ d →
    (∃ b, d.drop ((nameL d).length + (nameL d).count 34) = 34 :: b ∧ I d [] = O b []) ∨
    (d.length = (nameL d).length + (nameL d).count 34 ∧ I d [] = netL (tailL (nameL d)) ∧ (34 ∈ d → 34 ∈ nameL d) ∧ (34 ∉ d → nameL d = d))
  | [], _ => .inr ⟨rfl, by rw [I_open [] (by simp) (by simp)]; rfl, by simp, fun _ => rfl⟩
  | [c], hn => by
    by_cases hc : c = 34
    · subst hc
      rw [nameL_end]
      exact .inl ⟨[], rfl, by rw [show ([34] : List Nat) = [] ++ 34 :: [] from rfl, I_split [] [] [] (by simp) (by simp)]⟩
    · rw [nameL_other _ _ hc]
      have hm : 34 ∉ [c] := by simp; exact fun e => hc e.symm
      refine .inr ⟨?_, ?_, fun h => absurd h hm, fun _ => rfl⟩
      · show 1 = _
        rw [show nameL [] = [] from rfl, List.count_eq_zero_of_not_mem hm]; rfl
      · rw [I_open _ hm hn, show nameL [] = [] from rfl, tail_free _ hm]
  | c :: e :: r, hn => by
    by_cases hc : c = 34
    · subst hc
      by_cases he : e = 34
      · subst he
        have hnr : 10 ∉ r := fun m => hn (by simp [m])
        have ih := name_cases r hnr
        rw [nameL_two]
        have hI : I (34 :: 34 :: r) [] = I r [] := by
          rw [show (34 :: 34 :: r : List Nat) = [] ++ 34 :: (34 :: r) from rfl, I_split [] _ [] (by simp) (by simp), show (34 :: r : List Nat) = [] ++ 34 :: r from rfl, O_split [] _ [] (by simp)]
          simp [netL_nil]
        have hu : (34 :: nameL r).length + (34 :: nameL r).count 34 = (nameL r).length + (nameL r).count 34 + 2 := by
          rw [List.length_cons, List.count_cons_self]; omega
        rw [hu, hI, tail_mark]
        rcases ih with ⟨b, h1, h2⟩ | ⟨h1, h2, h3, h4⟩
        · exact .inl ⟨b, by simpa using h1, h2⟩
        · exact .inr ⟨by simp only [List.length_cons]; omega, h2, fun _ => by simp, fun h => absurd (by simp) h⟩
      · rw [nameL_stop _ _ he]
        exact .inl ⟨e :: r, rfl, by rw [show (34 :: e :: r : List Nat) = [] ++ 34 :: (e :: r) from rfl, I_split [] _ [] (by simp) (by simp)]⟩
    · have hnr : 10 ∉ e :: r := fun m => hn (List.mem_cons_of_mem _ m)
      have ih := name_cases (e :: r) hnr
      rw [nameL_other _ _ hc]
      have hu : (c :: nameL (e :: r)).length + (c :: nameL (e :: r)).count 34 = (nameL (e :: r)).length + (nameL (e :: r)).count 34 + 1 := by
        rw [List.length_cons, List.count_cons_of_ne hc]; omega
      rw [hu]
      rcases ih with ⟨b, h1, h2⟩ | ⟨h1, h2, h3, h4⟩
      · have hm : 34 ∈ e :: r := by
          have : 34 ∈ (e :: r).drop ((nameL (e :: r)).length + (nameL (e :: r)).count 34) := by rw [h1]; simp
          exact List.mem_of_mem_drop this
        exact .inl ⟨b, by rw [List.drop_succ_cons]; exact h1, by rw [I_cons c (e :: r) hc hm hn]; exact h2⟩
      · refine .inr ⟨by simp only [List.length_cons] at h1 ⊢; omega, ?_, ?_, ?_⟩
        · by_cases hm : 34 ∈ e :: r
          · rw [I_cons c (e :: r) hc hm hn, h2, tail_past c _ (h3 hm)]
          · have hm' : 34 ∉ c :: e :: r := fun m => by
              rcases List.mem_cons.mp m with h | h
              · exact hc h.symm
              · exact hm h
            rw [h4 hm, I_open _ hm' hn, tail_free _ hm']
        · intro m
          rcases List.mem_cons.mp m with h | h
          · exact absurd h.symm hc
          · exact List.mem_cons_of_mem _ (h3 h)
        · intro m
          rw [h4 fun h => m (List.mem_cons_of_mem _ h)]
theorem takeWhile_split (a d : List Nat) (h : 34 ∉ a) : (a ++ 34 :: d).takeWhile (· != 34) = a ∧ (a ++ 34 :: d).dropWhile (· != 34) = 34 :: d := by
  induction a with
  | nil => simp
  | cons c a ih =>
    have hc : c ≠ 34 := fun e => h (by simp [e])
    obtain ⟨i1, i2⟩ := ih fun m => h (List.mem_cons_of_mem _ m)
    constructor
    · rw [List.cons_append, List.takeWhile_cons, if_pos (by simp [hc]), i1]
    · rw [List.cons_append, List.dropWhile_cons, if_pos (by simp [hc]), i2]
theorem by_is : ∀ (k : Nat) (row : List Nat), row.length < k → 10 ∉ row → byL k row = O row []
  | 0, _, h, _ => absurd h (Nat.not_lt_zero _)
  | k + 1, row, h, hn => by
    unfold byL
    by_cases hm : 34 ∈ row
    · rw [if_pos hm]
      obtain ⟨a, d, e, ha⟩ := split34 row hm
      subst e
      obtain ⟨t1, t2⟩ := takeWhile_split a d ha
      have hnd : 10 ∉ d := fun m => hn (by simp [m])
      simp only [t1, t2, List.tail_cons]
      rw [O_split _ _ _ ha]
      rcases name_cases d hnd with ⟨b, h1, h2⟩ | ⟨h1, h2, _, _⟩
      · have hlt : (nameL d).length + (nameL d).count 34 < d.length := by
          have := congrArg List.length h1
          simp at this; omega
        have hb : d.length = (nameL d).length + (nameL d).count 34 + 1 + b.length := by
          have := congrArg List.length h1
          simp at this; omega
        rw [if_neg (by simp only [List.length_cons]; omega), h2]
        have hd : (34 :: d).drop ((nameL d).length + (nameL d).count 34 + 2) = b := by
          rw [show (nameL d).length + (nameL d).count 34 + 2 = ((nameL d).length + (nameL d).count 34 + 1) + 1 from rfl, List.drop_succ_cons, ← List.drop_drop, h1]; rfl
        rw [hd, by_is k b (by simp at h; omega) fun m => hnd ?_]
        have : b = (d.drop ((nameL d).length + (nameL d).count 34)).drop 1 := by rw [h1]; rfl
        rw [this] at m
        exact List.mem_of_mem_drop (List.mem_of_mem_drop m)
      · rw [if_pos (by simp only [List.length_cons]; omega), h2]; rfl
    · rw [if_neg hm, O_free _ _ hm, unqL_nil, netL_nil]; omega

/- the law's own state -/
def stepL (x : List Nat × List Nat × Bool × Bool) (c : Nat) : List Nat × List Nat × Bool × Bool :=
  if x.2.2.2 || c == 58 then (x.1, x.2.1, x.2.2.1, true)
  else if c == 46 then ([], [], false, x.2.2.2)
  else
    let out : Bool := x.1.count 34 % 2 != 0
    let e' := x.2.2.1 || (out && c != 34)
    (x.1 ++ [c], (if !e' && (out || c != 34) then x.2.1 ++ [c] else x.2.1), e', x.2.2.2)
def stL (l : List Nat) : List Nat × List Nat × Bool × Bool := l.foldl stepL ([], [], false, false)
theorem stL_snoc (l : List Nat) (c : Nat) : stL (l ++ [c]) = stepL (stL l) c := by simp [stL]
def lastDot (m : List Nat) : List Nat := (m.reverse.takeWhile (· != 46)).reverse
def cutL (l : List Nat) : List Nat := lastDot (l.takeWhile (· != 58))
def NameOk (s n : List Nat) (e : Bool) : Prop :=
  ∀ t, nameL (s ++ t) = if e then n else if s.count 34 % 2 = 0 then n ++ nameL t else n ++ nameL (34 :: t)
theorem snocInd {P : List Nat → Prop} (h0 : P []) (hs : ∀ l c, P l → P (l ++ [c])) (l : List Nat) : P l := by
  have : ∀ r : List Nat, P r.reverse := by
    intro r
    induction r with
    | nil => exact h0
    | cons c r ih => rw [List.reverse_cons]; exact hs _ _ ih
  have h := this l.reverse
  rwa [List.reverse_reverse] at h
theorem NameOk.step {s n : List Nat} {e : Bool} (c : Nat) (h : NameOk s n e) :
    NameOk (s ++ [c]) (if !(e || ((s.count 34 % 2 != 0) && c != 34)) && ((s.count 34 % 2 != 0) || c != 34) then n ++ [c] else n) (e || ((s.count 34 % 2 != 0) && c != 34)) := by
  intro t
  rw [List.append_assoc, List.singleton_append, h (c :: t)]
  cases e with
  | true => simp
  | false =>
    by_cases h2 : s.count 34 % 2 = 0
    · by_cases hc : c = 34
      · subst hc
        have h3 : ¬ (s ++ [34]).count 34 % 2 = 0 := by rw [List.count_append, List.count_cons_self]; simp; omega
        rw [if_neg h3]
        simp [h2]
      · have h3 : (s ++ [c]).count 34 = s.count 34 := by rw [List.count_append, count_one_ne hc]; rfl
        rw [h3]
        simp [h2, hc, nameL_other _ _ hc]
    · have h2' : s.count 34 % 2 = 1 := by omega
      by_cases hc : c = 34
      · subst hc
        have h3 : (s ++ [34]).count 34 % 2 = 0 := by rw [List.count_append, List.count_cons_self]; simp; omega
        rw [if_pos h3]
        simp [h2', nameL_two]
      · have h3 : (s ++ [c]).count 34 = s.count 34 := by rw [List.count_append, count_one_ne hc]; rfl
        rw [h3]
        simp [h2', hc, nameL_stop _ _ hc]
theorem NameOk.whole {s n : List Nat} {e : Bool} (h : NameOk s n e) : nameL s = n := by
  have := h []
  rw [List.append_nil] at this
  rw [this]
  cases e with
  | true => rfl
  | false => split <;> simp [nameL]
theorem lastDot_snoc (m : List Nat) (c : Nat) : lastDot (m ++ [c]) = if c = 46 then [] else lastDot m ++ [c] := by
  unfold lastDot
  rw [List.reverse_append, List.reverse_singleton, List.singleton_append, List.takeWhile_cons]
  by_cases h : c = 46
  · subst h; simp
  · rw [if_pos (by simp [h]), if_neg h, List.reverse_cons]
theorem cut_snoc (l : List Nat) (c : Nat) : cutL (l ++ [c]) = if 58 ∈ l ∨ c = 58 then cutL l else if c = 46 then [] else cutL l ++ [c] := by
  unfold cutL
  by_cases h : 58 ∈ l
  · rw [takeWhile_snoc_past _ _ _ ⟨58, h, by decide⟩, if_pos (Or.inl h)]
  · have hl : ∀ d ∈ l, (d != 58) = true := fun d hd => by
      have : d ≠ 58 := fun e => h (e ▸ hd)
      simp [this]
    have hw : l.takeWhile (· != 58) = l := takeWhile_self _ _ hl
    rw [takeWhile_snoc_go _ _ _ hl]
    by_cases hc : c = 58
    · subst hc; rw [if_pos (Or.inr rfl)]; simp [hw]
    · have : (c != 58) = true := by simp [hc]
      rw [this, if_pos rfl, lastDot_snoc, if_neg (c := 58 ∈ l ∨ c = 58) (fun o => o.elim h hc), hw]
theorem st_ok (l : List Nat) : (stL l).1 = cutL l ∧ (stL l).2.2.2 = decide (58 ∈ l) ∧ NameOk (stL l).1 (stL l).2.1 (stL l).2.2.1 := by
  refine snocInd (P := fun l => (stL l).1 = cutL l ∧ (stL l).2.2.2 = decide (58 ∈ l) ∧ NameOk (stL l).1 (stL l).2.1 (stL l).2.2.1) ?_ ?_ l
  · refine ⟨rfl, rfl, fun t => ?_⟩
    simp [stL]
  · intro l c ⟨h1, h2, h3⟩
    rw [stL_snoc]
    unfold stepL
    rw [h2, cut_snoc]
    by_cases hc : (decide (58 ∈ l) || c == 58) = true
    · rw [if_pos hc]
      have hc' : 58 ∈ l ∨ c = 58 := by simpa using hc
      rw [if_pos hc']
      refine ⟨h1, ?_, h3⟩
      have : 58 ∈ l ++ [c] := by
        rcases hc' with h | h
        · simp [h]
        · simp [h]
      simp only [this, decide_true]
    · rw [if_neg hc]
      have hc' : ¬ (58 ∈ l ∨ c = 58) := by simpa using hc
      rw [if_neg hc']
      have hnot : 58 ∉ l ++ [c] := by
        intro m
        rcases List.mem_append.mp m with h | h
        · exact hc' (.inl h)
        · exact hc' (Or.inr (List.mem_singleton.mp h).symm)
      have hl : 58 ∉ l := fun m => hc' (.inl m)
      by_cases hd : c = 46
      · subst hd
        rw [if_pos (by simp), if_pos rfl]
        refine ⟨rfl, by simp [hnot, hl], fun t => ?_⟩
        simp
      · rw [if_neg (by simpa using hd), if_neg hd]
        refine ⟨by rw [h1], by simp [hnot, hl], h3.step c⟩
end Mine.Plain
end

/- part C0 -/
section
open PySem PySem.W PyProof.Rows
namespace Mine
open Plain
/-- a text of the numbers of its signs -/
def mk (l : List Nat) : Str := ⟨l.toArray⟩
def lst (x : Str) : List Nat := x.cps.toList

def stripS (x : Str) : Str := mk (cutL ((lst x).takeWhile (· != 10)))
def nameS (x : Str) : Str := mk (if ((lst x).drop 3).take 2 = [32, 34] then nameL ((lst x).drop 5) else [])
def sentB (x : Str) : Array UInt8 := ((sentL (lst x)).map Nat.toUInt8).toArray
def depthB (b : Array UInt8) : Int := netL (unqL (b.toList.map UInt8.toNat))
def byS (x : Str) : Int := byL (x.length + 1) (lst x)
def Asc (x : Str) : Prop := ∀ c ∈ lst x, c < 128 ∧ c ≠ 10
/-- the law's names behind i turns -/
def St (text : Str) (i : Nat) (stretch name : Str) (ended closed : Bool) : Prop := i ≤ text.length → stL ((lst text).take i) = (lst stretch, lst name, ended, closed)

/-- _law_text -/
def signOf (x : Int) : Nat := match (x.fmod 8).toNat with
  | 0 => 34 | 1 => 34 | 2 => 40 | 3 => 41 | 4 => 92 | 5 => 97 | 6 => 32 | _ => if ((x.fdiv 8).fmod 2).toNat = 0 then 46 else 58
def textS (ns : List Int) : Str := mk ((ns.take 6).map signOf ++ [40, 34, 34, 97, 34, 41])

abbrev ClaimL (w : World) (s₀ : Shared) (mg mb : Str → Option Value) (f : Addr) (news : List (Addr × Obj)) (A : List (Addr × List Value × List Int)) (pre : Prop) (vs : List Value) (R : Tok → Value) : Prop :=
  ∀ (dp un : Nat) (gd : Option (List Code)) (cn : Str) (cs : Scope) (a : Addr) (ccd : Value) (cl : List (Str × Addr)) (outer : List Env) (A₀ : Around) (base h₀ : Heap) (L : Addr) (m : Str → Option Value) (s : Shared) (Q E : Value → Shared → Prop),
    Below A₀ base outer h₀ → Fr h₀ L s.heap m → (hd.heap_39 w.params).In h₀ → News h₀ L s.heap news → Top hd.view_39 LS (ExcName.means s₀.heap) mg mb h₀ → cs.kind = .function →
    CbLists base A (pre → dp + 4 < recursionLimit → un + 40 < cLine → CbRet h₀ L m news s Q R →
      wpAny (model PG w) (ktrTop dp un gd cn cs L a ccd cl outer) (call (.ref f) vs) Q E s)
abbrev ClaimM (w : World) (s₀ : Shared) (mg mb : Str → Option Value) (f : Addr) (news : List (Addr × Obj)) (A : List (Addr × List Value × List Int)) (pre : Prop) (vs : List Value) (R : Tok → Value) : Prop :=
  ∀ (dp un : Nat) (gd : Option (List Code)) (cn : Str) (cs : Scope) (a : Addr) (ccd : Value) (cl : List (Str × Addr)) (outer : List Env) (A₀ : Around) (base h₀ : Heap) (L : Addr) (m : Str → Option Value) (s : Shared) (Q E : Value → Shared → Prop),
    Below A₀ base outer h₀ → Fr h₀ L s.heap m → (hd.heap_39 w.params).In h₀ → News h₀ L s.heap news → Top hd.view_39 LS (ExcName.means s₀.heap) mg mb h₀ → cs.kind = .function →
    CbLists base A (pre → dp + 10 < recursionLimit → un + 80 < cLine → CbRet h₀ L m news s Q R →
      wpAny (model PG w) (ktrTop dp un gd cn cs L a ccd cl outer) (call (.ref f) vs) Q E s)
abbrev ClaimS (w : World) (s₀ : Shared) (mg mb : Str → Option Value) (f : Addr) (news : List (Addr × Obj)) (pre : Prop) (vs : List Value) (x : Str) : Prop :=
  ∀ (dp un : Nat) (gd : Option (List Code)) (cn : Str) (cs : Scope) (a : Addr) (ccd : Value) (cl : List (Str × Addr)) (outer : List Env) (A₀ : Around) (base h₀ : Heap) (L : Addr) (m : Str → Option Value) (s : Shared) (Q E : Value → Shared → Prop),
    Below A₀ base outer h₀ → Fr h₀ L s.heap m → (hd.heap_39 w.params).In h₀ → News h₀ L s.heap news → Top hd.view_39 LS (ExcName.means s₀.heap) mg mb h₀ → cs.kind = .function →
    pre → dp + 4 < recursionLimit → un + 40 < cLine → (∀ (t : Tok) (h' : Heap) (tk' : Nat), Fr h₀ L h' m → News h₀ L h' news → (sentB x).size ≤ 260 → Q (.bytes (sentB x) t) { s with heap := h', toks := tk' }) →
      wpAny (model PG w) (ktrTop dp un gd cn cs L a ccd cl outer) (call (.ref f) vs) Q E s
/-- what the law's text is known by: at most twelve signs, each below 128, no line's end -/
def Good (x : Str) : Prop := x.length ≤ 12 ∧ Asc x
abbrev ClaimT (w : World) (s₀ : Shared) (mg mb : Str → Option Value) (f : Addr) (news : List (Addr × Obj)) (A : List (Addr × List Value × List Int)) (pre : Prop) (vs : List Value) : Prop :=
  ∀ (dp un : Nat) (gd : Option (List Code)) (cn : Str) (cs : Scope) (a : Addr) (ccd : Value) (cl : List (Str × Addr)) (outer : List Env) (A₀ : Around) (base h₀ : Heap) (L : Addr) (m : Str → Option Value) (s : Shared) (Q E : Value → Shared → Prop),
    Below A₀ base outer h₀ → Fr h₀ L s.heap m → (hd.heap_39 w.params).In h₀ → News h₀ L s.heap news → Top hd.view_39 LS (ExcName.means s₀.heap) mg mb h₀ → cs.kind = .function →
    CbLists base A (pre → dp + 4 < recursionLimit → un + 40 < cLine → (∀ (x : Str) (t : Tok) (h' : Heap) (tk' : Nat), x.length ≤ 12 → Good x → Fr h₀ L h' m → News h₀ L h' news → Q (.str x t) { s with heap := h', toks := tk' }) →
      wpAny (model PG w) (ktrTop dp un gd cn cs L a ccd cl outer) (call (.ref f) vs) Q E s)
end Mine
end

/- part S1 -/
section
open PySem PySem.W PyProof.Rows PySem.Builtin PySem.Builtin.Str
namespace Mine
open Plain
theorem lst_append (a b : Str) : lst (a ++ b) = lst a ++ lst b := by simp [lst, Str.cps_append]
theorem lst_mk (l : List Nat) : lst (mk l) = l := rfl
theorem mk_lst (x : Str) : mk (lst x) = x := rfl
theorem lst_inj {a b : Str} (h : lst a = lst b) : a = b := Str.ext' (Array.toList_inj.mp h)
theorem len_lst (x : Str) : x.length = (lst x).length := by simp [lst, Str.length]
theorem lst_nil : lst (Str.ofString "") = [] := by decide +kernel
theorem lst_257 : lst (Str.ofString "257 \"") = [50, 53, 55, 32, 34] := by decide +kernel
theorem lst_257' : lst (Str.ofString "257\"") = [50, 53, 55, 34] := by decide +kernel
theorem lst_257s : lst (Str.ofString "257 ") = [50, 53, 55, 32] := by decide +kernel
theorem lst_250 : lst (Str.ofString "250 \"") = [50, 53, 48, 32, 34] := by decide +kernel
theorem lst_257n : lst (Str.ofString "257") = [50, 53, 55] := by decide +kernel
theorem lst_colon : lst (Str.ofString ":") = [58] := by decide +kernel
theorem lst_quote : lst (Str.ofString "\"") = [34] := by decide +kernel
theorem lst_dot : lst (Str.ofString ".") = [46] := by decide +kernel
theorem lst_sq : lst (Str.ofString " \"") = [32, 34] := by decide +kernel
theorem len_257 : (Str.ofString "257 \"").length = 5 := by decide +kernel
theorem len_257' : (Str.ofString "257\"").length = 4 := by decide +kernel
theorem len_257s : (Str.ofString "257 ").length = 4 := by decide +kernel

/-- a slice from a to b, both from 0 up, clipped -/
theorem slice_ss (x : Str) (i j : Int) (hi : 0 ≤ i) (hj : 0 ≤ j) : lst (Txt.slice x (some i) (some j)) = ((lst x).drop i.toNat).take (j.toNat - i.toNat) := by
  have e : Txt.slice x (some i) (some j) = StrLaws.sliceText x (some (min i x.length)) (some (max (min i x.length) (min j x.length))) := by
    show StrLaws.sliceText x (some i) (some j) = _
    unfold StrLaws.sliceText
    have e1 : strSliceIndices (some i) (some j) 1 x.length = strSliceIndices (some (min i x.length)) (some (max (min i x.length) (min j x.length))) 1 x.length := by
      unfold strSliceIndices
      have a1 : ¬ i < 0 := by omega
      have a2 : ¬ j < 0 := by omega
      have a3 : ¬ (min i (x.length : Int)) < 0 := by omega
      have a4 : ¬ (max (min i (x.length : Int)) (min j x.length)) < 0 := by omega
      have b1 : max 0 (min i (x.length : Int)) = min i x.length := by omega
      have b2 : max 0 (min j (x.length : Int)) = min j x.length := by omega
      have b3 : max 0 (min (min i (x.length : Int)) x.length) = min i x.length := by omega
      have b4 : max 0 (min (max (min i (x.length : Int)) (min j x.length)) x.length) = max (min i (x.length : Int)) (min j x.length) := by omega
      simp only [a1, a2, a3, a4, if_false, show (1 : Int) > 0 from by decide, if_true, b1, b2, b3, b4]
      unfold sliceRange
      by_cases h : min i (x.length : Int) ≤ min j x.length
      · have : max (min i (x.length : Int)) (min j x.length) = min j x.length := by omega
        rw [this]
      · have : max (min i (x.length : Int)) (min j x.length) = min i x.length := by omega
        rw [this]
        simp
        omega
    rw [e1]
  have hl : x.length = x.cps.toList.length := by simp [Str.length]
  rw [e, StrLaws.sliceText_plain ⟨by omega, by omega, by omega⟩]
  show (((lst x).drop (min i (x.length : Int)).toNat).take (max (min i (x.length : Int)) (min j x.length) - min i x.length).toNat) = _
  have hl' : x.length = (lst x).length := len_lst x
  by_cases h : i ≤ x.length
  · have e1 : (min i (x.length : Int)).toNat = i.toNat := by omega
    rw [e1]
    by_cases h2 : j ≤ x.length
    · congr 1; omega
    · rw [List.take_of_length_le (by simp; omega), List.take_of_length_le (by simp; omega)]
  · rw [List.drop_eq_nil_of_le (by omega), List.drop_eq_nil_of_le (by omega)]; simp
theorem slice_to (x : Str) (j : Int) (hj : 0 ≤ j) : lst (Txt.slice x none (some j)) = (lst x).take j.toNat := by
  have e : Txt.slice x none (some j) = Txt.slice x (some 0) (some j) := by
    show StrLaws.sliceText x none (some j) = StrLaws.sliceText x (some 0) (some j)
    unfold StrLaws.sliceText; rw [StrLaws.sliceIdx_none_lo]
  rw [e, slice_ss x 0 j (by omega) hj]; simp
theorem slice_from (x : Str) (i : Int) (hi : 0 ≤ i) : lst (Txt.slice x (some i) none) = (lst x).drop i.toNat := by
  have e : Txt.slice x (some i) none = Txt.slice x (some i) (some (x.length : Int)) := by
    show StrLaws.sliceText x (some i) none = StrLaws.sliceText x (some i) (some (x.length : Int))
    unfold StrLaws.sliceText; rw [StrLaws.sliceIdx_none_hi]
  rw [e, slice_ss x i _ hi (by omega), List.take_of_length_le (by simp [len_lst])]
theorem pre257 (y : Str) : (lst (Str.ofString "257 \"" ++ y)).take 3 = [50, 53, 55] := by rw [lst_append, lst_257]; rfl
theorem pre257' (y : Str) : (lst (Str.ofString "257\"" ++ y)).take 3 = [50, 53, 55] := by rw [lst_append, lst_257']; rfl
theorem pre257s (y : Str) : (lst (Str.ofString "257 " ++ y)).take 3 = [50, 53, 55] := by rw [lst_append, lst_257s]; rfl
theorem is250 (y : Str) : (Txt.slice (Str.ofString "250 \"" ++ y) none (some 3) != Str.ofString "257") = true := by
  simp only [bne_iff_ne, ne_eq]
  intro h
  have := congrArg lst h
  rw [slice_to _ _ (by omega), lst_append, lst_250, lst_257n] at this
  simp at this
theorem is257 {x : Str} (h : (lst x).take 3 = [50, 53, 55]) : (Txt.slice x none (some 3) != Str.ofString "257") = false := by
  rw [bne_eq_false_iff_eq]
  apply lst_inj
  rw [slice_to _ _ (by omega), lst_257n]
  exact h
theorem name257 (y : Str) : (nameS (Str.ofString "257\"" ++ y) != Str.ofString "") = false := by
  rw [bne_eq_false_iff_eq]
  apply lst_inj
  rw [lst_nil]
  show (if ((lst (Str.ofString "257\"" ++ y)).drop 3).take 2 = [32, 34] then _ else []) = []
  rw [if_neg]
  rw [lst_append, lst_257']
  intro h
  have := congrArg (fun l => l.head?) h
  simp at this
section
variable {prog : Program} {w : World} {A : Around} {E : Value → Shared → Prop} {s : Shared} {y : Str} {t u : Tok} {Q : Value → Shared → Prop}
theorem ne257 (h : Q (.bool false) s) : wpAny (model prog w) A (compareOp .NotEq (.str (nameS (Str.ofString "257\"" ++ y)) t) (.str (Str.ofString "") u)) Q E s :=
  PyProof.Rows.ne_str (by rw [name257]; exact h)
theorem eq_same {x : Str} (h : Q (.bool true) s) : wpAny (model prog w) A (compareOp .Eq (.str x t) (.str x u)) Q E s :=
  PyProof.Rows.eq_str (by rw [show (x == x) = true from beq_self_eq_true x]; exact h)
theorem ne250 (h : Q (.bool true) s) : wpAny (model prog w) A (compareOp .NotEq (.str (Txt.slice (Str.ofString "250 \"" ++ y) none (some 3)) t) (.str (Str.ofString "257") u)) Q E s :=
  PyProof.Rows.ne_str (by rw [is250]; exact h)
end
end Mine
end

/- part S2 -/
section
open PySem PySem.W PyProof.Rows PySem.Builtin PySem.Builtin.Str
namespace Mine
open Plain
theorem cnt_count (c : Nat) : ∀ l : List Nat, cnt c l = (l.count c : Int)
  | [] => rfl
  | n :: r => by
    rw [cnt_cons, cnt_count c r, List.count_cons]
    by_cases h : n = c <;> simp [h]
    omega
theorem count_quote (x : Str) : Txt.count x (Str.ofString "\"") = ((lst x).count 34 : Int) := by
  rw [show Str.ofString "\"" = (⟨#[34]⟩ : Str) from by decide +kernel, count_is]
  exact cnt_count 34 (lst x)
theorem bytes_back (l : List Nat) (h : ∀ c ∈ l, c < 256) : (l.map Nat.toUInt8).map UInt8.toNat = l := by
  induction l with
  | nil => rfl
  | cons c l ih =>
    have hc := h c (by simp)
    simp only [List.map_cons]
    rw [ih fun d hd => h d (List.mem_cons_of_mem _ hd)]
    congr 1
    show (UInt8.ofNat c).toNat = c
    simp [UInt8.toNat_ofNat']
    omega
theorem esc_small (l : List Nat) (h : ∀ c ∈ l, c < 256) : ∀ c ∈ escL l, c < 256 := by
  intro c hc
  unfold escL at hc
  obtain ⟨d, hd, hm⟩ := List.mem_flatMap.mp hc
  have := h d hd
  split at hm
  · simp at hm; omega
  · split at hm
    · simp at hm; omega
    · simp at hm; omega
theorem dbl_small (l : List Nat) (h : ∀ c ∈ l, c < 256) : ∀ c ∈ dblL l, c < 256 := by
  intro c hc
  unfold dblL at hc
  obtain ⟨d, hd, hm⟩ := List.mem_flatMap.mp hc
  have := h d hd
  split at hm
  · simp at hm; omega
  · simp at hm; omega
theorem sent_small (l : List Nat) (h : ∀ c ∈ l, c < 256) : ∀ c ∈ sentL l, c < 256 := by
  intro c hc
  unfold sentL at hc
  rcases List.mem_cons.mp hc with e | hc
  · omega
  · rcases List.mem_append.mp hc with hc | hc
    · exact esc_small l h c hc
    · rcases List.mem_cons.mp hc with e | hc
      · omega
      · rcases List.mem_cons.mp hc with e | hc
        · omega
        · rcases List.mem_cons.mp hc with e | hc
          · omega
          · exact dbl_small l h c hc
theorem Asc.small {x : Str} (A : Asc x) : ∀ c ∈ lst x, c < 256 := fun c hc => Nat.lt_trans (A c hc).1 (by decide)
theorem Asc.line {x : Str} (A : Asc x) : 10 ∉ lst x := fun m => (A 10 m).2 rfl
theorem depth_sent {x : Str} (A : Asc x) (t : Array UInt8) (t' : List Nat) (ht : t.toList.map UInt8.toNat = t') : depthB (sentB x ++ t) = I (lst x) t' := by
  unfold depthB sentB
  rw [Array.toList_append, List.map_append, ht]
  show netL (unqL (((sentL (lst x)).map Nat.toUInt8).map UInt8.toNat ++ t')) = _
  rw [bytes_back _ (sent_small _ A.small), unq_sent _ _ A.line]
theorem depth_sent0 {x : Str} (A : Asc x) : depthB (sentB x) = I (lst x) [] := by
  have := depth_sent A #[] [] rfl
  rwa [Array.append_empty] at this

theorem ask3 {x : Str} (A : Asc x) (i : Int) : (i + depthB (sentB x ++ #[40, 34]) - i - depthB (sentB x ++ #[34]) != (Txt.count x (Str.ofString "\"")).fmod 2) = false := by
  rw [bne_eq_false_iff_eq, count_quote, depth_sent A #[40, 34] [40, 34] rfl, depth_sent A #[34] [34] rfl, (parity _ _ (Nat.le_refl _) A.line).1]
  have : ((List.count 34 (lst x) : Nat) : Int).fmod 2 = ((List.count 34 (lst x) % 2 : Nat) : Int) := by
    rw [Int.fmod_eq_emod_of_nonneg _ (by decide)]; omega
  rw [this]
  omega
theorem outside_is {x : Str} (A : Asc x) (i : Int) : i + depthB (sentB x ++ #[40, 34]) - i - depthB (sentB x ++ #[34]) = ((lst x).count 34 % 2 : Nat) := by
  rw [depth_sent A #[40, 34] [40, 34] rfl, depth_sent A #[34] [34] rfl, (parity _ _ (Nat.le_refl _) A.line).1]
  omega
theorem ask6 {x : Str} (A : Asc x) (i : Int) : (i + depthB (sentB x) != i + byS (Str.ofString "\"" ++ x)) = false := by
  rw [bne_eq_false_iff_eq, depth_sent0 A]
  unfold byS
  rw [by_is _ _ (by rw [len_lst]; omega) (by rw [lst_append, lst_quote]; have := A.line; simp [this]), lst_append, lst_quote]
  rw [show ([34] ++ lst x : List Nat) = [] ++ 34 :: lst x from rfl, O_split [] _ _ (by simp), netL_nil]
  omega
theorem ask4 {text s n : Str} {k : Nat} {e cl : Bool} (S : St text k s n e cl) (hk : k < ((text.length : Int) + 1 - 0).toNat) : (nameS (Str.ofString "257 \"" ++ s) != n) = false := by
  rw [bne_eq_false_iff_eq]
  apply lst_inj
  have hs := S (by omega)
  have h3 := (st_ok ((lst text).take k)).2.2
  rw [hs] at h3
  have h4 : nameL (lst s) = lst n := h3.whole
  have h5 : lst (Str.ofString "257 \"" ++ s) = 50 :: 53 :: 55 :: 32 :: 34 :: lst s := by rw [lst_append, lst_257]; rfl
  unfold nameS
  rw [lst_mk, h5]
  simp only [List.drop_succ_cons, List.drop_zero, List.take_succ_cons, List.take_zero, if_true]
  exact h4
theorem stretch_is {text s n : Str} {k : Nat} {e cl : Bool} (S : St text k s n e cl) (hk : k < ((text.length : Int) + 1 - 0).toNat) : cutL ((lst text).take k) = lst s := by
  have hs := S (by omega)
  have h1 := (st_ok ((lst text).take k)).1
  rw [hs] at h1
  exact h1.symm
theorem lst_strip (x : Str) : lst (stripS x) = cutL ((lst x).takeWhile (· != 10)) := rfl
theorem ask2 {text s n : Str} {k : Nat} {kN : Int} {e cl : Bool} (G : Good text) (hN : kN = 0 + (k : Int)) (hk : k < ((text.length : Int) + 1 - 0).toNat) (S : St text k s n e cl) : (stripS (Txt.slice text none (some kN)) != s) = false := by
  rw [bne_eq_false_iff_eq]
  apply lst_inj
  rw [← stretch_is S hk]
  have e : kN.toNat = k := by omega
  rw [lst_strip, slice_to _ _ (by omega), e, takeWhile_self]
  intro c hc
  have := (G.2 c (List.mem_of_mem_take hc)).2
  simp [this]
theorem ask1 {text s n : Str} {k : Nat} {kN : Int} {e cl : Bool} (G : Good text) (hN : kN = 0 + (k : Int)) (hk : k < ((text.length : Int) + 1 - 0).toNat) (S : St text k s n e cl) :
    (stripS (Txt.slice text none (some kN) ++ Str.ofString ":" ++ Txt.slice text (some kN) none) != s) = false := by
  rw [bne_eq_false_iff_eq]
  apply lst_inj
  rw [← stretch_is S hk]
  have e : kN.toNat = k := by omega
  rw [lst_strip, lst_append, lst_append, slice_to _ _ (by omega), slice_from _ _ (by omega), lst_colon, e, takeWhile_self]
  · show lastDot _ = lastDot _
    refine congrArg lastDot ?_
    rw [List.append_assoc]
    by_cases h : 58 ∈ (lst text).take k
    · rw [takeWhile_snoc_past (· != 58) _ ((lst text).take k) ⟨58, h, rfl⟩]
    · have hl : ∀ d ∈ (lst text).take k, (d != 58) = true := fun d hd => by
        have : d ≠ 58 := fun e => h (e ▸ hd)
        simp [this]
      rw [takeWhile_self _ _ hl, ← List.append_assoc, takeWhile_snoc_past (· != 58) ((lst text).drop k) ((lst text).take k ++ [58]) ⟨58, List.mem_append_right _ (List.mem_singleton.mpr rfl), rfl⟩, takeWhile_snoc_go _ _ _ hl]
      simp
  · intro c hc
    have hg : c ∈ lst text ∨ c = 58 := by
      rcases List.mem_append.mp hc with h | h
      · rcases List.mem_append.mp h with h | h
        · exact .inl (List.mem_of_mem_take h)
        · exact .inr (List.mem_singleton.mp h)
      · exact .inl (List.mem_of_mem_drop h)
    rcases hg with h | h
    · have := (G.2 c h).2; simp [this]
    · subst h; decide

section ends
variable {text s n : Str} {kPre : List Int} {kN : Int} {e cl : Bool}
theorem st_next (c : Nat) (S : St text kPre.length s n e cl) (hc : (lst text)[kPre.length]? = some c) (s' n' : Str) (e' cl' : Bool) (h : stepL (lst s, lst n, e, cl) c = (lst s', lst n', e', cl')) : St text (kPre ++ [kN]).length s' n' e' cl' := by
  intro hl
  simp only [List.length_append, List.length_singleton] at hl ⊢
  rw [List.take_add_one, hc, Option.toList_some, stL_snoc, S (by omega), h]
theorem sign_one (hN : kN = 0 + (kPre.length : Int)) (c : Nat) (hc : (lst text)[kPre.length]? = some c) : lst (Txt.slice text (some kN) (some (kN + 1))) = [c] := by
  rw [slice_ss _ _ _ (by omega) (by omega)]
  have e1 : kN.toNat = kPre.length := by omega
  have e2 : (kN + 1).toNat - kN.toNat = 1 := by omega
  rw [e2, e1]
  obtain ⟨hlt, he⟩ := List.getElem?_eq_some_iff.mp hc
  rw [List.drop_eq_getElem_cons hlt, he]; rfl
theorem sign_none (hN : kN = 0 + (kPre.length : Int)) (hc : (lst text)[kPre.length]? = none) : lst (Txt.slice text (some kN) (some (kN + 1))) = [] := by
  rw [slice_ss _ _ _ (by omega) (by omega)]
  have := List.getElem?_eq_none_iff.mp hc
  rw [List.drop_eq_nil_of_le (by omega)]; simp
theorem no_more (hc : (lst text)[kPre.length]? = none) (s' n' : Str) (e' cl' : Bool) : St text (kPre ++ [kN]).length s' n' e' cl' := by
  intro hl
  have := List.getElem?_eq_none_iff.mp hc
  rw [len_lst] at hl
  simp at hl
  omega
theorem is_sign {x : Str} {c : Nat} {y : Str} {d : Nat} (hx : lst x = [c]) (hy : lst y = [d]) : (x == y) = decide (c = d) := by
  by_cases h : c = d
  · subst h
    rw [lst_inj (hx.trans hy.symm)]
    simp
  · have : x ≠ y := fun e => h (by rw [e, hy] at hx; exact (List.cons.inj hx).1.symm)
    simp [h, this]
theorem ns_sign {x : Str} {c : Nat} {y : Str} {d : Nat} (hx : lst x = [c]) (hy : lst y = [d]) : (x != y) = decide (c ≠ d) := by
  show (!(x == y)) = _
  rw [is_sign hx hy]; by_cases h : c = d <;> simp [h]
theorem end_closed (S : St text kPre.length s n e cl) (h1 : s.length ≤ kPre.length) (h2 : n.length ≤ kPre.length) (A : Asc s) (hc : cl = true) :
    s.length ≤ (kPre ++ [kN]).length ∧ n.length ≤ (kPre ++ [kN]).length ∧ Asc s ∧ St text (kPre ++ [kN]).length s n e true := by
  refine ⟨by simp; omega, by simp; omega, A, ?_⟩
  subst hc
  cases h : (lst text)[kPre.length]? with
  | none => exact no_more h _ _ _ _
  | some c => exact st_next c S h _ _ _ _ (by simp [stepL])
theorem end_colon (hN : kN = 0 + (kPre.length : Int)) (S : St text kPre.length s n e cl) (h1 : s.length ≤ kPre.length) (h2 : n.length ≤ kPre.length) (A : Asc s) (hs : (Txt.slice text (some kN) (some (kN + 1)) == Str.ofString ":") = true) :
    s.length ≤ (kPre ++ [kN]).length ∧ n.length ≤ (kPre ++ [kN]).length ∧ Asc s ∧ St text (kPre ++ [kN]).length s n e true := by
  refine ⟨by simp; omega, by simp; omega, A, ?_⟩
  cases h : (lst text)[kPre.length]? with
  | none => exact no_more h _ _ _ _
  | some c =>
    rw [is_sign (sign_one hN c h) lst_colon] at hs
    have hs' : c = 58 := by simpa using hs
    exact st_next c S h _ _ _ _ (by simp [stepL, hs'])
theorem end_dot (hN : kN = 0 + (kPre.length : Int)) (S : St text kPre.length s n e cl) (hc : cl = false) (h0 : (Txt.slice text (some kN) (some (kN + 1)) == Str.ofString ":") = false) (hs : (Txt.slice text (some kN) (some (kN + 1)) == Str.ofString ".") = true) :
    (Str.ofString "").length ≤ (kPre ++ [kN]).length ∧ (Str.ofString "").length ≤ (kPre ++ [kN]).length ∧ Asc (Str.ofString "") ∧ St text (kPre ++ [kN]).length (Str.ofString "") (Str.ofString "") false cl := by
  have hz : (Str.ofString "").length = 0 := by decide +kernel
  refine ⟨by omega, by omega, fun c hc => by rw [lst_nil] at hc; exact absurd hc (by simp), ?_⟩
  subst hc
  cases h : (lst text)[kPre.length]? with
  | none => exact no_more h _ _ _ _
  | some c =>
    rw [is_sign (sign_one hN c h) lst_dot] at hs
    have hs' : c = 46 := by simpa using hs
    exact st_next c S h _ _ _ _ (by simp [stepL, hs', lst_nil])
theorem end_more (G : Good text) (hN : kN = 0 + (kPre.length : Int)) (S : St text kPre.length s n e cl) (h1 : s.length ≤ kPre.length) (h2 : n.length ≤ kPre.length) (A : Asc s) (hc : cl = false)
    (h0 : (Txt.slice text (some kN) (some (kN + 1)) == Str.ofString ":") = false) (hs : (Txt.slice text (some kN) (some (kN + 1)) == Str.ofString ".") = false) (n' : Str) (e' : Bool)
    (he : e' = (e || (((lst s).count 34 % 2 != 0) && (Txt.slice text (some kN) (some (kN + 1)) != Str.ofString "\""))))
    (hn : n' = if !e' && (((lst s).count 34 % 2 != 0) || (Txt.slice text (some kN) (some (kN + 1)) != Str.ofString "\"")) then n ++ Txt.slice text (some kN) (some (kN + 1)) else n) :
    (s ++ Txt.slice text (some kN) (some (kN + 1))).length ≤ (kPre ++ [kN]).length ∧ n'.length ≤ (kPre ++ [kN]).length ∧ Asc (s ++ Txt.slice text (some kN) (some (kN + 1))) ∧ St text (kPre ++ [kN]).length (s ++ Txt.slice text (some kN) (some (kN + 1))) n' e' cl := by
  have hlen : (lst (Txt.slice text (some kN) (some (kN + 1)))).length ≤ 1 := by
    rw [slice_ss _ _ _ (by omega) (by omega)]; simp; omega
  have l1 : (s ++ Txt.slice text (some kN) (some (kN + 1))).length ≤ (kPre ++ [kN]).length := by
    rw [len_lst, lst_append, List.length_append, ← len_lst]; simp; omega
  have l2 : n'.length ≤ (kPre ++ [kN]).length := by
    rw [hn]
    split
    · rw [len_lst, lst_append, List.length_append, ← len_lst]; simp; omega
    · simp; omega
  have l3 : Asc (s ++ Txt.slice text (some kN) (some (kN + 1))) := by
    intro c hc
    rw [lst_append] at hc
    rcases List.mem_append.mp hc with h | h
    · exact A c h
    · rw [slice_ss _ _ _ (by omega) (by omega)] at h
      exact G.2 c (List.mem_of_mem_drop (List.mem_of_mem_take h))
  refine ⟨l1, l2, l3, ?_⟩
  subst hc
  cases h : (lst text)[kPre.length]? with
  | none => exact no_more h _ _ _ _
  | some c =>
    have hx := sign_one hN c h
    rw [is_sign hx lst_colon] at h0
    rw [is_sign hx lst_dot] at hs
    rw [ns_sign hx lst_quote] at he hn
    have hc1 : c ≠ 58 := by simpa using h0
    have hc2 : c ≠ 46 := by simpa using hs
    refine st_next c S h _ _ _ _ ?_
    unfold stepL
    rw [if_neg (by simp [hc1]), if_neg (by simp [hc2])]
    have hq : (c != 34) = decide (c ≠ 34) := by by_cases h : c = 34 <;> simp [h]
    simp only [hq]
    rw [← he]
    refine Prod.ext (by rw [lst_append, hx]) (Prod.ext ?_ rfl)
    rw [hn]
    show (if _ then _ else _) = lst (if _ then _ else _)
    split
    · rw [lst_append, hx]
    · rfl
theorem end_v1 (G : Good text) (hN : kN = 0 + (kPre.length : Int)) (S : St text kPre.length s n e cl) (h1 : s.length ≤ kPre.length) (h2 : n.length ≤ kPre.length) (A : Asc s) (hc : cl = false)
    (h0 : (Txt.slice text (some kN) (some (kN + 1)) == Str.ofString ":") = false) (hs : (Txt.slice text (some kN) (some (kN + 1)) == Str.ofString ".") = false) {i : Int}
    (ho : i + depthB (sentB s ++ #[40, 34]) - i - depthB (sentB s ++ #[34]) ≠ 0) (hq : (Txt.slice text (some kN) (some (kN + 1)) != Str.ofString "\"") = true) :
    (s ++ Txt.slice text (some kN) (some (kN + 1))).length ≤ (kPre ++ [kN]).length ∧ n.length ≤ (kPre ++ [kN]).length ∧ Asc (s ++ Txt.slice text (some kN) (some (kN + 1))) ∧ St text (kPre ++ [kN]).length (s ++ Txt.slice text (some kN) (some (kN + 1))) n true cl := by
  rw [outside_is A] at ho
  have ho' : ((lst s).count 34 % 2 != 0) = true := by simp; omega
  exact end_more G hN S h1 h2 A hc h0 hs n true (by simp [ho', hq]) (by simp)
theorem end_v2 (G : Good text) (hN : kN = 0 + (kPre.length : Int)) (S : St text kPre.length s n e cl) (h1 : s.length ≤ kPre.length) (h2 : n.length ≤ kPre.length) (A : Asc s) (hc : cl = false)
    (h0 : (Txt.slice text (some kN) (some (kN + 1)) == Str.ofString ":") = false) (hs : (Txt.slice text (some kN) (some (kN + 1)) == Str.ofString ".") = false) (he : e = true) :
    (s ++ Txt.slice text (some kN) (some (kN + 1))).length ≤ (kPre ++ [kN]).length ∧ n.length ≤ (kPre ++ [kN]).length ∧ Asc (s ++ Txt.slice text (some kN) (some (kN + 1))) ∧ St text (kPre ++ [kN]).length (s ++ Txt.slice text (some kN) (some (kN + 1))) n e cl := by
  subst he
  exact end_more G hN S h1 h2 A hc h0 hs n true (by simp) (by simp)
theorem end_v3 (G : Good text) (hN : kN = 0 + (kPre.length : Int)) (S : St text kPre.length s n e cl) (h1 : s.length ≤ kPre.length) (h2 : n.length ≤ kPre.length) (A : Asc s) (hc : cl = false)
    (h0 : (Txt.slice text (some kN) (some (kN + 1)) == Str.ofString ":") = false) (hs : (Txt.slice text (some kN) (some (kN + 1)) == Str.ofString ".") = false) {i : Int} (he : e = false)
    (ho : i + depthB (sentB s ++ #[40, 34]) - i - depthB (sentB s ++ #[34]) ≠ 0) (hq : (Txt.slice text (some kN) (some (kN + 1)) != Str.ofString "\"") = false) :
    (s ++ Txt.slice text (some kN) (some (kN + 1))).length ≤ (kPre ++ [kN]).length ∧ (n ++ Txt.slice text (some kN) (some (kN + 1))).length ≤ (kPre ++ [kN]).length ∧ Asc (s ++ Txt.slice text (some kN) (some (kN + 1))) ∧ St text (kPre ++ [kN]).length (s ++ Txt.slice text (some kN) (some (kN + 1))) (n ++ Txt.slice text (some kN) (some (kN + 1))) e cl := by
  rw [outside_is A] at ho
  have ho' : ((lst s).count 34 % 2 != 0) = true := by simp; omega
  subst he
  exact end_more G hN S h1 h2 A hc h0 hs _ false (by simp [hq]) (by simp [ho'])
theorem end_v5 (G : Good text) (hN : kN = 0 + (kPre.length : Int)) (S : St text kPre.length s n e cl) (h1 : s.length ≤ kPre.length) (h2 : n.length ≤ kPre.length) (A : Asc s) (hc : cl = false)
    (h0 : (Txt.slice text (some kN) (some (kN + 1)) == Str.ofString ":") = false) (hs : (Txt.slice text (some kN) (some (kN + 1)) == Str.ofString ".") = false) {i : Int} (he : e = false)
    (ho : i + depthB (sentB s ++ #[40, 34]) - i - depthB (sentB s ++ #[34]) = 0) (hq : (Txt.slice text (some kN) (some (kN + 1)) != Str.ofString "\"") = true) :
    (s ++ Txt.slice text (some kN) (some (kN + 1))).length ≤ (kPre ++ [kN]).length ∧ (n ++ Txt.slice text (some kN) (some (kN + 1))).length ≤ (kPre ++ [kN]).length ∧ Asc (s ++ Txt.slice text (some kN) (some (kN + 1))) ∧ St text (kPre ++ [kN]).length (s ++ Txt.slice text (some kN) (some (kN + 1))) (n ++ Txt.slice text (some kN) (some (kN + 1))) e cl := by
  rw [outside_is A] at ho
  have ho' : ((lst s).count 34 % 2 != 0) = false := by simp; omega
  subst he
  exact end_more G hN S h1 h2 A hc h0 hs _ false (by simp [ho']) (by simp [hq])
theorem end_v6 (G : Good text) (hN : kN = 0 + (kPre.length : Int)) (S : St text kPre.length s n e cl) (h1 : s.length ≤ kPre.length) (h2 : n.length ≤ kPre.length) (A : Asc s) (hc : cl = false)
    (h0 : (Txt.slice text (some kN) (some (kN + 1)) == Str.ofString ":") = false) (hs : (Txt.slice text (some kN) (some (kN + 1)) == Str.ofString ".") = false) {i : Int} (he : e = false)
    (ho : i + depthB (sentB s ++ #[40, 34]) - i - depthB (sentB s ++ #[34]) = 0) (hq : (Txt.slice text (some kN) (some (kN + 1)) != Str.ofString "\"") = false) :
    (s ++ Txt.slice text (some kN) (some (kN + 1))).length ≤ (kPre ++ [kN]).length ∧ n.length ≤ (kPre ++ [kN]).length ∧ Asc (s ++ Txt.slice text (some kN) (some (kN + 1))) ∧ St text (kPre ++ [kN]).length (s ++ Txt.slice text (some kN) (some (kN + 1))) n e cl := by
  rw [outside_is A] at ho
  have ho' : ((lst s).count 34 % 2 != 0) = false := by simp; omega
  subst he
  exact end_more G hN S h1 h2 A hc h0 hs _ false (by simp [ho']) (by simp [ho', hq])
theorem start_ok (text : Str) : (Str.ofString "").length ≤ ([] : List Int).length ∧ (Str.ofString "").length ≤ ([] : List Int).length ∧ Asc (Str.ofString "") ∧ St text ([] : List Int).length (Str.ofString "") (Str.ofString "") false false := by
  have hz : (Str.ofString "").length = 0 := by decide +kernel
  refine ⟨by omega, by omega, fun c hc => by rw [lst_nil] at hc; exact absurd hc (by simp), fun _ => ?_⟩
  rw [lst_nil]; rfl
end ends
theorem asc_quote {x : Str} (A : Asc x) : 10 ∉ lst (Str.ofString "\"" ++ x) := by
  rw [lst_append, lst_quote]
  intro m
  rcases List.mem_append.mp m with m | m
  · simp at m
  · exact A.line m
end Mine
end

/- part F1 -/
section
open PySem PySem.W PyProof.Rows PySem.Builtin PySem.Builtin.Str
namespace Mine
open Plain
def find4 (x y : Str) (i j : Int) : Int := match occurrences x y (fromIndex x.length i) (min (fromIndex x.length j) x.length) 1 with | k :: _ => (k : Int) | [] => -1
def rfind4 (x y : Str) (i j : Int) : Int := match lastOccurrence x y (fromIndex x.length i) (min (fromIndex x.length j) x.length) with | some k => (k : Int) | none => -1
theorem gives_find4 (x y : Str) (i j : Int) (t u v w : Tok) : Gives (Builtin.«str.find» ⟨[.str x t, .str y u, .int i v, .int j w], []⟩) (.int (find4 x y i j)) := by
  show Gives (match occurrences x y (fromIndex x.length i) (min (fromIndex x.length j) x.length) 1 with | k :: _ => retInt k | [] => (do rule "str.find.not-found"; retInt (-1))) _
  unfold find4
  cases occurrences x y (fromIndex x.length i) (min (fromIndex x.length j) x.length) 1 with
  | nil => exact .rule (.of_eq rfl)
  | cons k _ => exact .of_eq rfl
theorem gives_rfind4 (x y : Str) (i j : Int) (t u v w : Tok) : Gives (Builtin.«str.rfind» ⟨[.str x t, .str y u, .int i v, .int j w], []⟩) (.int (rfind4 x y i j)) := by
  show Gives (match lastOccurrence x y (fromIndex x.length i) (min (fromIndex x.length j) x.length) with | some k => retInt k | none => (do rule "str.rfind.not-found"; retInt (-1))) _
  unfold rfind4
  cases lastOccurrence x y (fromIndex x.length i) (min (fromIndex x.length j) x.length) with
  | none => exact .rule (.of_eq rfl)
  | some k => exact .of_eq rfl
theorem args_find4 (a b c d : Value) : argsOk "str.find" ⟨[a, b, c, d], []⟩ := by unfold argsOk; kernel_rfl
theorem args_rfind4 (a b c d : Value) : argsOk "str.rfind" ⟨[a, b, c, d], []⟩ := by unfold argsOk; kernel_rfl
section
variable {prog : Program} {w : World} {A : Around} {E : Value → Shared → Prop} {s : Shared} {x y : Str} {t u v v' : Tok} {i j : Int} {Q : Value → Shared → Prop}
theorem call_find4 (hq : Q (.int (find4 x y i j) s.toks) { s with toks := s.toks + 1 }) : wpAny (model prog w) A (call (.builtin "str.find") [.str x t, .str y u, .int i v, .int j v']) Q E s :=
  call_gives F.slot_str_find (typeIs_str _ _ _) F.entry_str_find (args_find4 _ _ _ _) (gives_find4 x y i j t u v v') hq
theorem call_rfind4 (hq : Q (.int (rfind4 x y i j) s.toks) { s with toks := s.toks + 1 }) : wpAny (model prog w) A (call (.builtin "str.rfind") [.str x t, .str y u, .int i v, .int j v']) Q E s :=
  call_gives F.slot_str_rfind (typeIs_str _ _ _) F.entry_str_rfind (args_rfind4 _ _ _ _) (gives_rfind4 x y i j t u v v') hq
end
theorem at_sign (x : Str) (c hi i : Nat) : StrLaws.At x ⟨#[c]⟩ hi i ↔ i < hi ∧ (lst x)[i]? = some c := by
  show (i + 1 ≤ hi ∧ subAt x ⟨#[c]⟩ i = true) ↔ _
  rw [StrLaws.subAt_eq]
  exact and_congr Iff.rfl StrLaws.take1_drop
theorem take_at (l : List Nat) (hi i : Nat) (c : Nat) : (l.take hi)[i]? = some c ↔ i < hi ∧ l[i]? = some c := by
  rw [List.getElem?_take]
  by_cases h : i < hi <;> simp [h]
theorem first_is (m : List Nat) (c k : Nat) (h1 : m[k]? = some c) (h2 : ∀ i, i < k → m[i]? ≠ some c) : (m.takeWhile (· != c)).length = k := by
  induction k generalizing m with
  | zero =>
    cases m with
    | nil => simp at h1
    | cons d r => simp at h1; subst h1; simp
  | succ k ih =>
    cases m with
    | nil => simp at h1
    | cons d r =>
      have hd : d ≠ c := fun e => h2 0 (by omega) (by simp [e])
      rw [List.takeWhile_cons, if_pos (by simp [hd]), List.length_cons, ih r (by simpa using h1) fun i hi => by have := h2 (i + 1) (by omega); simpa using this]
theorem occ_hi (x : Str) (c hi : Nat) :
    (occurrences x ⟨#[c]⟩ 0 hi 1 = [] ∧ ∀ i : Nat, ¬ ((lst x).take hi)[i]? = some c) ∨
    ∃ k r, occurrences x ⟨#[c]⟩ 0 hi 1 = k :: r ∧ ((lst x).take hi)[k]? = some c ∧ ∀ i : Nat, i < k → ¬ ((lst x).take hi)[i]? = some c := by
  rw [StrLaws.occ_eq]
  have hz : ∀ i, i ∈ List.range' 0 (hi + 1 - 0) ↔ i < hi + 1 := fun i => by rw [List.mem_range'_1]; omega
  rcases StrLaws.occ_first x ⟨#[c]⟩ hi 1 (Nat.le_refl 1) (List.range' 0 (hi + 1 - 0)) 0 (fun i _ => Nat.zero_le i) with ⟨h0, hn⟩ | ⟨pre, a, post, e, h0, ha, hn⟩
  · refine .inl ⟨by rw [h0], fun i hi' => ?_⟩
    have h' := (take_at _ _ _ _).mp hi'
    exact hn i ((hz i).mpr (by omega)) ((at_sign x c hi i).mpr h')
  · have hs := StrLaws.range'_split_from e
    generalize (forIn (List.range' 0 (hi + 1 - 0)) ((#[] : Array Nat), 0) (StrLaws.occBody x ⟨#[c]⟩ hi 1)).run.fst = arr at h0
    have h1 : arr.toList[0]? = some a := by simpa using h0
    cases hL : arr.toList with
    | nil => rw [hL] at h1; cases h1
    | cons b t =>
      rw [hL] at h1
      have : b = a := by simpa using h1
      subst this
      refine .inr ⟨b, t, rfl, (take_at _ _ _ _).mpr ((at_sign x c hi b).mp ha), fun i hi' h' => ?_⟩
      exact hn i (hs.2 i (Nat.zero_le i) hi') ((at_sign x c hi i).mpr ((take_at _ _ _ _).mp h'))
theorem last_hi (x : Str) (c hi : Nat) :
    (lastOccurrence x ⟨#[c]⟩ 0 hi = none ∧ ∀ i : Nat, ¬ ((lst x).take hi)[i]? = some c) ∨
    ∃ k, lastOccurrence x ⟨#[c]⟩ 0 hi = some k ∧ ((lst x).take hi)[k]? = some c ∧ ∀ i : Nat, k < i → ¬ ((lst x).take hi)[i]? = some c := by
  rw [StrLaws.last_eq]
  have key := StrLaws.last_run x ⟨#[c]⟩ hi (List.range' 0 (hi + 1 - 0)) [] none (fun _ h => nomatch h) (fun _ h => nomatch h) (by simpa using List.pairwise_lt_range' (s := 0) (n := hi + 1 - 0))
  have hz : ∀ i, ((lst x).take hi)[i]? = some c → i ∈ [] ++ List.range' 0 (hi + 1 - 0) := fun i h => by
    have := (take_at _ _ _ _).mp h
    rw [List.nil_append, List.mem_range'_1]; omega
  cases hr : (forIn (List.range' 0 (hi + 1 - 0)) none (StrLaws.lastBody x ⟨#[c]⟩ hi)).run with
  | none =>
    rw [hr] at key
    exact .inl ⟨rfl, fun i h => key i (hz i h) ((at_sign x c hi i).mpr ((take_at _ _ _ _).mp h))⟩
  | some a =>
    rw [hr] at key
    exact .inr ⟨a, rfl, (take_at _ _ _ _).mpr ((at_sign x c hi a).mp key.1), fun i hi' h => key.2 i (hz i h) hi' ((at_sign x c hi i).mpr ((take_at _ _ _ _).mp h))⟩
theorem not_mem_of {m : List Nat} {c : Nat} (h : ∀ i : Nat, ¬ m[i]? = some c) : c ∉ m := fun hm => by
  obtain ⟨i, hi⟩ := List.getElem?_of_mem hm
  exact h i hi
theorem find4_spec (x : Str) (c : Nat) (j : Int) (h0 : 0 ≤ j) (hj : j ≤ x.length) :
    (c ∉ (lst x).take j.toNat ∧ find4 x ⟨#[c]⟩ 0 j = -1) ∨ (c ∈ (lst x).take j.toNat ∧ find4 x ⟨#[c]⟩ 0 j = ((((lst x).take j.toNat).takeWhile (· != c)).length : Nat)) := by
  have e1 : fromIndex x.length 0 = 0 := by unfold fromIndex; simp
  have e2 : min (fromIndex x.length j) x.length = j.toNat := by unfold fromIndex; rw [if_neg (by omega)]; omega
  unfold find4
  rw [e1, e2]
  rcases occ_hi x c j.toNat with ⟨h, hn⟩ | ⟨k, r, h, hk, hn⟩
  · rw [h]; exact .inl ⟨not_mem_of hn, rfl⟩
  · rw [h]; exact .inr ⟨List.mem_of_getElem? hk, by rw [first_is _ c k hk hn]⟩
theorem find_spec (x : Str) (c : Nat) :
    (c ∉ lst x ∧ Txt.find x ⟨#[c]⟩ = -1) ∨ (c ∈ lst x ∧ Txt.find x ⟨#[c]⟩ = (((lst x).takeWhile (· != c)).length : Nat)) := by
  have e : (lst x).take x.length = lst x := by rw [len_lst, List.take_length]
  unfold Txt.find
  rcases occ_hi x c x.length with ⟨h, hn⟩ | ⟨k, r, h, hk, hn⟩
  · rw [h]; rw [e] at hn; exact .inl ⟨not_mem_of hn, rfl⟩
  · rw [h]; rw [e] at hk hn; exact .inr ⟨List.mem_of_getElem? hk, by rw [first_is _ c k hk hn]⟩
theorem rfind4_spec (x : Str) (c : Nat) (j : Int) (h0 : 0 ≤ j) (hj : j ≤ x.length) :
    (c ∉ (lst x).take j.toNat ∧ rfind4 x ⟨#[c]⟩ 0 j = -1) ∨ ∃ k : Nat, rfind4 x ⟨#[c]⟩ 0 j = k ∧ ((lst x).take j.toNat)[k]? = some c ∧ ∀ i : Nat, k < i → ¬ ((lst x).take j.toNat)[i]? = some c := by
  have e1 : fromIndex x.length 0 = 0 := by unfold fromIndex; simp
  have e2 : min (fromIndex x.length j) x.length = j.toNat := by unfold fromIndex; rw [if_neg (by omega)]; omega
  unfold rfind4
  rw [e1, e2]
  rcases last_hi x c j.toNat with ⟨h, hn⟩ | ⟨k, h, hk, hn⟩
  · rw [h]; exact .inl ⟨not_mem_of hn, rfl⟩
  · rw [h]; exact .inr ⟨k, rfl, hk, hn⟩
end Mine
end

/- part F2 -/
section
open PySem PySem.W PyProof.Rows PySem.Builtin PySem.Builtin.Str
namespace Mine
open Plain
theorem takeWhile_stop (p : Nat → Bool) (x : Nat) (b : List Nat) (hx : p x = false) : ∀ a : List Nat, (∀ c ∈ a, p c = true) → (a ++ x :: b).takeWhile p = a
  | [], _ => by simp [hx]
  | c :: a, h => by rw [List.cons_append, List.takeWhile_cons, h c (by simp), if_pos rfl, takeWhile_stop p x b hx a fun d hd => h d (List.mem_cons_of_mem _ hd)]
theorem take_while_len (p : Nat → Bool) : ∀ l : List Nat, l.take (l.takeWhile p).length = l.takeWhile p
  | [] => rfl
  | c :: l => by
    rw [List.takeWhile_cons]
    cases p c with
    | true => simp [take_while_len p l]
    | false => rfl
theorem while_all (l : List Nat) (c : Nat) (h : c ∉ l) : l.takeWhile (· != c) = l := takeWhile_self _ _ fun d hd => by
  have : d ≠ c := fun e => h (e ▸ hd)
  simp [this]
theorem while_le (p : Nat → Bool) (l : List Nat) : (l.takeWhile p).length ≤ l.length := by
  have := congrArg List.length (take_while_len p l)
  rw [List.length_take] at this; omega
theorem lastDot_at (m : List Nat) (k : Nat) (h1 : m[k]? = some 46) (h2 : ∀ i : Nat, k < i → ¬ m[i]? = some 46) : lastDot m = m.drop (k + 1) := by
  obtain ⟨hlt, he⟩ := List.getElem?_eq_some_iff.mp h1
  have e : m = m.take k ++ 46 :: m.drop (k + 1) := by
    rw [← he, ← List.drop_eq_getElem_cons hlt, List.take_append_drop]
  have hn : ∀ c ∈ (m.drop (k + 1)).reverse, (c != 46) = true := fun c hc => by
    have hc' := List.mem_reverse.mp hc
    obtain ⟨i, hi⟩ := List.getElem?_of_mem hc'
    rw [List.getElem?_drop] at hi
    have : c ≠ 46 := fun e => h2 (k + 1 + i) (by omega) (by rw [hi, e])
    simp [this]
  unfold lastDot
  have e2 : m.reverse = (m.drop (k + 1)).reverse ++ 46 :: (m.take k).reverse := by
    conv => lhs; rw [e]
    simp
  rw [e2, takeWhile_stop _ _ _ (by decide) _ hn, List.reverse_reverse]
theorem lastDot_none (m : List Nat) (h : 46 ∉ m) : lastDot m = m := by
  unfold lastDot
  rw [while_all _ _ (by simpa using h), List.reverse_reverse]
theorem line_is {x : Str} {r : Int} (h : 0 ≤ Txt.find x (Str.ofString "\n") ∧ r = Txt.find x (Str.ofString "\n") ∨ ¬ 0 ≤ Txt.find x (Str.ofString "\n") ∧ r = x.length) :
    0 ≤ r ∧ r ≤ x.length ∧ (lst x).take r.toNat = (lst x).takeWhile (· != 10) := by
  rw [show Str.ofString "\n" = (⟨#[10]⟩ : Str) from by decide +kernel] at h
  rcases find_spec x 10 with ⟨hn, hf⟩ | ⟨hm, hf⟩
  · rw [hf] at h
    have hr : r = x.length := by omega
    refine ⟨by omega, by omega, ?_⟩
    rw [while_all _ _ hn, List.take_of_length_le]
    rw [hr, len_lst]; omega
  · rw [hf] at h
    have hr : r = (((lst x).takeWhile (· != 10)).length : Nat) := by omega
    have hle := while_le (· != 10) (lst x)
    refine ⟨by omega, by rw [len_lst]; omega, ?_⟩
    rw [hr, Int.toNat_natCast, take_while_len]
theorem colon_is {x : Str} {r : Int} (h0 : 0 ≤ r) (h1 : r ≤ x.length) : find4 x (Str.ofString ":") 0 r = find4 x ⟨#[58]⟩ 0 r := by
  rw [show Str.ofString ":" = (⟨#[58]⟩ : Str) from by decide +kernel]
theorem end_yes {x : Str} {r : Int} (h0 : 0 ≤ r) (h1 : r ≤ x.length) (h : 0 ≤ find4 x (Str.ofString ":") 0 r) :
    find4 x (Str.ofString ":") 0 r ≤ x.length ∧ (lst x).take (find4 x (Str.ofString ":") 0 r).toNat = ((lst x).take r.toNat).takeWhile (· != 58) := by
  rw [colon_is h0 h1] at h ⊢
  rcases find4_spec x 58 r h0 h1 with ⟨hn, hf⟩ | ⟨hm, hf⟩
  · rw [hf] at h; omega
  · rw [hf]
    have hle := while_le (· != 58) ((lst x).take r.toNat)
    have hl2 : ((lst x).take r.toNat).length ≤ r.toNat := by simp; omega
    refine ⟨by omega, ?_⟩
    rw [Int.toNat_natCast]
    have e := take_while_len (· != 58) ((lst x).take r.toNat)
    rw [List.take_take, Nat.min_eq_left (by omega)] at e
    exact e
theorem end_no {x : Str} {r : Int} (h0 : 0 ≤ r) (h1 : r ≤ x.length) (h : ¬ 0 ≤ find4 x (Str.ofString ":") 0 r) : (lst x).take r.toNat = ((lst x).take r.toNat).takeWhile (· != 58) := by
  rw [colon_is h0 h1] at h
  rcases find4_spec x 58 r h0 h1 with ⟨hn, hf⟩ | ⟨hm, hf⟩
  · rw [while_all _ _ hn]
  · rw [hf] at h; omega
theorem dot_yes {x : Str} {e : Int} {m : List Nat} (h0 : 0 ≤ e) (h1 : e ≤ x.length) (hm : (lst x).take e.toNat = m) (h : 0 ≤ rfind4 x (Str.ofString ".") 0 e) :
    lst (Txt.slice x (some (rfind4 x (Str.ofString ".") 0 e + 1)) (some e)) = lastDot m := by
  rw [show Str.ofString "." = (⟨#[46]⟩ : Str) from by decide +kernel] at h ⊢
  rcases rfind4_spec x 46 e h0 h1 with ⟨hn, hf⟩ | ⟨k, hf, hk, hn⟩
  · rw [hf] at h; omega
  · rw [hf, slice_ss _ _ _ (by omega) h0]
    rw [hm] at hk hn
    rw [lastDot_at m k hk hn, ← hm, List.drop_take]
    have e1 : ((k : Int) + 1).toNat = k + 1 := by omega
    rw [e1]
theorem dot_no {x : Str} {e : Int} {m : List Nat} (h0 : 0 ≤ e) (h1 : e ≤ x.length) (hm : (lst x).take e.toNat = m) (h : ¬ 0 ≤ rfind4 x (Str.ofString ".") 0 e) :
    lst (Txt.slice x (some 0) (some e)) = lastDot m := by
  rw [show Str.ofString "." = (⟨#[46]⟩ : Str) from by decide +kernel] at h
  rcases rfind4_spec x 46 e h0 h1 with ⟨hn, hf⟩ | ⟨k, hf, hk, hn⟩
  · rw [slice_ss _ _ _ (by omega) h0]
    rw [hm] at hn
    rw [lastDot_none m hn, ← hm]; simp
  · rw [hf] at h; omega
section
variable {x : Str} {r : Int} (h : 0 ≤ Txt.find x (Str.ofString "\n") ∧ r = Txt.find x (Str.ofString "\n") ∨ ¬ 0 ≤ Txt.find x (Str.ofString "\n") ∧ r = x.length)
include h
theorem strip_yy (h1 : 0 ≤ find4 x (Str.ofString ":") 0 r) (h2 : 0 ≤ rfind4 x (Str.ofString ".") 0 (find4 x (Str.ofString ":") 0 r)) :
    Txt.slice x (some (rfind4 x (Str.ofString ".") 0 (find4 x (Str.ofString ":") 0 r) + 1)) (some (find4 x (Str.ofString ":") 0 r)) = stripS x := by
  obtain ⟨a0, a1, a2⟩ := line_is h
  obtain ⟨b1, b2⟩ := end_yes a0 a1 h1
  apply lst_inj
  rw [dot_yes h1 b1 b2 h2, lst_strip, a2]; rfl
theorem strip_yn (h1 : 0 ≤ find4 x (Str.ofString ":") 0 r) (h2 : ¬ 0 ≤ rfind4 x (Str.ofString ".") 0 (find4 x (Str.ofString ":") 0 r)) :
    Txt.slice x (some 0) (some (find4 x (Str.ofString ":") 0 r)) = stripS x := by
  obtain ⟨a0, a1, a2⟩ := line_is h
  obtain ⟨b1, b2⟩ := end_yes a0 a1 h1
  apply lst_inj
  rw [dot_no h1 b1 b2 h2, lst_strip, a2]; rfl
theorem strip_ny (h1 : ¬ 0 ≤ find4 x (Str.ofString ":") 0 r) (h2 : 0 ≤ rfind4 x (Str.ofString ".") 0 r) :
    Txt.slice x (some (rfind4 x (Str.ofString ".") 0 r + 1)) (some r) = stripS x := by
  obtain ⟨a0, a1, a2⟩ := line_is h
  apply lst_inj
  rw [dot_yes a0 a1 (end_no a0 a1 h1) h2, lst_strip, a2]; rfl
theorem strip_nn (h1 : ¬ 0 ≤ find4 x (Str.ofString ":") 0 r) (h2 : ¬ 0 ≤ rfind4 x (Str.ofString ".") 0 r) :
    Txt.slice x (some 0) (some r) = stripS x := by
  obtain ⟨a0, a1, a2⟩ := line_is h
  apply lst_inj
  rw [dot_no a0 a1 (end_no a0 a1 h1) h2, lst_strip, a2]; rfl
end
theorem count_round (x : Str) : Txt.count x (Str.ofString "(") - Txt.count x (Str.ofString ")") = netL (lst x) := by
  rw [show Str.ofString "(" = (⟨#[40]⟩ : Str) from by decide +kernel, show Str.ofString ")" = (⟨#[41]⟩ : Str) from by decide +kernel, count_is, count_is]
  show cnt 40 (lst x) - cnt 41 (lst x) = _
  rw [cnt_count, cnt_count]; rfl
end Mine
end

namespace Mine
theorem quietK1 : True := by
  w_top off
  trivial
end Mine

/- part K1 -/
section
open PySem PySem.W PyProof.Rows PySem.Builtin PySem.Builtin.Str
namespace Mine
open Plain
local macro_rules | `(tactic| walk_at "call builtin:str.find") => `(tactic| (k_here; refine call_find4 ?_))
local macro_rules | `(tactic| walk_at "call builtin:str.rfind") => `(tactic| (k_here; refine call_rfind4 ?_))
set_option maxRecDepth 100000 in
set_option maxHeartbeats 8000000 in
theorem openC (w s₀ mg mb) (x : Str) (tk : Tok) (news) : ClaimL w s₀ mg mb 97 news [] True [.str x tk] (fun t => .int (netL (lst x)) t) := by
  delta ClaimL PG LS
  k_fill
  dsimp only [CbLists, CbRet]
  intros
  rename_i hret
  refine wpAny_call ?_
  k_dflt cell_enter
  k_steps
  exact cb_retI hret (count_round x) (by k_asm) (by k_asm)
set_option maxRecDepth 100000 in
set_option maxHeartbeats 8000000 in
theorem stripC (w s₀ mg mb) (x : Str) (tk : Tok) (news) : ClaimL w s₀ mg mb 51 news [] (x.length ≤ 64) [.str x tk] (fun t => .str (stripS x) t) := by
  delta ClaimL PG LS
  k_fill
  dsimp only [CbLists, CbRet]
  intros
  rename_i hret
  refine wpAny_call ?_
  k_dflt cell_enter
  k_steps
  all_goals (refine cb_retS hret ?_ ?_ ?_)
  all_goals first
    | with_reducible exact strip_yy (by assumption) (by assumption) (by assumption)
    | with_reducible exact strip_yn (by assumption) (by assumption) (by assumption)
    | with_reducible exact strip_ny (by assumption) (by assumption) (by assumption)
    | with_reducible exact strip_nn (by assumption) (by assumption) (by assumption)
    | k_asm
    | exact cb_drop (by k_asm) fun p hp => List.mem_cons_of_mem _ hp
end Mine
end

/- part F3 -/
section
open PySem PySem.W PyProof.Rows PySem.Builtin PySem.Builtin.Str
namespace Mine
open Plain
def NInv (x : Str) (i : Int) (d : Str) : Prop := lst d ++ nameL ((lst x).drop i.toNat) = nameL ((lst x).drop 5)
section
variable {prog : Program} {w : World} {A : Around} {E : Value → Shared → Prop} {s : Shared} {x : Str} {t u : Tok} {Q : Value → Shared → Prop}
theorem ne257g (hx : (lst x).take 3 = [50, 53, 55]) (h : Q (.bool false) s) : wpAny (model prog w) A (compareOp .NotEq (.str (Txt.slice x none (some 3)) t) (.str (Str.ofString "257") u)) Q E s :=
  PyProof.Rows.ne_str (by rw [is257 hx]; exact h)
end
theorem item_is (x : Str) (i : Int) (h0 : 0 ≤ i) (h1 : i < x.length) : ∃ c, (lst x)[i.toNat]? = some c ∧ lst (Txt.item x i) = [c] := by
  obtain ⟨c, hc⟩ := StrLaws.some_at h0 h1
  refine ⟨c, ?_, ?_⟩
  · show x.cps.toList[i.toNat]? = some c
    rw [Array.getElem?_toList]; exact hc
  · show [(Txt.charAt x i).getD 0] = [c]
    unfold Txt.charAt
    rw [StrLaws.at_nonneg h0 hc]; rfl
theorem drop_item {l : List Nat} {k c : Nat} (h : l[k]? = some c) : l.drop k = c :: l.drop (k + 1) := by
  obtain ⟨hlt, he⟩ := List.getElem?_eq_some_iff.mp h
  rw [List.drop_eq_getElem_cons hlt, he]
theorem len_slice5 {x : Str} (h : (Txt.slice x (some 3) (some 5) != Str.ofString " \"") = false) : ((lst x).drop 3).take 2 = [32, 34] := by
  have h' := bne_eq_false_iff_eq.mp h
  have := congrArg lst h'
  rw [slice_ss _ _ _ (by omega) (by omega), lst_sq] at this
  exact this
theorem name_none {x : Str} (h : (Txt.slice x (some 3) (some 5) != Str.ofString " \"") = true) : Str.ofString "" = nameS x := by
  apply lst_inj
  rw [lst_nil]
  show [] = (if ((lst x).drop 3).take 2 = [32, 34] then _ else [])
  rw [if_neg]
  intro e
  have : Txt.slice x (some 3) (some 5) = Str.ofString " \"" := by
    apply lst_inj
    rw [slice_ss _ _ _ (by omega) (by omega), lst_sq]; exact e
  rw [this] at h
  simp at h
theorem name_start {x : Str} (h : (Txt.slice x (some 3) (some 5) != Str.ofString " \"") = false) : (5 : Int) ≤ 5 ∧ (5 : Int) ≤ x.length ∧ ((Str.ofString "").length : Int) + 5 ≤ 5 ∧ NInv x 5 (Str.ofString "") := by
  have hz : (Str.ofString "").length = 0 := by decide +kernel
  have h2 := congrArg List.length (len_slice5 h)
  simp at h2
  refine ⟨by omega, by rw [len_lst]; omega, by omega, ?_⟩
  unfold NInv
  rw [lst_nil]; rfl
theorem name_of {x d : Str} (h : (Txt.slice x (some 3) (some 5) != Str.ofString " \"") = false) (he : lst d = nameL ((lst x).drop 5)) : d = nameS x := by
  apply lst_inj
  show lst d = (if ((lst x).drop 3).take 2 = [32, 34] then _ else [])
  rw [if_pos (len_slice5 h), he]
section
variable {x d : Str} {i : Int}
theorem name_end {n : Int} (h : (Txt.slice x (some 3) (some 5) != Str.ofString " \"") = false) (h0 : 5 ≤ i) (hn : ¬ i < (x.length : Int)) (I : NInv x i d) : d = nameS x := by
  refine name_of h ?_
  unfold NInv at I
  rw [List.drop_eq_nil_of_le (by rw [← len_lst]; omega)] at I
  simpa [nameL] using I
theorem name_last (h : (Txt.slice x (some 3) (some 5) != Str.ofString " \"") = false) (h0 : 5 ≤ i) (h1 : i < (x.length : Int)) (I : NInv x i d) (hq : (Txt.item x i == Str.ofString "\"") = true) (h2 : (x.length : Int) ≤ i + 1) : d = nameS x := by
  refine name_of h ?_
  obtain ⟨c, hc, hi⟩ := item_is x i (by omega) h1
  rw [is_sign hi lst_quote] at hq
  have : c = 34 := by simpa using hq
  subst this
  unfold NInv at I
  rw [drop_item hc, List.drop_eq_nil_of_le (by rw [← len_lst]; omega), nameL_end, List.append_nil] at I
  exact I
theorem name_shut (h : (Txt.slice x (some 3) (some 5) != Str.ofString " \"") = false) (h0 : 5 ≤ i) (h1 : i < (x.length : Int)) (I : NInv x i d) (hq : (Txt.item x i == Str.ofString "\"") = true) (h2 : ¬ (x.length : Int) ≤ i + 1) (hq2 : (Txt.item x (i + 1) != Str.ofString "\"") = true) : d = nameS x := by
  refine name_of h ?_
  obtain ⟨c, hc, hi⟩ := item_is x i (by omega) h1
  obtain ⟨e, he, hi2⟩ := item_is x (i + 1) (by omega) (by omega)
  rw [is_sign hi lst_quote] at hq
  rw [ns_sign hi2 lst_quote] at hq2
  have h3 : c = 34 := by simpa using hq
  have h4 : e ≠ 34 := by simpa using hq2
  subst h3
  have ei : (i + 1).toNat = i.toNat + 1 := by omega
  rw [ei] at he
  unfold NInv at I
  rw [drop_item hc, drop_item he, nameL_stop _ _ h4, List.append_nil] at I
  exact I
theorem name_two (h0 : 5 ≤ i) (h1 : i < (x.length : Int)) (hd : (d.length : Int) + 5 ≤ i) (I : NInv x i d) (hq : (Txt.item x i == Str.ofString "\"") = true) (h2 : ¬ (x.length : Int) ≤ i + 1) (hq2 : (Txt.item x (i + 1) != Str.ofString "\"") = false) :
    5 ≤ i + 1 + 1 ∧ i + 1 + 1 ≤ (x.length : Int) ∧ ((d ++ Txt.item x i).length : Int) + 5 ≤ i + 1 + 1 ∧ NInv x (i + 1 + 1) (d ++ Txt.item x i) := by
  obtain ⟨c, hc, hi⟩ := item_is x i (by omega) h1
  obtain ⟨e, he, hi2⟩ := item_is x (i + 1) (by omega) (by omega)
  rw [is_sign hi lst_quote] at hq
  rw [ns_sign hi2 lst_quote] at hq2
  have h3 : c = 34 := by simpa using hq
  have h4 : e = 34 := by simpa using hq2
  subst h3
  subst h4
  have ei : (i + 1).toNat = i.toNat + 1 := by omega
  rw [ei] at he
  refine ⟨by omega, by omega, ?_, ?_⟩
  · rw [len_lst, lst_append, hi, List.length_append, ← len_lst]; simp; omega
  · unfold NInv at I ⊢
    rw [drop_item hc, drop_item he, nameL_two] at I
    have e2 : (i + 1 + 1).toNat = i.toNat + 1 + 1 := by omega
    rw [e2, lst_append, hi, ← I]
    simp
theorem name_one (h0 : 5 ≤ i) (h1 : i < (x.length : Int)) (hd : (d.length : Int) + 5 ≤ i) (I : NInv x i d) (hq : (Txt.item x i == Str.ofString "\"") = false) :
    5 ≤ i + 1 ∧ i + 1 ≤ (x.length : Int) ∧ ((d ++ Txt.item x i).length : Int) + 5 ≤ i + 1 ∧ NInv x (i + 1) (d ++ Txt.item x i) := by
  obtain ⟨c, hc, hi⟩ := item_is x i (by omega) h1
  rw [is_sign hi lst_quote] at hq
  have h3 : c ≠ 34 := by simpa using hq
  refine ⟨by omega, by omega, ?_, ?_⟩
  · rw [len_lst, lst_append, hi, List.length_append, ← len_lst]; simp; omega
  · unfold NInv at I ⊢
    rw [drop_item hc, nameL_other _ _ h3] at I
    have e2 : (i + 1).toNat = i.toNat + 1 := by omega
    rw [e2, lst_append, hi, ← I]
    simp
end
end Mine
end

namespace Mine
theorem quietK2 : True := by
  w_top off
  trivial
end Mine

/- part K2 -/
section
open PySem PySem.W PyProof.Rows PySem.Builtin PySem.Builtin.Str
namespace Mine
open Plain
local macro_rules | `(tactic| walk_at "compareOp NotEq str str") => `(tactic| (k_here; refine ne257g (by with_reducible assumption) ?_))
set_option maxRecDepth 100000 in
set_option maxHeartbeats 8000000 in
theorem nameC (w s₀ mg mb) (x : Str) (tk : Tok) (news) : ClaimL w s₀ mg mb 83 news [] (x.length ≤ 100 ∧ (lst x).take 3 = [50, 53, 55]) [.str x tk] (fun t => .str (nameS x) t) := by
  k_with "exec While Compare cons nil" => k_while_given ["resp", "n"] (fun resp n script i dirname => 5 ≤ i ∧ i ≤ n ∧ (dirname.length : Int) + 5 ≤ i ∧ NInv resp i dirname) (fun resp n script i dirname => n.toNat - i.toNat) "i" "dirname"
  k_with "state" => first
    | with_reducible exact name_start (by assumption)
    | with_reducible exact name_two (by assumption) (by assumption) (by assumption) (by assumption) (by assumption) (by assumption) (by assumption)
    | with_reducible exact name_one (by assumption) (by assumption) (by assumption) (by assumption) (by assumption)
  delta ClaimL PG LS
  k_fill
  dsimp only [CbLists, CbRet]
  intros
  rename_i hp0 _ _ hret
  obtain ⟨hp1, hp2⟩ := hp0
  refine wpAny_call ?_
  k_dflt cell_enter
  k_steps
  all_goals (refine cb_retS hret ?_ ?_ ?_)
  all_goals first
    | with_reducible exact name_none (by assumption)
    | with_reducible exact name_end (n := 0) (by assumption) (by assumption) (by assumption) (by assumption)
    | with_reducible exact name_last (by assumption) (by assumption) (by assumption) (by assumption) (by assumption) (by assumption)
    | with_reducible exact name_shut (by assumption) (by assumption) (by assumption) (by assumption) (by assumption) (by assumption) (by assumption)
    | k_asm
end Mine
end

/- part F4 -/
section
open PySem PySem.W PyProof.Rows PySem.Builtin PySem.Builtin.Str
namespace Mine
open Plain
theorem nameL_len : ∀ l : List Nat, (nameL l).length ≤ l.length
  | [] => by simp [nameL]
  | [c] => by
    by_cases h : c = 34
    · subst h; rw [nameL_end]; simp
    · rw [nameL_other _ _ h]; simp [nameL]
  | c :: d :: r => by
    by_cases h : c = 34
    · subst h
      by_cases h2 : d = 34
      · subst h2; rw [nameL_two]; have := nameL_len r; simp; omega
      · rw [nameL_stop _ _ h2]; simp
    · rw [nameL_other _ _ h]; have := nameL_len (d :: r); simp at this ⊢; omega
theorem nameS_len (x : Str) : (nameS x).length ≤ x.length := by
  rw [len_lst, len_lst]
  show (if _ then _ else _ : List Nat).length ≤ _
  split
  · have := nameL_len ((lst x).drop 5); simp at this ⊢; omega
  · simp
theorem nameC' (w : World) (s₀ : Shared) (mg mb : Str → Option Value) (x : Str) (tk : Tok) (news : List (Addr × Obj)) (dp un : Nat) (gd : Option (List Code)) (cn : Str) (cs : Scope) (a : Addr) (ccd : Value) (cl : List (Str × Addr)) (outer : List Env) (A₀ : Around) (base h₀ : Heap) (L : Addr) (m : Str → Option Value) (s : Shared) (Q E : Value → Shared → Prop)
    (k1 : Below A₀ base outer h₀) (k2 : Fr h₀ L s.heap m) (k3 : (hd.heap_39 w.params).In h₀) (k4 : News h₀ L s.heap news) (k5 : Top hd.view_39 LS (ExcName.means s₀.heap) mg mb h₀) (k6 : cs.kind = .function)
    (kp : x.length ≤ 100 ∧ (lst x).take 3 = [50, 53, 55]) (kd : dp + 4 < recursionLimit) (ku : un + 40 < cLine)
    (ret : ∀ (t : Tok) (h' : Heap) (tk' : Nat), Fr h₀ L h' m → News h₀ L h' news → (nameS x).length ≤ 100 → Q (.str (nameS x) t) { s with heap := h', toks := tk' }) :
    wpAny (model PG w) (ktrTop dp un gd cn cs L a ccd cl outer) (call (.ref 83) [.str x tk]) Q E s :=
  nameC w s₀ mg mb x tk news dp un gd cn cs a ccd cl outer A₀ base h₀ L m s Q E k1 k2 k3 k4 k5 k6 kp kd ku fun t h' tk' F N => ret t h' tk' F N (Nat.le_trans (nameS_len x) kp.1)
end Mine
end

/- part F5 -/
section
open PySem PySem.W PyProof.Rows PySem.Builtin PySem.Builtin.Str
namespace Mine
open Plain
def BInv (x : Str) (d : Int) (row : Str) : Prop := d + O (lst row) [] = byS x ∧ 10 ∉ lst row
theorem quote_lit : Str.ofString "\"" = (⟨#[34]⟩ : Str) := by decide +kernel
theorem clash {b : Bool} {P : Prop} (h1 : b = false) (h2 : b = true) : P := by rw [h1] at h2; cases h2
theorem last_at (m : List Nat) (c k : Nat) (h1 : m[k]? = some c) (h2 : ∀ i : Nat, k < i → ¬ m[i]? = some c) : (m.reverse.takeWhile (· != c)).reverse = m.drop (k + 1) := by
  obtain ⟨hlt, he⟩ := List.getElem?_eq_some_iff.mp h1
  have e : m = m.take k ++ c :: m.drop (k + 1) := by
    conv => lhs; rw [← List.take_append_drop k m, List.drop_eq_getElem_cons hlt, he]
  have hn : ∀ d ∈ (m.drop (k + 1)).reverse, (d != c) = true := fun d hd => by
    have hd' := List.mem_reverse.mp hd
    obtain ⟨i, hi⟩ := List.getElem?_of_mem hd'
    rw [List.getElem?_drop] at hi
    have : d ≠ c := fun e => h2 (k + 1 + i) (by omega) (by rw [hi, e])
    simp [this]
  have e2 : m.reverse = (m.drop (k + 1)).reverse ++ c :: (m.take k).reverse := by
    conv => lhs; rw [e]
    simp
  rw [e2, takeWhile_stop _ _ _ (by simp) _ hn, List.reverse_reverse]
theorem rfind_tail (x : Str) : lst (Txt.slice x (some (Txt.rfind x (Str.ofString "\"") + 1)) none) = tailL (lst x) := by
  rw [quote_lit]
  have e : (lst x).take x.length = lst x := by rw [len_lst, List.take_length]
  unfold Txt.rfind
  rcases last_hi x 34 x.length with ⟨h, hn⟩ | ⟨k, h, hk, hn⟩
  · rw [h]
    rw [e] at hn
    show lst (Txt.slice x (some (-1 + 1)) none) = _
    rw [slice_from _ _ (by omega), tail_free _ (not_mem_of hn)]; rfl
  · rw [h]
    rw [e] at hk hn
    show lst (Txt.slice x (some ((k : Int) + 1)) none) = _
    rw [slice_from _ _ (by omega)]
    have e1 : ((k : Int) + 1).toNat = k + 1 := by omega
    rw [e1]
    exact (last_at _ _ _ hk hn).symm
theorem no_mark {x : Str} (h : (occurrences x (Str.ofString "\"") 0 x.length 1).isEmpty = true) : 34 ∉ lst x := by
  rw [quote_lit] at h
  have := StrLaws.found_one x 34
  rw [h] at this
  simpa [lst] using this
theorem by_start {x : Str} (h1 : x.length ≤ 64) (h2 : 10 ∉ lst x) : x.length ≤ 64 ∧ BInv x 0 x := by
  refine ⟨h1, ?_, h2⟩
  unfold byS
  rw [by_is _ _ (by rw [len_lst]; omega) h2]; omega
theorem by_end {x row : Str} {d : Int} (I : BInv x d row) (h : (occurrences row (Str.ofString "\"") 0 row.length 1).isEmpty = true) : d + netL (lst row) = byS x := by
  rw [← I.1, O_free _ _ (no_mark h), unqL_nil, netL_nil]; omega
/-- the row in three -/
theorem by_parts {row : Str} (h : 0 ≤ (Txt.find row (Str.ofString "\""))) : ∃ a d, lst row = a ++ 34 :: d ∧ 34 ∉ a ∧ lst (Txt.slice row none (some (Txt.find row (Str.ofString "\"")))) = a ∧ lst (Txt.slice row (some (Txt.find row (Str.ofString "\""))) none) = 34 :: d ∧ lst (nameS (Str.ofString "257 " ++ (Txt.slice row (some (Txt.find row (Str.ofString "\""))) none))) = nameL d := by
  have hf := find_spec row 34
  rw [← quote_lit] at hf
  rcases hf with ⟨hn, hf⟩ | ⟨hm, hf⟩
  · rw [hf] at h; omega
  · obtain ⟨a, d, e, ha⟩ := split34 (lst row) hm
    have t := takeWhile_split a d ha
    rw [e, t.1] at hf
    have hp : ((Txt.find row (Str.ofString "\""))).toNat = a.length := by rw [hf]; exact Int.toNat_natCast _
    have hR : lst (Txt.slice row (some (Txt.find row (Str.ofString "\""))) none) = 34 :: d := by rw [slice_from _ _ h, hp, e]; simp
    refine ⟨a, d, e, ha, ?_, hR, ?_⟩
    · rw [slice_to _ _ h, hp, e]; simp
    · have h5 : lst (Str.ofString "257 " ++ (Txt.slice row (some (Txt.find row (Str.ofString "\""))) none)) = 50 :: 53 :: 55 :: 32 :: 34 :: d := by rw [lst_append, lst_257s, hR]; rfl
      unfold nameS
      rw [lst_mk, h5]
      simp only [List.drop_succ_cons, List.drop_zero, List.take_succ_cons, List.take_zero, if_true]
theorem by_used {row : Str} {d : List Nat} (h : lst (nameS (Str.ofString "257 " ++ (Txt.slice row (some (Txt.find row (Str.ofString "\""))) none))) = nameL d) : (((nameS (Str.ofString "257 " ++ (Txt.slice row (some (Txt.find row (Str.ofString "\""))) none))).length : Int) + Txt.count (nameS (Str.ofString "257 " ++ (Txt.slice row (some (Txt.find row (Str.ofString "\""))) none))) (Str.ofString "\"") + 2) = (((nameL d).length + (nameL d).count 34 + 2 : Nat) : Int) := by
  rw [count_quote, len_lst, h]; omega
section
variable {x row : Str} {dp : Int}
theorem by_open (I : BInv x dp row) (h : 0 ≤ (Txt.find row (Str.ofString "\""))) (hu : ((Txt.slice row (some (Txt.find row (Str.ofString "\""))) none).length : Int) < (((nameS (Str.ofString "257 " ++ (Txt.slice row (some (Txt.find row (Str.ofString "\""))) none))).length : Int) + Txt.count (nameS (Str.ofString "257 " ++ (Txt.slice row (some (Txt.find row (Str.ofString "\""))) none))) (Str.ofString "\"") + 2)) :
    dp + netL (lst (Txt.slice row none (some (Txt.find row (Str.ofString "\""))))) + netL (lst (Txt.slice (nameS (Str.ofString "257 " ++ (Txt.slice row (some (Txt.find row (Str.ofString "\""))) none))) (some (Txt.rfind (nameS (Str.ofString "257 " ++ (Txt.slice row (some (Txt.find row (Str.ofString "\""))) none))) (Str.ofString "\"") + 1)) none)) = byS x := by
  obtain ⟨a, d, e, ha, e1, e2, e3⟩ := by_parts h
  rw [by_used e3, len_lst, e2] at hu
  simp only [List.length_cons] at hu
  rw [rfind_tail, e1, e3, ← I.1, e, O_split _ _ _ ha]
  have hn : 10 ∉ d := fun m => I.2 (by rw [e]; simp [m])
  rcases name_cases d hn with ⟨b, h1, h2⟩ | ⟨h1, h2, _, _⟩
  · have := congrArg List.length h1
    simp at this; omega
  · rw [h2]; omega
theorem by_turn (I : BInv x dp row) (hl : row.length ≤ 64) (h : 0 ≤ (Txt.find row (Str.ofString "\""))) (hu : ¬ ((Txt.slice row (some (Txt.find row (Str.ofString "\""))) none).length : Int) < (((nameS (Str.ofString "257 " ++ (Txt.slice row (some (Txt.find row (Str.ofString "\""))) none))).length : Int) + Txt.count (nameS (Str.ofString "257 " ++ (Txt.slice row (some (Txt.find row (Str.ofString "\""))) none))) (Str.ofString "\"") + 2)) :
    (Txt.slice (Txt.slice row (some (Txt.find row (Str.ofString "\""))) none) (some (((nameS (Str.ofString "257 " ++ (Txt.slice row (some (Txt.find row (Str.ofString "\""))) none))).length : Int) + Txt.count (nameS (Str.ofString "257 " ++ (Txt.slice row (some (Txt.find row (Str.ofString "\""))) none))) (Str.ofString "\"") + 2)) none).length ≤ 64 ∧ BInv x (dp + netL (lst (Txt.slice row none (some (Txt.find row (Str.ofString "\"")))))) (Txt.slice (Txt.slice row (some (Txt.find row (Str.ofString "\""))) none) (some (((nameS (Str.ofString "257 " ++ (Txt.slice row (some (Txt.find row (Str.ofString "\""))) none))).length : Int) + Txt.count (nameS (Str.ofString "257 " ++ (Txt.slice row (some (Txt.find row (Str.ofString "\""))) none))) (Str.ofString "\"") + 2)) none) := by
  obtain ⟨a, d, e, ha, e1, e2, e3⟩ := by_parts h
  have hu' := hu
  rw [by_used e3, len_lst, e2] at hu'
  simp only [List.length_cons] at hu'
  have hn : 10 ∉ d := fun m => I.2 (by rw [e]; simp [m])
  rcases name_cases d hn with ⟨b, h1, h2⟩ | ⟨h1, h2, _, _⟩
  · have hb : lst (Txt.slice (Txt.slice row (some (Txt.find row (Str.ofString "\""))) none) (some (((nameS (Str.ofString "257 " ++ (Txt.slice row (some (Txt.find row (Str.ofString "\""))) none))).length : Int) + Txt.count (nameS (Str.ofString "257 " ++ (Txt.slice row (some (Txt.find row (Str.ofString "\""))) none))) (Str.ofString "\"") + 2)) none) = b := by
      rw [by_used e3, slice_from _ _ (by omega), e2, Int.toNat_natCast]
      rw [show (nameL d).length + (nameL d).count 34 + 2 = ((nameL d).length + (nameL d).count 34 + 1) + 1 from rfl, List.drop_succ_cons, ← List.drop_drop, h1]; rfl
    have hbd : b = (d.drop ((nameL d).length + (nameL d).count 34)).drop 1 := by rw [h1]; rfl
    refine ⟨?_, ?_, ?_⟩
    · have h3 := congrArg List.length hbd
      have h4 := congrArg List.length e
      simp at h3 h4
      rw [len_lst, hb]
      rw [len_lst] at hl
      omega
    · rw [hb, e1, ← I.1, e, O_split _ _ _ ha, h2]; omega
    · rw [hb]
      intro m
      rw [hbd] at m
      exact hn (List.mem_of_mem_drop (List.mem_of_mem_drop m))
  · omega
theorem by_less (h : 0 ≤ (Txt.find row (Str.ofString "\""))) (hu : ¬ ((Txt.slice row (some (Txt.find row (Str.ofString "\""))) none).length : Int) < (((nameS (Str.ofString "257 " ++ (Txt.slice row (some (Txt.find row (Str.ofString "\""))) none))).length : Int) + Txt.count (nameS (Str.ofString "257 " ++ (Txt.slice row (some (Txt.find row (Str.ofString "\""))) none))) (Str.ofString "\"") + 2)) : (Txt.slice (Txt.slice row (some (Txt.find row (Str.ofString "\""))) none) (some (((nameS (Str.ofString "257 " ++ (Txt.slice row (some (Txt.find row (Str.ofString "\""))) none))).length : Int) + Txt.count (nameS (Str.ofString "257 " ++ (Txt.slice row (some (Txt.find row (Str.ofString "\""))) none))) (Str.ofString "\"") + 2)) none).length < row.length := by
  obtain ⟨a, d, e, ha, e1, e2, e3⟩ := by_parts h
  rw [by_used e3, len_lst (Txt.slice _ _ _), slice_from _ _ (by omega), e2, Int.toNat_natCast, len_lst, e]
  simp; omega
end
end Mine
end

namespace Mine
theorem quietK3 : True := by
  w_top off
  trivial
end Mine

/- part K3 -/
section
open PySem PySem.W PyProof.Rows PySem.Builtin PySem.Builtin.Str
namespace Mine
open Plain
local macro_rules | `(tactic| walk_at "call ref") => `(tactic| (k_here; (with_reducible show wpAny _ _ (call (Value.ref 97) [_]) _ _ _); (with_unfolding_all refine' openC _ _ _ _ _ _ _ _ _ _ _ _ _ _ _ _ _ _ _ _ _ _ _ _ ?k1 ?k2 ?k3 ?k4 ?k5 ?k6 ?kp ?kd ?ku ?_); (case k2 => k_dflt k_asm); (case k1 => k_dflt k_asm); (case k3 => k_dflt k_asm); (case k4 => k_dflt k_asm); (case k5 => k_dflt k_asm); (case k6 => first | exact rfl | assumption); (case kp => trivial); (case kd => ktr_room); (case ku => ktr_units); intro t9 h9 tk9 F9 N9; (try dsimp only); (try k_fold)))
local macro_rules | `(tactic| walk_at "call ref") => `(tactic| (k_here; (with_reducible show wpAny _ _ (call (Value.ref 83) [_]) _ _ _); (with_unfolding_all refine' nameC' _ _ _ _ _ _ _ _ _ _ _ _ _ _ _ _ _ _ _ _ _ _ _ _ ?k1 ?k2 ?k3 ?k4 ?k5 ?k6 ?kp ?kd ?ku ?_); (case k2 => k_dflt k_asm); (case k1 => k_dflt k_asm); (case k3 => k_dflt k_asm); (case k4 => k_dflt k_asm); (case k5 => k_dflt k_asm); (case k6 => first | exact rfl | assumption); (case kp => ((have hq9 := len_257s); exact ⟨by omega, pre257s _⟩)); (case kd => ktr_room); (case ku => ktr_units); intro t9 h9 tk9 F9 N9 hS9; (try dsimp only); (try k_fold)))
set_option maxRecDepth 100000 in
set_option maxHeartbeats 8000000 in
theorem byC (w s₀ mg mb) (x : Str) (tk : Tok) (news) : ClaimM w s₀ mg mb 104 news [] (x.length ≤ 64 ∧ 10 ∉ lst x) [.str x tk] (fun t => .int (byS x) t) := by
  k_with "exec While Compare cons nil" => k_while_given ["row!"] (fun row₀ script row depth => row.length ≤ 64 ∧ BInv row₀ depth row) (fun row₀ script row depth => row.length) "row" "depth"
  k_with "state" => first
    | with_reducible exact by_start (by assumption) (by assumption)
    | with_reducible exact by_turn (by assumption) (by assumption) (by assumption) (by assumption)
  k_with "measure" => with_reducible exact by_less (by assumption) (by assumption)
  delta ClaimM PG LS
  k_fill
  dsimp only [CbLists, CbRet]
  intros
  rename_i hp0 _ _ hret
  obtain ⟨hp1, hp2⟩ := hp0
  refine wpAny_call ?_
  k_dflt cell_enter
  k_steps
  all_goals first
    | (with_reducible exact clash (by assumption) (by assumption))
    | (refine cb_retI hret ?_ ?_ ?_)
  all_goals first
    | with_reducible exact by_end (by assumption) (by assumption)
    | with_reducible exact by_open (by assumption) (by assumption) (by assumption)
    | k_asm
end Mine
end

/- part E1 -/
section
open PySem PySem.W PyProof.Rows PySem.Builtin PySem.Builtin.Str PySem.Builtin._codecs
namespace Mine
open Plain
theorem forIn_two {σ : Type} (f : Nat → σ → Sem (ForInStep σ)) (n : Nat) (s0 s1 s2 : σ) (h0 : f 0 s0 = pure (.yield s1)) (h1 : f 1 s1 = pure (.done s2)) : forIn (List.range' 0 (n + 2)) s0 f = pure s2 := by
  rw [List.range'_succ, List.range'_succ, List.forIn_cons, h0]
  show (forIn (1 :: List.range' 2 n) s1 f : Sem σ) = pure s2
  rw [List.forIn_cons, h1]
  rfl
theorem low_ok {c : Nat} (h : c < 128) : utf8Codec.bad c = false := by
  show Str.isSurrogate c = false
  unfold Str.isSurrogate
  simp; omega
theorem low_byte {c : Nat} (h : c < 128) : utf8Codec.bytesOf c = [c.toUInt8] := by
  show Str.utf8Of c = _
  unfold Str.utf8Of
  rw [if_pos (by omega)]
theorem fold_bytes (l : List Nat) (h : ∀ c ∈ l, c < 128) : ∀ acc : Array UInt8, l.foldl (fun acc y => acc ++ (utf8Codec.bytesOf y).toArray) acc = acc ++ (l.map Nat.toUInt8).toArray := by
  induction l with
  | nil => intro acc; simp
  | cons c l ih =>
    intro acc
    rw [List.foldl_cons, ih fun d hd => h d (List.mem_cons_of_mem _ hd), low_byte (h c (by simp))]
    simp
theorem encode_clean (self : Value) (x : Str) (hx : ∀ c ∈ lst x, c < 128) (h2 : 2 ≤ x.length) (h3 : x.length ≤ 1000) : encodeNarrow "str.encode" utf8Codec none self x = pure (((lst x).map Nat.toUInt8).toArray) := by
  obtain ⟨n, hn⟩ : ∃ n, x.length = n + 2 := ⟨x.length - 2, by omega⟩
  have hs : x.cps.size = n + 2 := hn
  have hno : x.cps.findIdx? utf8Codec.bad = none := by
    rw [Array.findIdx?_eq_none_iff]
    intro c hc
    exact low_ok (hx c (Array.mem_toList_iff.mpr hc))
  have hsz : ((lst x).map Nat.toUInt8).toArray.size = n + 2 := by simp [lst, hs]
  unfold encodeNarrow
  simp only [Std.Legacy.Range.forIn_eq_forIn_range']
  have hr : [:x.length].size = n + 2 := by simp [Std.Legacy.Range.size, hn]
  rw [hr]
  rw [forIn_two _ n (0, (#[] : Array UInt8), ({} : Faults)) (n + 2, ((lst x).map Nat.toUInt8).toArray, ({} : Faults)) (n + 2, ((lst x).map Nat.toUInt8).toArray, ({} : Faults))]
  · rfl
  · dsimp only
    rw [if_neg (by simp)]
    have h0 : x.cps[0]? = some x.cps[0] := Array.getElem?_eq_getElem (by omega)
    have hb : utf8Codec.bad x.cps[0] = false := low_ok (hx _ (by simp [lst]))
    simp only [h0, hb, Bool.not_false, if_true, Array.extract_size, hno, Option.getD_none, Nat.zero_add]
    have hf : x.cps.foldl (fun acc y => acc ++ (utf8Codec.bytesOf y).toArray) #[] = ((lst x).map Nat.toUInt8).toArray := by
      rw [← Array.foldl_toList]
      have := fold_bytes (lst x) hx #[]
      rw [Array.empty_append] at this
      exact this
    rw [hf, hs]
  · dsimp only
    rw [if_neg (by rw [hsz, sizeLine_eq]; omega)]
    have h0 : x.cps[n + 2]? = none := Array.getElem?_eq_none (by omega)
    rw [h0]
theorem gives_encode (x : Str) (t : Tok) (hx : ∀ c ∈ lst x, c < 128) (h2 : 2 ≤ x.length) (h3 : x.length ≤ 1000) {prog : Program} {w : World} {A : Around} {E : Value → Shared → Prop} {s : Shared} {Q : Value → Shared → Prop}
    (h : ∀ t' k, Q (.bytes ((lst x).map Nat.toUInt8).toArray t') { s with toks := k }) : wpAny (model prog w) A (call (.builtin "str.encode") [.str x t]) Q E s := by
  refine wpAny_call_entry F.slot_str_encode (typeIs_str _ _ _) F.entry_str_encode ?_ (F.args_str_encode_1 _)
  rw [encode_tree, encodeRoad_utf8, encode_clean _ _ hx h2 h3]
  have hsz : ¬ ((lst x).map Nat.toUInt8).toArray.size > sizeLine := by
    rw [sizeLine_eq]
    simp
    rw [← len_lst]; omega
  unfold mkBytes
  refine wpAny_bind ?_
  show wpAny _ _ (if ((lst x).map Nat.toUInt8).toArray.size > sizeLine then _ else _) _ _ _
  rw [if_neg hsz]
  exact wpAny_bind (wpAny_fresh (wpAny_pure (wpAny_pure ⟨_, rfl, h _ _⟩)))
end Mine
end

/- part G1 -/
section
open PySem PySem.W PyProof.Rows PySem.Builtin PySem.Builtin.Str
namespace Mine
open Plain
theorem fm_free (c : Nat) (z : List Nat) : ∀ l : List Nat, c ∉ l → (l.flatMap fun k => if k = c then z else [k]) = l
  | [], _ => rfl
  | k :: r, h => by
    have h1 : ¬ k = c := fun e => h (e ▸ List.mem_cons_self ..)
    rw [List.flatMap_cons, if_neg h1, fm_free c z r fun m => h (List.mem_cons_of_mem _ m)]; rfl
theorem fm_join (c : Nat) (z : Str) : ∀ parts : List Str, (∀ p ∈ parts, c ∉ p.cps.toList) → ((Str.join ⟨#[c]⟩ parts).cps.toList.flatMap fun k => if k = c then lst z else [k]) = (Str.join z parts).cps.toList
  | [], _ => rfl
  | [p], h => fm_free c _ _ (h p (List.mem_singleton.mpr rfl))
  | p :: q :: r, h => by
    have ih := fm_join c z (q :: r) fun a ha => h a (List.mem_cons_of_mem _ ha)
    show ((p ++ ⟨#[c]⟩ ++ Str.join ⟨#[c]⟩ (q :: r)).cps.toList.flatMap _) = (p ++ z ++ Str.join z (q :: r)).cps.toList
    simp only [Str.cps_append, Array.toList_append, List.flatMap_append]
    rw [ih, fm_free c _ _ (h p (List.mem_cons_self ..))]
    simp [lst]
theorem lst_replace (x z : Str) (c : Nat) : lst (Txt.replace x ⟨#[c]⟩ z) = (lst x).flatMap fun k => if k = c then lst z else [k] := by
  rw [StrLaws.replace_one]
  have h := fm_join c z (Txt.split x ⟨#[c]⟩) fun p hp => StrLaws.split_free x c p hp
  rw [StrLaws.join_split] at h
  exact h.symm
theorem lit_back : Str.ofString "\\" = ⟨#[92]⟩ := by decide +kernel
theorem lit_back2 : Str.ofString "\\\\" = ⟨#[92, 92]⟩ := by decide +kernel
theorem lit_q : Str.ofString "\"" = ⟨#[34]⟩ := by decide +kernel
theorem lit_bq : Str.ofString "\\\"" = ⟨#[92, 34]⟩ := by decide +kernel
theorem rep_dbl (x : Str) : Txt.replace x (Str.ofString "\\") (Str.ofString "\\\\") = mk (dblL (lst x)) := by
  apply lst_inj
  rw [lit_back, lit_back2, lst_replace]
  rfl
theorem rep_esc (x : Str) : Txt.replace (mk (dblL (lst x))) (Str.ofString "\"") (Str.ofString "\\\"") = mk (escL (lst x)) := by
  apply lst_inj
  rw [lit_q, lit_bq, lst_replace, lst_mk, lst_mk]
  unfold dblL escL
  rw [List.flatMap_assoc]
  congr 1
  funext c
  by_cases h : c = 92
  · subst h; rfl
  · by_cases h2 : c = 34
    · subst h2; rfl
    · rw [if_neg h, if_neg h, if_neg h2, List.flatMap_cons, if_neg h2]; rfl
theorem dbl_len (l : List Nat) : (dblL l).length ≤ 2 * l.length := by
  induction l with
  | nil => simp [dblL]
  | cons c l ih => rw [dbl_cons, List.length_append, List.length_cons]; split <;> simp <;> omega
theorem esc_len (l : List Nat) : (escL l).length ≤ 2 * l.length := by
  induction l with
  | nil => simp [escL]
  | cons c l ih =>
    have e : escL (c :: l) = (if c = 92 then [92, 92] else if c = 34 then [92, 34] else [c]) ++ escL l := by simp [escL]
    rw [e, List.length_append, List.length_cons]
    split
    · simp; omega
    · split <;> simp <;> omega
theorem sent_128 (l : List Nat) (h : ∀ c ∈ l, c < 128) : ∀ c ∈ sentL l, c < 128 := by
  intro c hc
  unfold sentL escL dblL at hc
  simp only [List.mem_append, List.mem_cons, List.mem_flatMap, List.not_mem_nil, or_false] at hc
  have key : ∀ a ∈ l, (c ∈ (if a = 92 then [92, 92] else if a = 34 then [92, 34] else [a]) ∨ c ∈ (if a = 92 then [92, 92] else [a])) → c < 128 := by
    intro a ha hm
    have := h a ha
    rcases hm with hm | hm
    · split at hm
      · simp at hm; omega
      · split at hm <;> simp at hm <;> omega
    · split at hm <;> simp at hm <;> omega
  grind
section
variable {prog : Program} {w : World} {A : Around} {E : Value → Shared → Prop} {s : Shared} {Q : Value → Shared → Prop} {x : Str} {t u v : Tok}
theorem call_dbl (hu : u ≠ 0) (hv : v ≠ 0) (huv : u ≠ v) (hl : x.length ≤ 64) (h : ∀ t' k, s.toks ≤ k → (mk (dblL (lst x))).length ≤ 128 → Q (.str (mk (dblL (lst x))) t') { s with toks := k }) :
    wpAny (model prog w) A (call (.builtin "str.replace") [.str x t, .str (Str.ofString "\\") u, .str (Str.ofString "\\\\") v]) Q E s := by
  refine wpAny_with_toks (Nat.le_refl s.toks) (SC.replaceW hu hv huv (by decide +kernel) (by omega) (by decide +kernel) fun t' k hk => ?_)
  rw [rep_dbl]
  refine h t' k hk ?_
  have := dbl_len (lst x)
  rw [len_lst, lst_mk]; rw [len_lst] at hl; omega
theorem call_esc (hu : u ≠ 0) (hv : v ≠ 0) (huv : u ≠ v) (hl : x.length ≤ 64) (h : ∀ t' k, s.toks ≤ k → (mk (escL (lst x))).length ≤ 128 → Q (.str (mk (escL (lst x))) t') { s with toks := k }) :
    wpAny (model prog w) A (call (.builtin "str.replace") [.str (mk (dblL (lst x))) t, .str (Str.ofString "\"") u, .str (Str.ofString "\\\"") v]) Q E s := by
  have h2 : (mk (dblL (lst x))).length ≤ 128 := by
    have := dbl_len (lst x)
    rw [len_lst, lst_mk]; rw [len_lst] at hl; omega
  refine wpAny_with_toks (Nat.le_refl s.toks) (SC.replaceW hu hv huv (by decide +kernel) (by omega) (by decide +kernel) fun t' k hk => ?_)
  rw [rep_esc]
  refine h t' k hk ?_
  have := esc_len (lst x)
  rw [len_lst, lst_mk]; rw [len_lst] at hl; omega
theorem sent_lst (x : Str) : lst (Str.ofString "\"" ++ mk (escL (lst x)) ++ Str.ofString "\"" ++ Str.ofString " \"" ++ mk (dblL (lst x))) = sentL (lst x) := by
  simp only [lst_append, lst_quote, lst_sq, lst_mk]
  unfold sentL
  simp
theorem call_sent (A' : Asc x) (hl : x.length ≤ 64) (h : ∀ t' k, (sentB x).size ≤ 260 → Q (.bytes (sentB x) t') { s with toks := k }) :
    wpAny (model prog w) A (call (.builtin "str.encode") [.str (Str.ofString "\"" ++ mk (escL (lst x)) ++ Str.ofString "\"" ++ Str.ofString " \"" ++ mk (dblL (lst x))) t]) Q E s := by
  have h1 := dbl_len (lst x)
  have h2 := esc_len (lst x)
  have hlen : (sentL (lst x)).length ≤ 260 ∧ 2 ≤ (sentL (lst x)).length := by
    rw [len_lst] at hl
    unfold sentL
    simp; omega
  refine gives_encode _ t ?_ ?_ ?_ fun t' k => ?_
  · rw [sent_lst]; exact sent_128 _ fun c hc => (A' c hc).1
  · rw [len_lst, sent_lst]; exact hlen.2
  · rw [len_lst, sent_lst]; omega
  · rw [sent_lst]
    refine h t' k ?_
    unfold sentB
    simp; exact hlen.1
end
end Mine
end

namespace Mine
theorem quietK7 : True := by
  w_top off
  trivial
end Mine

/- part K7 -/
section
open PySem PySem.W PyProof.Rows PySem.Builtin PySem.Builtin.Str
namespace Mine
open Plain
theorem gen_toks {M : Model} {A : Around} {E : Value → Shared → Prop} {α : Type} {t : Sem α} {Q : α → Shared → Prop} {h : Heap} {g : Array GenState} {d : Drawn} {os : OsState} {tk : Nat} (hk : 0 < tk) (H : ∀ tk', 0 < tk' → wpAny M A t Q E { heap := h, gens := g, drawn := d, toks := tk', os := os }) : wpAny M A t Q E { heap := h, gens := g, drawn := d, toks := tk, os := os } := H tk hk
set_option maxRecDepth 100000 in
theorem encode_method {prog : Program} {w : World} {A : Around} {E : Value → Shared → Prop} {s : Shared} {pl : Sem Bool} {Q : Value × List Value → Shared → Prop} (x : Str) (t : Tok) (h : Q (.builtin "str.encode", [.str x t]) s) : wpAny (model prog w) A (getMethod (.str x t) (Str.ofString "encode") pl) Q E s :=
  getMethod_builtin (typeIs_str _ _ _) PySem.F.plainAttrs_str PySem.F.slot_str_encode PySem.F.type_str_encode (fun _ e => nomatch e) h
local macro_rules | `(tactic| walk_at "getMethod str") => `(tactic| (k_here; (try dsimp only); (with_reducible refine encode_method _ _ ?_)))
local macro_rules | `(tactic| walk_at "call builtin:str.replace") => `(tactic| (k_here; (try dsimp only); (with_reducible first | refine call_dbl (by ((show @Ne Nat _ _); omega)) (by ((show @Ne Nat _ _); omega)) (by ((show @Ne Nat _ _); omega)) (by assumption) ?_ | refine call_esc (by ((show @Ne Nat _ _); omega)) (by ((show @Ne Nat _ _); omega)) (by ((show @Ne Nat _ _); omega)) (by assumption) ?_); intro t9 tk9 hk9 hl9; (try dsimp only at hk9); (try dsimp only)))
local macro_rules | `(tactic| walk_at "call builtin:str.encode") => `(tactic| (k_here; (try dsimp only); (with_reducible refine call_sent (by assumption) (by assumption) ?_); intro t9 tk9 hS9; (try dsimp only); (try k_fold)))
set_option maxRecDepth 100000 in
set_option maxHeartbeats 8000000 in
theorem sentC (w s₀ mg mb) (x : Str) (tk : Tok) (news) : ClaimS w s₀ mg mb 111 news (x.length ≤ 64 ∧ Asc x) [.str x tk] x := by
  delta ClaimS PG LS
  k_fill
  intros
  rename_i hp0 _ _ hret
  obtain ⟨hp1, hp2⟩ := hp0
  refine wpAny_call ?_
  k_dflt (refine' code_def ?k1 ?k2 ?k3 ?k4 ?k5 ?kA ?kF ?kK ?k6 ?k7 ?k8 ?k9 ?kB ?_ ?c2 ?c3 ?c4 ?c5; (case kA => exact rfl); (case kF => exact rfl); (case kK => assumption); (case k1 => k_asm); (case k2 => k_asm); (case k3 => k_asm); (case k4 => k_asm); (case k5 => k_asm); (case k6 => k_is); (case k7 => k_is); (case k8 => ktr_room); (case k9 => exact BindsTo.of_eq rfl); (case c5 => decide); (case kB => exact locs rfl); (case c2 => exact rfl); (case c3 => exact rfl); (case c4 => exact rfl); k_whole; intro g' L' h' FG' F' N' B' X' T'; (try dsimp only); (try k_lift B'))
  refine gen_toks (Nat.lt_of_lt_of_le Nat.zero_lt_one (Nat.le_trans (Nat.le_of_eq (by kernel_rfl)) (Nat.le_add_left _ _))) fun tk0 hk0 => ?_
  k_steps
  all_goals first
    | (with_reducible refine hret _ _ _ ?_ ?_ ?_)
  all_goals first
    | assumption
    | k_asm
end Mine
end

/- part R1 -/
section
namespace Mine.Plain
open PySem.Sre
def patC : Array Nat := #[14,8,1,2,4294967295,1,1,34,0,16,34,28,22,0,4294967295,7,11,13,7,21,16,34,16,92,0,15,8,6,16,92,2,15,2,0,1,16,34,1]
def Reach (b : Nat) (m m' : M) : Prop := ∃ k, k ≤ b ∧ ∀ n, M.runFor (k + n) m = M.runFor n m'
theorem Reach.refl (m : M) : Reach 0 m m := ⟨0, Nat.le_refl _, fun n => by rw [Nat.zero_add]⟩
theorem Reach.trans {a b c : Nat} {m m' m'' : M} (h : Reach a m m') (h' : Reach b m' m'') (hc : a + b ≤ c) : Reach c m m'' := by
  obtain ⟨k, hk, hr⟩ := h
  obtain ⟨k', hk', hr'⟩ := h'
  refine ⟨k + k', by omega, fun n => ?_⟩
  rw [Nat.add_assoc, hr, hr']
theorem Reach.more {a b : Nat} {m m' : M} (h : Reach a m m') (hb : a ≤ b) : Reach b m m' := h.trans (Reach.refl _) hb
theorem Reach.step {m m' : M} (ho : m.outcome = none) (h : m.step = m') : Reach 1 m m' := by
  refine ⟨1, Nat.le_refl _, fun n => ?_⟩
  rw [Nat.add_comm, M.runFor, ho, h]; rfl
theorem Reach.one {b : Nat} {m m' m'' : M} (ho : m.outcome = none) (h : m.step = m') (h' : Reach b m' m'') : Reach (b + 1) m m'' := (Reach.step ho h).trans h' (by omega)

/-- an attempt at s, at the first word of the pattern -/
def S9 (T : Array Nat) (lim s : Nat) (first : Bool) (sn : Seen) : M :=
  { code := patC, text := T, lim, start := s, lastStart := lim, pc := 9, pos := s, handed := s, outermost := first, marks := #[], frames := [{ wait := .nextStart, pc := 9, pos := s, outermost := first }], weight := 1, seen := sn }
def fr0 (s : Nat) (first : Bool) : Frame := { wait := .nextStart, pc := 9, pos := s, outermost := first }
def kp : Kept := { lastmark := -1, lastindex := -1, whole := true, marks := #[] }
/-- the many of the pattern, at p, n turns done -/
def P (T : Array Nat) (lim s : Nat) (first : Bool) (p : Nat) (n : Int) (sn : Seen) : M :=
  { code := patC, text := T, lim, start := s, lastStart := lim, pc := 15, pos := p, handed := p, outermost := false, marks := #[], loops := #[{ pc := 0, outer := none }], inner := some 0,
    frames := [{ wait := .possMore, pc := 11, pos := p, outermost := first, count := n, loop := 0, kept := kp }, fr0 s first], weight := 2, seen := sn }
/-- an attempt that has failed -/
def Fl (T : Array Nat) (lim s : Nat) (first : Bool) (pc p h : Nat) (sn : Seen) : M :=
  { code := patC, text := T, lim, start := s, lastStart := lim, pc, pos := p, handed := h, outermost := first, marks := #[], frames := [fr0 s first], weight := 1, seen := sn, answer := some false }
def Done (m : M) (o : Outcome) : Prop := m.outcome = some o
theorem eqb {a b : Nat} (h : a = b) : (a == b) = true := by simp [h]
theorem neb {a b : Nat} (h : a ≠ b) : (a == b) = false := by simp [h]
theorem Fl_next (T lim s first pc p h sn) (hs : s < lim) : Reach 1 (Fl T lim s first pc p h sn) (S9 T lim (s + 1) false sn) := by
  refine Reach.step rfl ?_
  simp [Fl, S9, fr0, M.step, M.resume, hs, M.attemptFrom, M.hasFirstSet, patC, M.attemptAt, M.attempt, ops]
theorem Fl_last (T s first pc p h sn) : ∃ m', m'.outcome = some .failed ∧ Reach 2 (Fl T s s first pc p h sn) m' := by
  refine ⟨_, ?h, Reach.one (m' := { Fl T s s first 9 s h sn with frames := [], weight := 0 }) rfl ?_ (Reach.step (m' := { Fl T s s first 9 s h sn with frames := [], weight := 0, outcome := some .failed }) rfl rfl)⟩
  case h => rfl
  simp [Fl, fr0, M.step, M.resume, M.say]
theorem S9_no (T lim s first sn) (hs : s < lim) (hc : T[s]?.getD 0 ≠ 34) : ∃ sn', Reach 2 (S9 T lim s first sn) (S9 T lim (s + 1) false sn') := by
  refine ⟨sn.add 16, Reach.one rfl (m' := Fl T lim s first 9 s s (sn.add 16)) ?_ (Fl_next T lim s first _ _ _ _ hs)⟩
  have h1 : ¬ lim ≤ s := by omega
  simp [Fl, S9, fr0, M.step, M.exec, patC, M.word, ops, h1, accepts, neb hc, M.say]
theorem S9_end (T s first sn) : ∃ m', m'.outcome = some .failed ∧ Reach 3 (S9 T s s first sn) m' := by
  obtain ⟨m', h1, h2⟩ := Fl_last T s first 9 s s (sn.add 16)
  refine ⟨m', h1, Reach.one rfl ?_ h2⟩
  simp [Fl, S9, fr0, M.step, M.exec, patC, M.word, ops, M.say]
/-- the mark is seen -/
def S11 (T : Array Nat) (lim s : Nat) (first : Bool) (sn : Seen) : M :=
  { code := patC, text := T, lim, start := s, lastStart := lim, pc := 11, pos := s + 1, handed := s, outermost := first, marks := #[], frames := [fr0 s first], weight := 1, seen := sn }
theorem S9_yes (T lim s first sn) (hs : s < lim) (hc : T[s]?.getD 0 = 34) : ∃ sn', Reach 2 (S9 T lim s first sn) (P T lim s first (s + 1) 0 sn') := by
  have h1 : ¬ lim ≤ s := by omega
  refine ⟨(sn.add 16).add 28, Reach.one (m' := S11 T lim s first (sn.add 16)) rfl ?_ (Reach.step rfl ?_)⟩
  · simp [S9, M.step, M.exec, patC, M.word, ops, h1, accepts, eqb hc, itemWidth, S11, fr0]
  · simp [S11, M.step, M.exec, patC, M.word, ops, P, fr0, M.possessive, M.attempt, M.frame, M.keep, maxRepeat, kp]
/-- inside of a turn, under the branch -/
def B (T : Array Nat) (lim s : Nat) (first : Bool) (p : Nat) (n : Int) (alt pc pos : Nat) (h : Nat) (ans : Option Bool) (sn : Seen) : M :=
  { code := patC, text := T, lim, start := s, lastStart := lim, pc, pos, handed := h, outermost := false, marks := #[], loops := #[{ pc := 0, outer := none }], inner := some 0,
    frames := [{ wait := .nextBranch, pc := alt, pos := p, outermost := false, kept := kp }, { wait := .possMore, pc := 11, pos := p, outermost := first, count := n, loop := 0, kept := kp }, fr0 s first], weight := 3, seen := sn, answer := ans }
theorem P_in (T lim s first p n sn) : ∃ sn', Reach 1 (P T lim s first p n sn) (B T lim s first p n 16 17 p p none sn') := by
  refine ⟨sn.add 7, Reach.step rfl ?_⟩
  simp [P, B, M.step, M.exec, patC, M.word, ops, M.alternative, M.attempt, M.frame, M.keep, kp]
/-- a plain sign: the first branch -/
theorem B_plain (T lim s first p n sn) (hp : p < lim) (h1 : T[p]?.getD 0 ≠ 34) (h2 : T[p]?.getD 0 ≠ 92) : ∃ sn', Reach 1 (B T lim s first p n 16 17 p p none sn) (B T lim s first p n 16 25 (p + 1) p none sn') := by
  have h0 : ¬ lim ≤ p := by omega
  refine ⟨(((((sn.add 13).add 21).add 16).add 16).add 0), Reach.step rfl ?_⟩
  simp [B, M.step, M.exec, patC, M.word, ops, h0, accepts, inSet, neb h1, neb h2, itemWidth]
/-- the first branch fails -/
theorem B_not (T lim s first p n sn) (hp : lim ≤ p ∨ T[p]?.getD 0 = 34 ∨ T[p]?.getD 0 = 92) : ∃ sn', Reach 1 (B T lim s first p n 16 17 p p none sn) (B T lim s first p n 16 17 p p (some false) sn') := by
  by_cases h0 : lim ≤ p
  · refine ⟨sn.add 13, Reach.step rfl ?_⟩
    simp [B, M.step, M.exec, patC, M.word, ops, h0, M.say]
  · rcases hp with h | h | h
    · exact absurd h h0
    · refine ⟨(((sn.add 13).add 21).add 16), Reach.step rfl ?_⟩
      simp [B, M.step, M.exec, patC, M.word, ops, h0, accepts, inSet, h, M.say]
    · refine ⟨((((sn.add 13).add 21).add 16).add 16), Reach.step rfl ?_⟩
      simp [B, M.step, M.exec, patC, M.word, ops, h0, accepts, inSet, h, M.say]
theorem B_turn (T lim s first p n q j sn) : ∃ sn', Reach 1 (B T lim s first p n 16 q j p (some false) sn) (B T lim s first p n 27 28 p p none sn') := by
  refine ⟨sn, Reach.step rfl ?_⟩
  simp [B, M.step, M.resume, patC, M.putBack, kp, M.alternative, M.attempt, M.frame]
/-- a stroke: the second branch -/
theorem B_stroke (T lim s first p n sn) (hp : p < lim) (h2 : T[p]?.getD 0 = 92) : ∃ sn', Reach 1 (B T lim s first p n 27 28 p p none sn) (B T lim s first p n 27 30 (p + 1) p none sn') := by
  have h0 : ¬ lim ≤ p := by omega
  refine ⟨sn.add 16, Reach.step rfl ?_⟩
  simp [B, M.step, M.exec, patC, M.word, ops, h0, accepts, h2, itemWidth]
theorem B_nostroke (T lim s first p n sn) (h2 : lim ≤ p ∨ T[p]?.getD 0 ≠ 92) : ∃ sn', Reach 1 (B T lim s first p n 27 28 p p none sn) (B T lim s first p n 27 28 p p (some false) sn') := by
  refine ⟨sn.add 16, Reach.step rfl ?_⟩
  by_cases h0 : lim ≤ p
  · simp [B, M.step, M.exec, patC, M.word, ops, h0, M.say]
  · have h2' := h2.resolve_left h0
    simp [B, M.step, M.exec, patC, M.word, ops, h0, accepts, neb h2', M.say]
theorem B_any (T lim s first p n sn) (hp : p + 1 < lim) (h2 : T[p + 1]?.getD 0 ≠ 10) : ∃ sn', Reach 1 (B T lim s first p n 27 30 (p + 1) p none sn) (B T lim s first p n 27 31 (p + 2) p none sn') := by
  have h0 : ¬ lim ≤ p + 1 := by omega
  refine ⟨sn.add 2, Reach.step rfl ?_⟩
  simp [B, M.step, M.exec, patC, M.word, ops, h0, accepts, bne, neb h2, itemWidth]
theorem B_noany (T lim s first p n sn) (h2 : lim ≤ p + 1 ∨ T[p + 1]?.getD 0 = 10) : ∃ sn', Reach 1 (B T lim s first p n 27 30 (p + 1) p none sn) (B T lim s first p n 27 30 (p + 1) p (some false) sn') := by
  refine ⟨sn.add 2, Reach.step rfl ?_⟩
  by_cases h0 : lim ≤ p + 1
  · simp [B, M.step, M.exec, patC, M.word, ops, h0, M.say]
  · have h2' := h2.resolve_left h0
    simp [B, M.step, M.exec, patC, M.word, ops, h0, accepts, h2', M.say]
/-- the many is left -/
def S35 (T : Array Nat) (lim s : Nat) (first : Bool) (p : Nat) (sn : Seen) : M :=
  { code := patC, text := T, lim, start := s, lastStart := lim, pc := 35, pos := p, handed := p, outermost := first, marks := #[], frames := [fr0 s first], weight := 1, seen := sn }
theorem B_leave (T lim s first p n q j sn) (hn : 0 ≤ n) : Reach 2 (B T lim s first p n 27 q j p (some false) sn) (S35 T lim s first p sn) := by
  have h1 : ¬ n < 0 := by omega
  refine Reach.one (m' := { P T lim s first p n sn with pc := 27, pos := p, handed := p, answer := some false, frames := [{ wait := .possMore, pc := 11, pos := p, outermost := first, count := n, loop := 0, kept := kp }, fr0 s first] }) rfl ?_ (Reach.step rfl ?_)
  · simp [B, P, M.step, M.resume, M.say, kp, patC, M.putBack, M.alternative]
  · simp [P, S35, M.step, M.resume, kp, M.possessive, M.word, patC, h1, M.putBack, M.loopAt]
theorem S35_no (T lim s first p sn) (h : lim ≤ p ∨ T[p]?.getD 0 ≠ 34) : ∃ sn', Reach 1 (S35 T lim s first p sn) (Fl T lim s first 35 p p sn') := by
  refine ⟨sn.add 16, Reach.step rfl ?_⟩
  by_cases h0 : lim ≤ p
  · simp [S35, Fl, M.step, M.exec, patC, M.word, ops, h0, M.say]
  · have h2' := h.resolve_left h0
    simp [S35, Fl, M.step, M.exec, patC, M.word, ops, h0, accepts, neb h2', M.say]
def Won (m : M) (s h : Nat) : Prop := m.outcome = some .matched ∧ m.start = s ∧ m.handed = h
theorem S35_yes (T lim s first p sn) (h0 : p < lim) (h : T[p]?.getD 0 = 34) : ∃ m', Won m' s (p + 1) ∧ Reach 4 (S35 T lim s first p sn) m' := by
  have h1 : ¬ lim ≤ p := by omega
  refine ⟨_, ⟨?a, ?b, ?c⟩, Reach.one (m' := { S35 T lim s first p (sn.add 16) with pc := 37, pos := p + 1 }) rfl ?_ (Reach.one (m' := { S35 T lim s first p ((sn.add 16).add 1) with pc := 37, pos := p + 1, handed := p + 1, answer := some true }) rfl ?_
    (Reach.one (m' := { S35 T lim s first p ((sn.add 16).add 1) with pc := 9, pos := s, handed := p + 1, answer := some true, frames := [], weight := 0 }) rfl ?_
    (Reach.step (m' := { S35 T lim s first p ((sn.add 16).add 1) with pc := 9, pos := s, handed := p + 1, answer := some true, frames := [], weight := 0, outcome := some .matched }) rfl rfl)))⟩
  case a => rfl
  case b => rfl
  case c => rfl
  · simp [S35, M.step, M.exec, patC, M.word, ops, h1, accepts, eqb h, itemWidth]
  · simp [S35, M.step, M.exec, patC, M.word, ops, M.say]
  · simp [S35, M.step, M.resume, fr0, M.say]
theorem B_jump (T lim s first p n alt pc j q sn) (h : (alt = 16 ∧ pc = 25) ∨ (alt = 27 ∧ pc = 31)) : ∃ sn', Reach 1 (B T lim s first p n alt pc q j none sn) (B T lim s first p n alt 34 q j none sn') := by
  refine ⟨sn.add 15, Reach.step rfl ?_⟩
  rcases h with ⟨rfl, rfl⟩ | ⟨rfl, rfl⟩ <;> simp [B, M.step, M.exec, patC, M.word, ops]
theorem B_won (T lim s first p n alt q j sn) : ∃ sn', Reach 1 (B T lim s first p n alt 34 q j none sn) (B T lim s first p n alt 34 q q (some true) sn') := by
  refine ⟨sn.add 1, Reach.step rfl ?_⟩
  simp [B, M.step, M.exec, patC, M.word, ops, M.say]
theorem B_next (T lim s first p n alt q sn) (hq : p < q) (hn : 0 ≤ n) : Reach 2 (B T lim s first p n alt 34 q q (some true) sn) (P T lim s first q (n + 1) sn) := by
  have h1 : p ≠ q := by omega
  have h2 : ¬ n + 1 < 0 := by omega
  refine Reach.one (m' := { P T lim s first q n sn with pc := alt, pos := p, handed := q, answer := some true, frames := [{ wait := .possMore, pc := 11, pos := p, outermost := first, count := n, loop := 0, kept := kp }, fr0 s first] }) rfl ?_ (Reach.step rfl ?_)
  · simp [B, P, M.step, M.resume, M.say, kp]
  · simp [P, M.step, M.resume, M.say, kp, M.possessive, M.word, patC, h1, h2, maxRepeat, M.attempt, M.frame, M.keep]
theorem drop_at (T : Array Nat) (p : Nat) (h : p < T.size) : T.toList.drop p = T[p]?.getD 0 :: T.toList.drop (p + 1) := by
  rw [List.drop_eq_getElem_cons (by simpa using h)]
  simp [h]
theorem drop_past (T : Array Nat) (p : Nat) (h : T.size ≤ p) : T.toList.drop p = [] := List.drop_eq_nil_of_le (by simpa using h)
theorem len_drop (T : Array Nat) (p : Nat) : (T.toList.drop p).length = T.size - p := by simp
/-- what a many's run comes to -/
def Runs (T : Array Nat) (s : Nat) (first : Bool) (b : Nat) (m : M) : Option (List Nat) → Prop
  | some r => ∃ m', Won m' s (T.size - r.length) ∧ Reach b m m'
  | none => ∃ pc p h sn', Reach b m (Fl T T.size s first pc p h sn')
theorem Runs.one {T s first b c m m' o} (h : Reach b m m') (h' : Runs T s first c m' o) : Runs T s first (b + c) m o := by
  cases o with
  | some r => obtain ⟨m2, h1, h2⟩ := h'; exact ⟨m2, h1, h.trans h2 (by omega)⟩
  | none => obtain ⟨pc, p, j, sn, h2⟩ := h'; exact ⟨pc, p, j, sn, h.trans h2 (by omega)⟩
theorem Runs.more {T s first b c m o} (h' : Runs T s first b m o) (h : b ≤ c) : Runs T s first c m o := by
  cases o with
  | some r => obtain ⟨m2, h1, h2⟩ := h'; exact ⟨m2, h1, h2.more h⟩
  | none => obtain ⟨pc, p, j, sn, h2⟩ := h'; exact ⟨pc, p, j, sn, h2.more h⟩
theorem P_plain (T lim s first p n sn) (hn : 0 ≤ n) (hp : p < lim) (h1 : T[p]?.getD 0 ≠ 34) (h2 : T[p]?.getD 0 ≠ 92) : ∃ sn', Reach 6 (P T lim s first p n sn) (P T lim s first (p + 1) (n + 1) sn') := by
  obtain ⟨s1, r1⟩ := P_in T lim s first p n sn
  obtain ⟨s2, r2⟩ := B_plain T lim s first p n s1 hp h1 h2
  obtain ⟨s3, r3⟩ := B_jump T lim s first p n 16 25 p (p + 1) s2 (.inl ⟨rfl, rfl⟩)
  obtain ⟨s4, r4⟩ := B_won T lim s first p n 16 (p + 1) p s3
  exact ⟨s4, r1.trans (r2.trans (r3.trans (r4.trans (B_next T lim s first p n 16 (p + 1) s4 (by omega) hn) (Nat.le_refl _)) (Nat.le_refl _)) (Nat.le_refl _)) (by omega)⟩
theorem P_stroke (T lim s first p n sn) (hn : 0 ≤ n) (hp : p + 1 < lim) (h1 : T[p]?.getD 0 = 92) (h2 : T[p + 1]?.getD 0 ≠ 10) : ∃ sn', Reach 9 (P T lim s first p n sn) (P T lim s first (p + 2) (n + 1) sn') := by
  obtain ⟨s1, r1⟩ := P_in T lim s first p n sn
  obtain ⟨s2, r2⟩ := B_not T lim s first p n s1 (.inr (.inr h1))
  obtain ⟨s3, r3⟩ := B_turn T lim s first p n 17 p s2
  obtain ⟨s4, r4⟩ := B_stroke T lim s first p n s3 (by omega) h1
  obtain ⟨s5, r5⟩ := B_any T lim s first p n s4 hp h2
  obtain ⟨s6, r6⟩ := B_jump T lim s first p n 27 31 p (p + 2) s5 (.inr ⟨rfl, rfl⟩)
  obtain ⟨s7, r7⟩ := B_won T lim s first p n 27 (p + 2) p s6
  exact ⟨s7, r1.trans (r2.trans (r3.trans (r4.trans (r5.trans (r6.trans (r7.trans (B_next T lim s first p n 27 (p + 2) s7 (by omega) hn) (Nat.le_refl _)) (Nat.le_refl _)) (Nat.le_refl _)) (Nat.le_refl _)) (Nat.le_refl _)) (Nat.le_refl _)) (by omega)⟩
theorem P_leave (T lim s first p n sn) (hn : 0 ≤ n) (h : (lim ≤ p ∨ T[p]?.getD 0 = 34) ∨ (p < lim ∧ T[p]?.getD 0 = 92 ∧ (lim ≤ p + 1 ∨ T[p + 1]?.getD 0 = 10))) : ∃ sn', Reach 7 (P T lim s first p n sn) (S35 T lim s first p sn') := by
  obtain ⟨s1, r1⟩ := P_in T lim s first p n sn
  rcases h with h | ⟨h0, h1, h2⟩
  · obtain ⟨s2, r2⟩ := B_not T lim s first p n s1 (h.imp id .inl)
    obtain ⟨s3, r3⟩ := B_turn T lim s first p n 17 p s2
    obtain ⟨s4, r4⟩ := B_nostroke T lim s first p n s3 (h.imp id fun e => by rw [e]; decide)
    exact ⟨s4, r1.trans (r2.trans (r3.trans (r4.trans (B_leave T lim s first p n 28 p s4 hn) (Nat.le_refl _)) (Nat.le_refl _)) (Nat.le_refl _)) (by omega)⟩
  · obtain ⟨s2, r2⟩ := B_not T lim s first p n s1 (.inr (.inr h1))
    obtain ⟨s3, r3⟩ := B_turn T lim s first p n 17 p s2
    obtain ⟨s4, r4⟩ := B_stroke T lim s first p n s3 h0 h1
    obtain ⟨s5, r5⟩ := B_noany T lim s first p n s4 h2
    exact ⟨s5, r1.trans (r2.trans (r3.trans (r4.trans (r5.trans (B_leave T lim s first p n 30 (p + 1) s5 hn) (Nat.le_refl _)) (Nat.le_refl _)) (Nat.le_refl _)) (Nat.le_refl _)) (by omega)⟩
theorem P_run (T : Array Nat) (s : Nat) (first : Bool) : ∀ (k p : Nat) (n : Int) (sn : Seen), T.size - p < k → 0 ≤ n → Runs T s first (11 * k) (P T T.size s first p n sn) (shutL (T.toList.drop p))
  | 0, p, n, sn, hk, hn => absurd hk (Nat.not_lt_zero _)
  | k + 1, p, n, sn, hk, hn => by
    by_cases hp : T.size ≤ p
    · rw [drop_past T p hp]
      obtain ⟨s1, r1⟩ := P_leave T T.size s first p n sn hn (.inl (.inl hp))
      obtain ⟨s2, r2⟩ := S35_no T T.size s first p s1 (.inl hp)
      exact ⟨_, _, _, _, r1.trans r2 (by omega)⟩
    · have hp' : p < T.size := by omega
      rw [drop_at T p hp']
      by_cases c1 : T[p]?.getD 0 = 34
      · rw [c1, shutL_quote]
        obtain ⟨s1, r1⟩ := P_leave T T.size s first p n sn hn (.inl (.inr c1))
        obtain ⟨m', w, r2⟩ := S35_yes T T.size s first p s1 hp' c1
        refine ⟨m', ?_, r1.trans r2 (by omega)⟩
        rw [len_drop]
        have : T.size - (T.size - (p + 1)) = p + 1 := by omega
        rw [this]; exact w
      · by_cases c2 : T[p]?.getD 0 = 92
        · rw [c2]
          by_cases hq : T.size ≤ p + 1
          · rw [drop_past T (p + 1) hq]
            obtain ⟨s1, r1⟩ := P_leave T T.size s first p n sn hn (.inr ⟨hp', c2, .inl hq⟩)
            obtain ⟨s2, r2⟩ := S35_no T T.size s first p s1 (.inr c1)
            exact ⟨_, _, _, _, r1.trans r2 (by omega)⟩
          · rw [drop_at T (p + 1) (by omega)]
            by_cases c3 : T[p + 1]?.getD 0 = 10
            · rw [c3, show shutL (92 :: 10 :: T.toList.drop (p + 1 + 1)) = none by simp [shutL]]
              obtain ⟨s1, r1⟩ := P_leave T T.size s first p n sn hn (.inr ⟨hp', c2, .inr c3⟩)
              obtain ⟨s2, r2⟩ := S35_no T T.size s first p s1 (.inr c1)
              exact ⟨_, _, _, _, r1.trans r2 (by omega)⟩
            · rw [shutL_back _ _ c3]
              obtain ⟨s1, r1⟩ := P_stroke T T.size s first p n sn hn (by omega) c2 c3
              exact (Runs.one r1 (P_run T s first k (p + 2) (n + 1) s1 (by omega) (by omega))).more (by omega)
        · rw [shutL_other _ _ c1 c2]
          obtain ⟨s1, r1⟩ := P_plain T T.size s first p n sn hn hp' c1 c2
          exact (Runs.one r1 (P_run T s first k (p + 1) (n + 1) s1 (by omega) (by omega))).more (by omega)
/-- the first marked stretch: what stands ahead of it, what stands behind it -/
def findL : List Nat → Option (List Nat × List Nat)
  | [] => none
  | 34 :: r => match shutL r with
    | some t => some ([], t)
    | none => (findL r).map fun x => (34 :: x.1, x.2)
  | c :: r => (findL r).map fun x => (c :: x.1, x.2)
theorem findL_shut (r t : List Nat) (h : shutL r = some t) : findL (34 :: r) = some ([], t) := by simp [findL, h]
theorem findL_open (r : List Nat) (h : shutL r = none) : findL (34 :: r) = (findL r).map fun x => (34 :: x.1, x.2) := by simp [findL, h]
theorem findL_other (c : Nat) (r : List Nat) (h : c ≠ 34) : findL (c :: r) = (findL r).map fun x => (c :: x.1, x.2) := by
  rw [findL]
  simp_all
theorem unq_find : ∀ l : List Nat, unqL l = match findL l with | none => l | some (pre, t) => pre ++ unqL t
  | [] => by simp [findL, unqL_nil]
  | c :: r => by
    have ih := unq_find r
    by_cases h : c = 34
    · subst h
      cases hs : shutL r with
      | some t => rw [unqL_shut _ _ hs, findL_shut _ _ hs]; rfl
      | none =>
        rw [unqL_open _ hs, findL_open _ hs, ih]
        cases findL r with
        | none => rfl
        | some x => rfl
    · rw [unqL_other _ _ h, findL_other _ _ h, ih]
      cases findL r with
      | none => rfl
      | some x => rfl
theorem shut_suf : ∀ (r t : List Nat), shutL r = some t → t = r.drop (r.length - t.length)
  | [], _, h => by simp [shutL] at h
  | [c], t, h => by
    by_cases h1 : c = 34
    · subst h1; simp [shutL] at h; subst h; rfl
    · by_cases h2 : c = 92
      · subst h2; simp [shutL] at h
      · rw [shutL_other _ _ h1 h2] at h; simp [shutL] at h
  | c :: d :: r, t, h => by
    by_cases h1 : c = 34
    · subst h1; simp [shutL] at h; subst h
      simp
    · by_cases h2 : c = 92
      · subst h2
        by_cases h3 : d = 10
        · subst h3; simp [shutL] at h
        · rw [shutL_back _ _ h3] at h
          have h4 := shut_suf r t h
          have h5 := shutL_lt r t h
          simp only [List.length_cons]
          rw [show r.length + 1 + 1 - t.length = (r.length - t.length) + 1 + 1 by omega, List.drop_succ_cons, List.drop_succ_cons]
          exact h4
      · rw [shutL_other _ _ h1 h2] at h
        have h4 := shut_suf (d :: r) t h
        have h5 := shutL_lt (d :: r) t h
        rw [List.length_cons, show (d :: r).length + 1 - t.length = ((d :: r).length - t.length) + 1 by omega, List.drop_succ_cons]
        exact h4
theorem find_len : ∀ (l pre t : List Nat), findL l = some (pre, t) → pre.length + t.length + 2 ≤ l.length ∧ pre = l.take pre.length ∧ t = l.drop (l.length - t.length)
  | [], _, _, h => by simp [findL] at h
  | c :: r, pre, t, h => by
    by_cases hc : c = 34
    · subst hc
      cases hs : shutL r with
      | some u =>
        rw [findL_shut _ _ hs] at h
        cases h
        have := shutL_lt _ _ hs
        have h2 := shut_suf _ _ hs
        refine ⟨by simp; omega, rfl, ?_⟩
        rw [List.length_cons, show r.length + 1 - t.length = (r.length - t.length) + 1 by omega, List.drop_succ_cons]
        exact h2
      | none =>
        rw [findL_open _ hs] at h
        cases hf : findL r with
        | none => rw [hf] at h; cases h
        | some x =>
          rw [hf] at h
          cases h
          obtain ⟨i1, i2, i3⟩ := find_len r x.1 x.2 hf
          refine ⟨by simp; omega, ?_, ?_⟩
          · simp only [List.length_cons, List.take_succ_cons]; rw [← i2]
          · rw [List.length_cons, show r.length + 1 - x.2.length = (r.length - x.2.length) + 1 by omega, List.drop_succ_cons]
            exact i3
    · rw [findL_other _ _ hc] at h
      cases hf : findL r with
      | none => rw [hf] at h; cases h
      | some x =>
        rw [hf] at h
        cases h
        obtain ⟨i1, i2, i3⟩ := find_len r x.1 x.2 hf
        refine ⟨by simp; omega, ?_, ?_⟩
        · simp only [List.length_cons, List.take_succ_cons]; rw [← i2]
        · rw [List.length_cons, show r.length + 1 - x.2.length = (r.length - x.2.length) + 1 by omega, List.drop_succ_cons]
          exact i3
def Finds (T : Array Nat) (s : Nat) (b : Nat) (m : M) : Option (List Nat × List Nat) → Prop
  | some x => ∃ m', Won m' (s + x.1.length) (T.size - x.2.length) ∧ Reach b m m'
  | none => ∃ m', m'.outcome = some .failed ∧ Reach b m m'
theorem Finds.one {T s b c d m m' o} (x : Nat) (h : Reach b m m') (h' : Finds T (s + 1) c m' o) (hd : b + c ≤ d) : Finds T s d m (o.map fun y => (x :: y.1, y.2)) := by
  cases o with
  | some r =>
    obtain ⟨m2, h1, h2⟩ := h'
    refine ⟨m2, ?_, h.trans h2 hd⟩
    simp only [List.length_cons]
    rw [show s + (r.1.length + 1) = s + 1 + r.1.length by omega]
    exact h1
  | none => obtain ⟨m2, h1, h2⟩ := h'; exact ⟨m2, h1, h.trans h2 hd⟩
theorem S9_run (T : Array Nat) : ∀ (k s : Nat) (first : Bool) (sn : Seen), T.size - s ≤ k → s ≤ T.size → Finds T s ((k + 1) * (11 * T.size + 20)) (S9 T T.size s first sn) (findL (T.toList.drop s))
  | 0, s, first, sn, hk, hs => by
    have e : s = T.size := by omega
    subst e
    rw [drop_past T _ (Nat.le_refl _)]
    obtain ⟨m', h1, h2⟩ := S9_end T T.size first sn
    exact ⟨m', h1, h2.more (by omega)⟩
  | k + 1, s, first, sn, hk, hs => by
    have hb : (k + 1 + 1) * (11 * T.size + 20) = (k + 1) * (11 * T.size + 20) + (11 * T.size + 20) := Nat.succ_mul _ _
    by_cases he : s = T.size
    · subst he
      rw [drop_past T _ (Nat.le_refl _)]
      obtain ⟨m', h1, h2⟩ := S9_end T T.size first sn
      exact ⟨m', h1, h2.more (by omega)⟩
    · have hs' : s < T.size := by omega
      rw [drop_at T s hs']
      by_cases hc : T[s]?.getD 0 = 34
      · rw [hc]
        obtain ⟨s1, r1⟩ := S9_yes T T.size s first sn hs' hc
        have r2 := P_run T s first (T.size + 1) (s + 1) 0 s1 (by omega) (by omega)
        cases hr : shutL (T.toList.drop (s + 1)) with
        | some t =>
          rw [findL_shut _ _ hr]
          rw [hr] at r2
          obtain ⟨m', h1, h2⟩ := r2
          exact ⟨m', h1, r1.trans h2 (by omega)⟩
        | none =>
          rw [findL_open _ hr]
          rw [hr] at r2
          obtain ⟨pc, p, h, sn', h2⟩ := r2
          have r3 := Fl_next T T.size s first pc p h sn' hs'
          exact Finds.one 34 (r1.trans (h2.trans r3 (Nat.le_refl _)) (Nat.le_refl _)) (S9_run T k (s + 1) false _ (by omega) (by omega)) (by omega)
      · rw [findL_other _ _ hc]
        obtain ⟨s1, r1⟩ := S9_no T T.size s first sn hs' hc
        exact Finds.one _ r1 (S9_run T k (s + 1) false _ (by omega) (by omega)) (by omega)
end Mine.Plain
end

/- part R2 -/
section
open PySem PySem.W PyProof.Rows PySem.Builtin PySem.Builtin.Re
namespace Mine
open Plain
theorem runFor_some (m : Sre.M) (h : m.outcome.isSome = true) : ∀ n, Sre.M.runFor n m = m
  | 0 => rfl
  | n + 1 => by rw [Sre.M.runFor, if_pos h]
theorem runFor_add (a b : Nat) : ∀ m : Sre.M, Sre.M.runFor (a + b) m = Sre.M.runFor b (Sre.M.runFor a m) := by
  induction a with
  | zero => intro m; rw [Nat.zero_add]; rfl
  | succ a ih =>
    intro m
    rw [Nat.succ_add, Sre.M.runFor, Sre.M.runFor]
    split
    · rename_i h; rw [runFor_some m h]
    · exact ih _
section
variable {M : Model} {A : Around} {E : Value → Shared → Prop} {s : Shared}
theorem wpAny_drive (m' : Sre.M) (ho : m'.outcome.isSome = true) {Q : Sre.M → Shared → Prop} (hq : Q m' s) : ∀ (turns k : Nat) (m : Sre.M), 0 < turns → k ≤ 4 * turns → Sre.M.runFor k m = m' → wpAny M A (reDrive turns m) Q E s
  | 0, _, _, h, _, _ => absurd h (Nat.lt_irrefl 0)
  | turns + 1, k, m, _, hk, hr => by
    show wpAny M A (if (Sre.M.runFor 4 m).outcome.isSome = true then pure (Sre.M.runFor 4 m) else (rule "sre.turn" >>= fun _ => reDrive turns (Sre.M.runFor 4 m))) Q E s
    by_cases h4 : (Sre.M.runFor 4 m).outcome.isSome = true
    · rw [if_pos h4]
      have e : Sre.M.runFor 4 m = m' := by
        by_cases hk4 : k ≤ 4
        · obtain ⟨j, hj⟩ : ∃ j, 4 = k + j := ⟨4 - k, by omega⟩
          rw [hj, runFor_add, hr, runFor_some _ ho]
        · obtain ⟨j, hj⟩ : ∃ j, k = 4 + j := ⟨k - 4, by omega⟩
          rw [hj, runFor_add, runFor_some _ h4] at hr
          exact hr
      rw [e]
      exact wpAny_pure hq
    · rw [if_neg h4]
      have hk4 : 4 < k := by
        refine Nat.lt_of_not_le fun hle => h4 ?_
        obtain ⟨j, hj⟩ : ∃ j, 4 = k + j := ⟨4 - k, by omega⟩
        rw [hj, runFor_add, hr, runFor_some _ ho]
        exact ho
      refine wpAny_bind (wpAny_rule ?_)
      obtain ⟨j, hj⟩ : ∃ j, k = 4 + j := ⟨k - 4, by omega⟩
      rw [hj, runFor_add] at hr
      exact wpAny_drive m' ho hq turns j _ (by omega) (by omega) hr
theorem wpAny_runToEnd (b : Nat) (m m' : Sre.M) (h : Reach b m m') (ho : m'.outcome.isSome = true) (hb : b ≤ 4 * 2 ^ 64) {Q : Option Sre.M → Shared → Prop}
    (hq : wpAny M A (match m'.outcome with
      | some .matched => pure (some m')
      | some .failed => pure none
      | some (.stuck why) => unsupported s!"_sre:{why}"
      | none => unsupported "internal:sre:no-outcome") Q E s) : wpAny M A (reRunToEnd m) Q E s := by
  obtain ⟨k, hk, hr⟩ := h
  unfold reRunToEnd
  refine wpAny_bind (wpAny_drive m' ho ?_ (2 ^ 64) k m (Nat.pos_of_ne_zero (by decide)) (Nat.le_trans hk hb) (hr 0))
  refine wpAny_bind ?_
  refine wpAny_forIn_list _ (fun _ _ s' => s' = s) _ ?_ ?_ _ _ rfl
  · intro x rest u s1 e
    subst e
    split
    · exact wpAny_bind (wpAny_rule (wpAny_pure rfl))
    · exact wpAny_pure rfl
  · intro u s1 e
    subst e
    exact hq
end
theorem forSearch_eq (T : Array Nat) (s : Nat) : Sre.forSearch patC T 0 s T.size false =
    if (decide (s > T.size) || decide (T.size - s < 2)) = true then { S9 T T.size s true (({} : Sre.Seen).add 14) with frames := [], weight := 0, lastStart := 0, outermost := true, answer := some false } else S9 T T.size s true (({} : Sre.Seen).add 14) := by
  rfl
theorem find_short (l : List Nat) (h : l.length < 2) : findL l = none := by
  cases hf : findL l with
  | none => rfl
  | some x => have := (find_len l x.1 x.2 hf).1; omega
/-- what the search gives -/
def GotAt (T : Array Nat) (s : Nat) (m : Option Sre.M) : Prop := match findL (T.toList.drop s) with
  | some x => ∃ m', m = some m' ∧ m'.start = s + x.1.length ∧ m'.handed = T.size - x.2.length
  | none => m = none
theorem wpAny_search {M : Model} {A : Around} {E : Value → Shared → Prop} {sh : Shared} (T : Array Nat) (s : Nat) (hs : s ≤ T.size) (hT : T.size ≤ 1000) {Q : Option Sre.M → Shared → Prop}
    (hq : ∀ m, GotAt T s m → Q m sh) : wpAny M A (reRunToEnd (Sre.forSearch patC T 0 s T.size false)) Q E sh := by
  have hf : Finds T s ((T.size + 1) * (11 * T.size + 20)) (Sre.forSearch patC T 0 s T.size false) (findL (T.toList.drop s)) := by
    rw [forSearch_eq]
    split
    · rename_i hc
      have h2 : (T.toList.drop s).length < 2 := by
        rw [len_drop]; simp at hc; omega
      rw [find_short _ h2]
      refine ⟨_, ?h, (Reach.step (m' := { S9 T T.size s true (({} : Sre.Seen).add 14) with frames := [], weight := 0, lastStart := 0, outermost := true, answer := some false, outcome := some .failed }) rfl rfl).more ?_⟩
      case h => rfl
      rw [Nat.succ_mul]; omega
    · exact S9_run T T.size s true _ (by omega) hs
  have hb : (T.size + 1) * (11 * T.size + 20) ≤ 1001 * 11020 := Nat.mul_le_mul (by omega) (by omega)
  have hb' : (T.size + 1) * (11 * T.size + 20) ≤ 4 * 2 ^ 64 := Nat.le_trans hb (by decide)
  unfold GotAt at hq
  cases hx : findL (T.toList.drop s) with
  | some x =>
    rw [hx] at hf
    simp only [hx] at hq
    obtain ⟨m', ⟨ho, h1, h2⟩, hr⟩ := hf
    refine wpAny_runToEnd _ _ m' hr (by rw [ho]; rfl) hb' ?_
    rw [ho]
    exact wpAny_pure (hq _ ⟨m', rfl, h1, h2⟩)
  | none =>
    rw [hx] at hf
    simp only [hx] at hq
    obtain ⟨m', ho, hr⟩ := hf
    refine wpAny_runToEnd _ _ m' hr (by rw [ho]; rfl) hb' ?_
    rw [ho]
    exact wpAny_pure (hq _ rfl)
end Mine
end

/- part R3 -/
section
open PySem PySem.W PyProof.Rows PySem.Builtin PySem.Builtin.Re
namespace Mine
open Plain
set_option maxRecDepth 100000
theorem slot_sub : Slot "re.Pattern" "sub" "re.Pattern.sub" :=
  .of (owner := "re.Pattern") (n := "sub") (by rw [typeLookup_type, builtinLookup_eq_fast]; kernel_rfl) (by decide +kernel) (by decide +kernel) (by decide +kernel)
    (by first | exact .inl (by decide +kernel) | exact .inr (by decide +kernel)) (by rw [isSubtype_type]; kernel_rfl)
theorem entry_sub : entryFor table "re.Pattern.sub" = some Builtin.«re.Pattern.sub» := entryFor_of_tree (by kernel_rfl)
theorem entry_subloop : entryFor table "re.Pattern.sub.loop" = some Builtin.«re.Pattern.sub.loop» := entryFor_of_tree (by kernel_rfl)
theorem type_sub : typeOf (.builtin "re.Pattern.sub") = pure (.type "method_descriptor") := by show builtinType _ = _; rw [builtinType_eq_fast]; kernel_rfl
theorem args_sub (a b c : Value) : argsOk "re.Pattern.sub" ⟨[a, b, c], []⟩ := by
  unfold argsOk; rw [signature?_of (id := "re.Pattern.sub") (n := ['b', 'u', 's']) (o := ['n', 'r', 'e', 't', 't', 'a', 'P', '.', 'e', 'r']) (rows := Manifest.sig_re_Pattern) (by kernel_rfl) (by kernel_rfl)]; kernel_rfl
theorem plain_subloop : plainId "re.Pattern.sub.loop" = true := by decide +kernel
theorem quiet_subloop (args : Args) : (Code.builtin "re.Pattern.sub.loop" args).quiet = true := Code.quiet_builtin args (by decide +kernel)
theorem slot_bjoin : Slot "bytes" "join" "bytes.join" :=
  .of (owner := "bytes") (n := "join") (by rw [typeLookup_type, builtinLookup_eq_fast]; kernel_rfl) (by decide +kernel) (by decide +kernel) (by decide +kernel)
    (by first | exact .inl (by decide +kernel) | exact .inr (by decide +kernel)) (by rw [isSubtype_type]; kernel_rfl)
theorem entry_bjoin : entryFor table "bytes.join" = some Builtin.«bytes.join» := entryFor_of_tree (by kernel_rfl)
theorem args_bjoin (a b : Value) : argsOk "bytes.join" ⟨[a, b], []⟩ := by
  unfold argsOk; rw [signature?_of (id := "bytes.join") (n := ['n', 'i', 'o', 'j']) (o := ['s', 'e', 't', 'y', 'b']) (by kernel_rfl) FB.owner_bytes]; kernel_rfl
theorem slot_bcount : Slot "bytes" "count" "bytes.count" :=
  .of (owner := "bytes") (n := "count") (by rw [typeLookup_type, builtinLookup_eq_fast]; kernel_rfl) (by decide +kernel) (by decide +kernel) (by decide +kernel)
    (by first | exact .inl (by decide +kernel) | exact .inr (by decide +kernel)) (by rw [isSubtype_type]; kernel_rfl)
theorem type_bcount : typeOf (.builtin "bytes.count") = pure (.type "method_descriptor") := by show builtinType _ = _; rw [builtinType_eq_fast]; kernel_rfl
theorem entry_bcount : entryFor table "bytes.count" = some Builtin.«bytes.count» := entryFor_of_tree (by kernel_rfl)
theorem args_bcount (a b : Value) : argsOk "bytes.count" ⟨[a, b], []⟩ := by
  unfold argsOk; rw [signature?_of (id := "bytes.count") (n := ['t', 'n', 'u', 'o', 'c']) (o := ['s', 'e', 't', 'y', 'b']) (by kernel_rfl) FB.owner_bytes]; kernel_rfl
theorem look_call : typeLookup (.type "bytes") "__call__" = pure none := by rw [typeLookup_type, builtinLookup_eq_fast]; kernel_rfl
end Mine
end

/- part R4 -/
section
open PySem PySem.W PyProof.Rows PySem.Builtin PySem.Builtin.Re PySem.Builtin.Bytes
namespace Mine
open Plain
def pv (x : Array UInt8 × Tok) : Value := .bytes x.1 x.2
theorem take_eq {id : String} (x : Array UInt8 × Tok) : takeBufferQuiet? id (pv x) 0 = pure (some (x.1, none)) := by
  have hf : ((0 : Int) == fullReadOnly) = false := by decide
  unfold takeBufferQuiet? takeBuffer? pv
  rw [KBy.special_eq KBy.look_buffer, KBy.own_buffer, hf]
  simp only [pure_bind]
  rw [KBy.buffer_eq]
  rfl
theorem joined_nil : ∀ (ps : List (Array UInt8)) (k : Nat) (acc : Array UInt8), ((ps.zipIdx k).foldl (fun out (p, i) => (if i > 0 then out ++ (#[] : Array UInt8) else out) ++ p) acc).toList = acc.toList ++ ps.flatMap (·.toList)
  | [], _, acc => by simp
  | p :: ps, k, acc => by
    rw [List.zipIdx_cons, List.foldl_cons, joined_nil ps]
    simp
theorem joined_list (ps : List (Array UInt8)) : (joined #[] ps).toList = ps.flatMap (·.toList) := by
  unfold joined
  have := joined_nil ps 0 #[]
  simpa using this
theorem sum_fold (ps : List (Array UInt8)) : ∀ a : Nat, ps.foldl (· + ·.size) a = a + (ps.map (·.size)).sum := by
  induction ps with
  | nil => intro a; simp
  | cons p ps ih => intro a; rw [List.foldl_cons, ih]; simp; omega
theorem any_no (l : List (Array UInt8 × Tok)) : ((l.map fun x => (pv x, (none : Option Value))).any fun x => x.1.onHeap) = false := by
  induction l with
  | nil => rfl
  | cons x l ih => rw [List.map_cons, List.any_cons, ih]; rfl
section
variable {prog : Program} {w : World} {A : Around} {E : Value → Shared → Prop} {s : Shared}
theorem wpAny_joinLetGo (keep : List Value) {Q : Unit → Shared → Prop} (hq : Q () s) : ∀ (ps : List (Array UInt8 × Tok)), wpAny (model prog w) A (joinLetGo (ps.map fun x => (pv x, none)) keep) Q E s
  | [] => wpAny_pure hq
  | x :: ps => by
    refine wpAny_bind ?_
    refine wpAny_letGo ?_
    exact wpAny_joinLetGo keep hq ps
theorem wpAny_join (S : Addr) (o : Obj) (n : Nat) (u : Tok) (ps : List (Array UInt8 × Tok)) (hne : ps ≠ []) (hS : s.heap.get? S = some o) (hc : o.cls = .type "list") (hd : o.data = .seq (ps.map pv).toArray n)
    (hsz : (ps.map (·.1.size)).sum ≤ 1000) {Q : Value → Shared → Prop} (hq : ∀ out t' tk, out.toList = ps.flatMap (·.1.toList) → Q (.bytes out t') { s with toks := tk }) :
    wpAny (model prog w) A (joinM .bytes ⟨[.bytes #[] u, .ref S], []⟩) (fun fin s' => ∃ v, fin = .done (.ret v) ∧ Q v s') E s := by
  unfold joinM
  refine wpAny_bind ?_
  unfold selfAndOne
  refine wpAny_bind ?_
  refine wpAny_pure ?_
  refine wpAny_pure ?_
  dsimp only
  refine wpAny_bind ?_
  show wpAny _ _ (joinItems (Value.ref S)) _ _ _
  unfold joinItems
  refine wpAny_bind (wpAny_typeOf (T := "list") ⟨o, hS, hc⟩ ?_)
  show wpAny _ _ (pure (Value.ref S)) _ _ _
  refine wpAny_pure ?_
  refine wpAny_bind (wpAny_seqItems hS hd ?_)
  dsimp only
  rw [if_pos (by decide)]
  by_cases h1 : ps.length = 1
  · obtain ⟨p, rfl⟩ : ∃ p, ps = [p] := List.length_eq_one_iff.mp h1
    show wpAny _ _ (typeOf (pv p) >>= _) _ _ _
    refine wpAny_bind (wpAny_typeOf (T := "bytes") (typeIs_bytes s _ _) ?_)
    rw [if_pos (by decide)]
    exact wpAny_bind (wpAny_rule (wpAny_pure ⟨_, rfl, hq _ _ _ (by simp)⟩))
  · delta joinM.match_1
    dsimp only
    rw [dif_neg (by simpa using h1)]
    simp only [Std.Legacy.Range.forIn_eq_forIn_range']
    have hsize : [:(ps.map pv).toArray.size].size = ps.length := by simp [Std.Legacy.Range.size]
    rw [hsize]
    refine wpAny_bind ?_
    refine wpAny_forIn_list _ (fun l st s' => ∃ i, i ≤ ps.length ∧ l = List.range' i (ps.length - i) ∧ st = (((ps.take i).map (·.1)).toArray, (ps.take i).map (fun x => (pv x, (none : Option Value)))) ∧ s' = s) _ ?_ ?_ _ _ ⟨0, by omega, by simp, by simp, rfl⟩
    · rintro x rest st s1 ⟨i, hi, hl, rfl, rfl⟩
      have hlt : i < ps.length := by
        refine Nat.lt_of_not_le fun hle => ?_
        rw [show ps.length - i = 0 by omega] at hl
        cases hl
      obtain ⟨k, hk⟩ : ∃ k, ps.length - i = k + 1 := ⟨ps.length - i - 1, by omega⟩
      rw [hk, List.range'_succ] at hl
      injection hl with hx hr
      subst hx
      have hg : (ps.map pv).toArray.getD x .none = pv ps[x] := by simp [hlt]
      refine wpAny_bind (wpAny_seqItems hS hd ?_)
      dsimp only
      rw [hg]
      rw [if_neg (by rw [any_no]; decide)]
      refine wpAny_bind (wpAny_holding (wpAny_of_eq (take_eq _) ?_))
      dsimp only
      refine wpAny_bind (wpAny_seqItems hS hd ?_)
      dsimp only
      rw [if_neg (by simp)]
      refine wpAny_pure ?_
      refine ⟨x + 1, hlt, by rw [hr]; congr 1; omega, ?_, rfl⟩
      have ht : ps.take (x + 1) = ps.take x ++ [ps[x]] := by rw [List.take_add_one, List.getElem?_eq_getElem hlt]; rfl
      rw [ht, List.map_append, List.map_append, List.push_toArray]
      rfl
    · rintro st s1 ⟨i, hi, hl, rfl, rfl⟩
      have hin : i = ps.length := by
        have := congrArg List.length hl
        simp at this; omega
      subst hin
      rw [List.take_length]
      dsimp only
      refine wpAny_bind (wpAny_of_eq (show payload (.bytes #[] u) = pure #[] from rfl) ?_)
      have hlen : ((ps.map (·.1)).toArray.foldl (· + ·.size) ((#[] : Array UInt8).size * ((ps.map (·.1)).toArray.size - 1))) ≤ 1000 := by
        rw [← Array.foldl_toList, sum_fold]
        simp [Function.comp_def]
        simpa [Function.comp_def] using hsz
      have htl : tooLong ((ps.map (·.1)).toArray.foldl (· + ·.size) ((#[] : Array UInt8).size * ((ps.map (·.1)).toArray.size - 1))) = false := KBy.tooLong_not (by omega)
      rw [if_neg (by rw [htl]; decide)]
      have hout : (joined #[] (ps.map (·.1)).toArray.toList).toList = ps.flatMap (·.1.toList) := by
        rw [joined_list]; simp [List.flatMap_map]
      have hsz2 : (joined #[] (ps.map (·.1)).toArray.toList).size ≤ 1000 := by
        rw [← Array.length_toList, hout, List.length_flatMap]
        simpa using hsz
      refine wpAny_bind ?_
      show wpAny _ _ (mkBytes _) _ _ _
      refine wpAny_mkBytes ?_ (Nat.le_trans hsz2 (by rw [sizeLine_eq]; decide))
      refine wpAny_bind (wpAny_holding (wpAny_point ?_))
      refine wpAny_bind (wpAny_joinLetGo _ ?_ _)
      exact wpAny_pure ⟨_, rfl, hq _ _ _ hout⟩
end
end Mine
end

/- part R5 -/
section
open PySem PySem.W PyProof.Rows PySem.Builtin PySem.Builtin.Re PySem.Builtin.Bytes
namespace Mine
open Plain
set_option maxRecDepth 100000
/-- the compiled pattern lies at p, its words at c -/
structure PatAt (h : Heap) (p c : Addr) : Prop where
  pat : ∃ o fs, h.get? p = some o ∧ o.cls = .type "re.Pattern" ∧ o.data = .fields fs ∧ reRawNat (fs.getD 2 .none) = 0 ∧ reRawNat (fs.getD 6 .none) = 1 ∧ fs.getD 5 .none = .ref c
  words : ∃ o ws n, h.get? c = some o ∧ o.data = .seq ws n ∧ (ws.map reRawOf).map Int.toNat = patC
theorem PatAt.keeps {h h' : Heap} {p c : Addr} (x : PatAt h p c) (hp : ∀ o, h.get? p = some o → h'.get? p = some o) (hc : ∀ o, h.get? c = some o → h'.get? c = some o) : PatAt h' p c := by
  obtain ⟨⟨o, fs, h1, r1⟩, o', ws, n, h2, r2⟩ := x
  exact ⟨⟨o, fs, hp _ h1, r1⟩, o', ws, n, hc _ h2, r2⟩
theorem textOf_bytes (b : Array UInt8) (t : Tok) : reTextOf (.bytes b t) = pure (b.map (·.toNat), 1) := by
  unfold reTextOf
  show (pure none >>= _ : Sem _) = _
  rw [pure_bind]
  dsimp only
  rw [KBy.quiet_eq]
  rfl
def tgt (p : Addr) (b : Array UInt8) (t : Tok) : ReTarget :=
  { pattern := .ref p, string := .bytes b t, code := patC, text := b.map (·.toNat), kind := 1, groups := 0, pos := 0, lim := (b.map (·.toNat)).size }
section
variable {M : Model} {A : Around} {E : Value → Shared → Prop} {s : Shared}
theorem wpAny_whole {p c : Addr} (x : PatAt s.heap p c) (b : Array UInt8) (t : Tok) {Q : ReTarget → Shared → Prop} (hq : Q (tgt p b t) s) : wpAny M A (reWholeTarget (.ref p) (.bytes b t)) Q E s := by
  obtain ⟨⟨o, fs, h1, h2, h3, h4, h5, h6⟩, o', ws, n, g1, g2, g3⟩ := x
  unfold reWholeTarget
  refine wpAny_bind ?_
  unfold fieldsOf
  refine wpAny_bind (wpAny_load h1 ?_)
  rw [h3]
  refine wpAny_pure ?_
  refine wpAny_bind (wpAny_of_eq (textOf_bytes b t) ?_)
  dsimp only
  rw [h5, h4, h6]
  rw [if_neg (by decide), if_neg (by decide)]
  refine wpAny_bind ?_
  unfold reNoCollectionInside
  rw [if_pos (by decide)]
  refine wpAny_bind (wpAny_of_eq KBy.isInstance_eq ?_)
  rw [if_neg (by decide)]
  refine wpAny_pure ?_
  refine wpAny_bind ?_
  unfold reRawItems
  refine wpAny_bind (wpAny_seqItems g1 g2 ?_)
  refine wpAny_pure ?_
  refine wpAny_pure ?_
  rw [show ((some ws).getD #[]).map reRawOf = ws.map reRawOf from rfl, g3]
  exact hq
end
def bl (b : Array UInt8) : List Nat := b.toList.map UInt8.toNat
theorem text_list (b : Array UInt8) : (b.map (·.toNat)).toList = bl b := by simp [bl]
theorem bl_len (b : Array UInt8) : (bl b).length = b.size := by simp [bl]
/-- a piece of the text, as bytes again -/
def cut (b : Array UInt8) (i j : Nat) : Array UInt8 := ((b.map (·.toNat)).extract i j).map (·.toUInt8)
theorem cut_bl (b : Array UInt8) (i j : Nat) : bl (cut b i j) = ((bl b).take j).drop i := by
  have : cut b i j = b.extract i j := by
    unfold cut
    rw [← Array.map_extract, Array.map_map]
    have : ((fun x => x.toUInt8) ∘ fun x => x.toNat : UInt8 → UInt8) = fun x => x := by funext x; simp
    rw [this, Array.map_id']
  rw [this]
  simp [bl, List.map_drop, List.map_take, List.drop_take]
theorem cut_size (b : Array UInt8) (i j : Nat) : (cut b i j).size = min j b.size - i := by simp [cut]
theorem cut_zero (b : Array UInt8) : cut b 0 0 = #[] := by simp [cut]
theorem wpAny_next {M : Model} {A : Around} {E : Value → Shared → Prop} {s : Shared} {p : Addr} {b : Array UInt8} {t : Tok} {d : Nat} (hd : d ≤ b.size) (hb : b.size ≤ 1000) {Q : Option Sre.M → Shared → Prop}
    (hq : ∀ m, GotAt (b.map (·.toNat)) d m → Q m s) : wpAny M A (reNextFound (tgt p b t) ((d : Int).toNat) false) Q E s := by
  have hsz : (b.map (·.toNat)).size = b.size := by simp
  unfold reNextFound tgt
  dsimp only
  rw [Int.toNat_natCast]
  exact wpAny_search _ d (by rw [hsz]; exact hd) (by rw [hsz]; exact hb) hq
def sz (ps : List (Array UInt8 × Tok)) : Nat := (ps.map (·.1.size)).sum
def pl (ps : List (Array UInt8 × Tok)) : List Nat := ps.flatMap fun x => bl x.1
def Lst (h : Heap) (S : Addr) (ps : List (Array UInt8 × Tok)) : Prop := ∃ cnt, h.get? S = some { cls := .type "list", dict := none, data := .seq (ps.map pv).toArray cnt, slots := #[] }
section
variable {M : Model} {A : Around} {E : Value → Shared → Prop} {s : Shared}
theorem wpAny_add {S : Addr} {ps : List (Array UInt8 × Tok)} (x : Array UInt8 × Tok) (hS : Lst s.heap S ps) (hl : ps.length ≤ 1000) {Q : Unit → Shared → Prop}
    (hq : ∀ h', Lst h' S (ps ++ [x]) → (∀ a o, a ≠ S → s.heap.get? a = some o → h'.get? a = some o) → Q () { s with heap := h' }) : wpAny M A (updateSeq S (·.push (pv x))) Q E s := by
  obtain ⟨cnt, hS⟩ := hS
  refine wpAny_updateSeq hS rfl (hq _ ⟨cnt + 1, (Heap.get?_update_self _ hS rfl).trans ?_⟩ fun a o ha e => (Heap.get?_update_other _ _ (fun h : S = a => ha h.symm)).trans e) (by rw [sizeLine_eq]; simp; omega) (by rw [sizeLine_eq]; simp; omega)
  simp [Obj.mapSeq]
theorem wpAny_slice {p : Addr} {b : Array UInt8} {t : Tok} (hb : b.size ≤ 1000) (i j : Nat) {Q : Value → Shared → Prop} (hq : Q (pv (cut b i j, s.toks)) { s with toks := s.toks + 1 }) : wpAny M A (reSlice (tgt p b t).text (tgt p b t).kind i j) Q E s := by
  show wpAny _ _ (mkBytes (cut b i j)) _ _ _
  exact wpAny_mkBytes hq (by rw [sizeLine_eq, cut_size]; omega)
end
end Mine
end

/- part R6 -/
section
open PySem PySem.W PyProof.Rows PySem.Builtin PySem.Builtin.Re PySem.Builtin.Bytes
namespace Mine
open Plain
set_option maxRecDepth 100000
theorem sz_add (ps : List (Array UInt8 × Tok)) (x : Array UInt8 × Tok) : sz (ps ++ [x]) = sz ps + x.1.size := by simp [sz]
theorem pl_add (ps : List (Array UInt8 × Tok)) (x : Array UInt8 × Tok) : pl (ps ++ [x]) = pl ps ++ bl x.1 := by simp [pl]
theorem bl_nil : bl #[] = [] := rfl
theorem bl_inj {a b : Array UInt8} (h : bl a = bl b) : a = b := by
  have h2 : (bl a).map Nat.toUInt8 = (bl b).map Nat.toUInt8 := by rw [h]
  simp only [bl, List.map_map] at h2
  have : (Nat.toUInt8 ∘ UInt8.toNat) = fun x => x := by funext x; simp
  rw [this, List.map_id', List.map_id'] at h2
  exact Array.toList_inj.mp h2
section
variable {prog : Program} {w : World} {A : Around} {R : Result → Shared → Prop}
theorem codeAny_subloop {p c S : Addr} (b : Array UInt8) (t u : Tok) (hb : b.size ≤ 900) (hp : p ≠ S) (hc : c ≠ S) : ∀ (k : Nat) (s : Shared) (d : Nat) (n : Int) (ps : List (Array UInt8 × Tok)), b.size - d < k → d ≤ b.size → PatAt s.heap p c →
    Lst s.heap S ps → ps.length ≤ d → sz ps ≤ d →
    (∀ h' tk t' out, (∀ a o, a ≠ S → s.heap.get? a = some o → h'.get? a = some o) → bl out = pl ps ++ unqL ((bl b).drop d) → R (.ok (.ret (.bytes out t'))) { s with heap := h', toks := tk }) →
    codeAny (model prog w) A (.builtin "re.Pattern.sub.loop" ⟨[.ref p, .bytes b t, .bytes #[] u, rawInt 0, rawInt 0, rawInt n, rawInt d, rawInt d, .bool false, .ref S, .bool false], []⟩) R s
  | 0, _, _, _, _, hk, _, _, _, _, _, _ => absurd hk (Nat.not_lt_zero _)
  | k + 1, s, d, n, ps, hk, hd, hP, hS, hl, hz, hR => by
    refine codeAny_builtin entry_subloop ?_
    show wpAny _ _ («re.Pattern.sub.loop» ⟨[.ref p, .bytes b t, .bytes #[] u, .int 0 0, .int 0 0, .int n 0, .int d 0, .int d 0, .bool false, .ref S, .bool false], []⟩) _ _ s
    unfold «re.Pattern.sub.loop»
    dsimp only
    refine wpAny_bind (wpAny_whole hP b t ?_)
    rw [if_pos (by decide)]
    refine wpAny_bind ?_
    unfold reLiteralCannotBeTurned
    refine wpAny_bind (wpAny_of_eq (show asStr? (.bytes #[] u) = pure none from rfl) ?_)
    rw [if_pos (by decide)]
    refine wpAny_bind (wpAny_of_eq KBy.isInstance_eq ?_)
    rw [if_neg (by decide)]
    refine wpAny_pure ?_
    rw [if_neg (by simp)]
    refine wpAny_bind ?_
    refine wpAny_next hd (by omega) fun m hm => ?_
    unfold GotAt at hm
    rw [text_list] at hm
    have hu := unq_find ((bl b).drop d)
    cases hx : findL ((bl b).drop d) with
    | some x =>
      rw [hx] at hm hu
      obtain ⟨m', rfl, h1, h2⟩ := hm
      obtain ⟨l1, l2, l3⟩ := find_len _ x.1 x.2 hx
      have hdl : ((bl b).drop d).length = b.size - d := by rw [List.length_drop, bl_len]
      rw [hdl] at l1 l3
      have hsz : (b.map (·.toNat)).size = b.size := by simp
      rw [hsz] at h2
      dsimp only
      have hms : (m'.handed == m'.start) = false := by rw [h1, h2]; exact neb (by omega)
      rw [hms, Int.toNat_natCast, h1, h2]
      have hnext : (bl b).drop (b.size - x.2.length) = x.2 := by
        rw [List.drop_drop] at l3
        have e : d + (b.size - d - x.2.length) = b.size - x.2.length := by omega
        rw [e] at l3
        exact l3.symm
      have hu' : unqL ((bl b).drop d) = x.1 ++ unqL ((bl b).drop (b.size - x.2.length)) := by rw [hnext]; exact hu
      by_cases he : d < d + x.1.length
      · rw [if_pos he]
        have hcut : bl (cut b d (d + x.1.length)) = x.1 := by
          rw [cut_bl, List.drop_take, show d + x.1.length - d = x.1.length by omega]; exact l2.symm
        have hcs : (cut b d (d + x.1.length)).size = x.1.length := by rw [← bl_len, hcut]
        refine wpAny_bind (wpAny_slice (by omega) _ _ ?_)
        refine wpAny_bind (wpAny_add (s := { s with toks := s.toks + 1 }) _ hS (by omega) fun h1' hS1 k1 => ?_)
        rw [if_pos (by decide)]
        refine wpAny_bind (wpAny_pure ?_)
        rw [if_pos (by rfl)]
        refine wpAny_bind ?_
        show wpAny _ _ (updateSeq S (·.push (pv (#[], u)))) _ _ _
        refine wpAny_add (#[], u) hS1 (by simp; omega) fun h2' hS2 k2 => ?_
        refine wpAny_pure ⟨quiet_subloop _, ?_⟩
        refine codeAny_subloop b t u hb hp hc k _ (b.size - x.2.length) (n + 1) _ (by omega) (by omega) (hP.keeps (fun o e => k2 p o hp (k1 p o hp e)) (fun o e => k2 c o hc (k1 c o hc e))) hS2 (by simp; omega) (by rw [sz_add, sz_add, hcs]; simp; omega) fun h' tk t' out kk ho => ?_
        refine hR h' tk t' out (fun a o ha e => kk a o ha (k2 a o ha (k1 a o ha e))) ?_
        rw [ho, hu', pl_add, pl_add, hcut, bl_nil, List.append_nil, List.append_assoc]
      · rw [if_neg he]
        have hx1 : x.1 = [] := List.eq_nil_of_length_eq_zero (by omega)
        rw [if_pos (by decide)]
        refine wpAny_bind (wpAny_pure ?_)
        rw [if_pos (by rfl)]
        refine wpAny_bind ?_
        show wpAny _ _ (updateSeq S (·.push (pv (#[], u)))) _ _ _
        refine wpAny_add (#[], u) hS (by omega) fun h2' hS2 k2 => ?_
        refine wpAny_pure ⟨quiet_subloop _, ?_⟩
        refine codeAny_subloop b t u hb hp hc k _ (b.size - x.2.length) (n + 1) _ (by omega) (by omega) (hP.keeps (fun o e => k2 p o hp e) (fun o e => k2 c o hc e)) hS2 (by simp; omega) (by rw [sz_add]; simp; omega) fun h' tk t' out kk ho => ?_
        refine hR h' tk t' out (fun a o ha e => kk a o ha (k2 a o ha e)) ?_
        rw [ho, hu', pl_add, hx1, bl_nil, List.append_nil, List.nil_append]
    | none =>
      rw [hx] at hm hu
      subst hm
      dsimp only at hu ⊢
      have hlim : (tgt p b t).lim = b.size := by simp [tgt]
      rw [hlim, Int.toNat_natCast]
      have fin : ∀ (s1 : Shared) (ps' : List (Array UInt8 × Tok)), Lst s1.heap S ps' → sz ps' ≤ 1000 → (∀ h' tk t' out, (∀ a o, a ≠ S → s1.heap.get? a = some o → h'.get? a = some o) → bl out = pl ps' → R (.ok (.ret (.bytes out t'))) { s1 with heap := h', toks := tk }) →
          ∀ A', wpAny (model prog w) A' (do
            let joiner ← reSlice (tgt p b t).text (tgt p b t).kind 0 0
            let __do_lift ← seqItems? (Value.ref S)
            if (__do_lift.getD #[]).isEmpty = true then do
                let text ← pure joiner
                if false = true then do
                  let __do_lift ← holding [text] (do
                    let __do_lift ← mkInt n
                    newTuple [text, __do_lift])
                  ret __do_lift
                else ret text
              else do
                let text ← call (Value.builtin (if ((tgt p b t).kind == 0) = true then "str.join" else "bytes.join")) [joiner, Value.ref S]
                if false = true then do
                  let __do_lift ← holding [text] (do
                    let __do_lift ← mkInt n
                    newTuple [text, __do_lift])
                  ret __do_lift
                else ret text) (fun fin s' => match fin with | .done f => R (.ok f) s' | .again c' => c'.quiet = true ∧ codeAny (model prog w) A c' R s') (fun e s' => R (.error e) s') s1 := by
        intro s1 ps' hS' hz' hR' A'
        obtain ⟨cnt, hS'⟩ := hS'
        refine wpAny_bind (wpAny_slice (by omega) _ _ ?_)
        refine wpAny_bind (wpAny_seqItems (s := { s1 with toks := s1.toks + 1 }) hS' rfl ?_)
        rw [cut_zero]
        by_cases hps : ps' = []
        · subst hps
          rw [if_pos (by rfl)]
          refine wpAny_bind (wpAny_pure ?_)
          rw [if_neg (by decide)]
          exact wpAny_pure (hR' _ _ _ _ (fun _ _ _ e => e) rfl)
        · rw [if_neg (by simp [hps])]
          refine wpAny_bind ?_
          show wpAny _ _ (call (Value.builtin "bytes.join") [.bytes #[] s1.toks, Value.ref S]) _ _ _
          refine wpAny_call_entry slot_bjoin (typeIs_bytes _ _ _) entry_bjoin ?_ (args_bjoin _ _)
          show wpAny _ _ (joinM .bytes ⟨[.bytes #[] s1.toks, .ref S], []⟩) _ _ _
          refine wpAny_join (s := { s1 with toks := s1.toks + 1 }) S _ cnt s1.toks ps' hps hS' rfl rfl hz' fun out t' tk ho => ?_
          rw [if_neg (by decide)]
          refine wpAny_pure (hR' s1.heap tk t' out (fun _ _ _ e => e) ?_)
          unfold bl pl
          rw [ho, List.map_flatMap]
          rfl
      by_cases he : d < b.size
      · rw [if_pos he]
        refine wpAny_bind (wpAny_slice (by omega) _ _ ?_)
        refine wpAny_bind (wpAny_add (s := { s with toks := s.toks + 1 }) _ hS (by omega) fun h1' hS1 k1 => ?_)
        refine fin { s with heap := h1', toks := s.toks + 1 } (ps ++ [(cut b d b.size, s.toks)]) hS1 (by rw [sz_add, cut_size]; omega) (fun h' tk t' out kk ho => hR h' tk t' out (fun a o ha e => kk a o ha (k1 a o ha e)) ?_) _
        rw [ho, pl_add, cut_bl, hu]
        congr 2
        exact List.take_of_length_le (by rw [bl_len]; exact Nat.le_refl _)
      · rw [if_neg he]
        refine fin _ _ hS (by omega) (fun h' tk t' out kk ho => hR h' tk t' out kk ?_) _
        have hd2 : (bl b).drop d = [] := List.drop_eq_nil_of_le (by rw [bl_len]; omega)
        rw [ho, hd2, unqL_nil, List.append_nil]
end
theorem reNamed_two (a b : Value) : reNamed "re.Pattern.sub" "sub" ["repl", "string", "count"] 2 [a, b] [] = pure [some a, some b, none] := by
  rfl
section
variable {prog : Program} {w : World} {A : Around} {E : Value → Shared → Prop} {s : Shared}
/-- a pattern's sub of nothing for its finds -/
theorem wpAny_sub {p c : Addr} (b : Array UInt8) (t u : Tok) (hb : b.size ≤ 900) (hP : PatAt s.heap p c) {Q : Value → Shared → Prop}
    (hq : ∀ h' tk t' out, (∀ a o, s.heap.get? a = some o → h'.get? a = some o) → bl out = unqL (bl b) → Q (.bytes out t') { s with heap := h', toks := tk }) :
    wpAny (model prog w) A (call (.builtin "re.Pattern.sub") [.ref p, .bytes #[] u, .bytes b t]) Q E s := by
  obtain ⟨o, fs, h1, h2, h3⟩ := hP.pat
  refine wpAny_call (codeAny_call_builtin slot_sub.plain entry_sub (slot_sub.check _ _ _ _ _ _ _ _ ⟨o, h1, h2⟩ (args_sub _ _ _) ?_))
  show wpAny _ _ (reSubstitute "re.Pattern.sub" "sub" false ⟨[.ref p, .bytes #[] u, .bytes b t], []⟩) _ _ s
  unfold reSubstitute
  dsimp only
  refine wpAny_bind (wpAny_of_eq (reNamed_two _ _) ?_)
  dsimp only
  refine wpAny_bind (wpAny_pure ?_)
  refine wpAny_bind (wpAny_of_eq (KBy.special_eq look_call) ?_)
  rw [if_neg (by decide)]
  refine wpAny_bind (wpAny_of_eq (show asStr? (.bytes #[] u) = pure none from rfl) ?_)
  dsimp only
  refine wpAny_bind (wpAny_of_eq KBy.quiet_eq ?_)
  dsimp only
  refine wpAny_bind (wpAny_pure ?_)
  rw [if_neg (by decide), if_pos (by simp)]
  refine wpAny_bind (wpAny_pure ?_)
  refine wpAny_bind (wpAny_holding (wpAny_whole hP b t ?_))
  dsimp only
  rw [if_neg (by decide)]
  refine wpAny_bind (wpAny_newList ?_)
  obtain ⟨o', ws, n', g1, g2⟩ := hP.words
  have np : p ≠ s.heap.objs.size := Nat.ne_of_lt (Heap.lt_size h1)
  have nc : c ≠ s.heap.objs.size := Nat.ne_of_lt (Heap.lt_size g1)
  refine wpAny_pure ⟨quiet_subloop _, ?_⟩
  refine codeAny_subloop b t u hb np nc (b.size + 1) _ 0 0 [] (by omega) (Nat.zero_le _) (hP.keeps (fun _ e => Heap.get?_push_of_some _ e) fun _ e => Heap.get?_push_of_some _ e) ⟨_, Heap.get?_push_size _ rfl⟩ (Nat.le_refl _) (Nat.le_refl _) fun h' tk t' out kk ho => ?_
  exact hq h' tk t' out (fun a o e => kk a o (Nat.ne_of_lt (Heap.lt_size e)) (Heap.get?_push_of_some _ e)) ho
end
end Mine
end

/- part R7 -/
section
open PySem PySem.W PyProof.Rows PySem.Builtin PySem.Builtin.Re PySem.Builtin.Bytes
namespace Mine
open Plain
set_option maxRecDepth 100000
theorem pat_in {ps} {h : Heap} (x : (hd.heap_39 ps).In h) : PatAt h 36 35 :=
  ⟨⟨_, _, x 36 _ rfl, rfl, rfl, rfl, rfl, rfl⟩, _, _, _, x 35 _ rfl, rfl, by simp [reRawOf, patC]⟩
theorem sub_call {w : World} {prog : Program} {A : Around} {E : Value → Shared → Prop} {s : Shared} {h₀ : Heap} {L : Addr} {m : Str → Option Value} {news} {Q : Value → Shared → Prop} {ps} (x : (hd.heap_39 ps).In h₀) (F : Fr h₀ L s.heap m) (N : News h₀ L s.heap news) (b : Array UInt8) (t u : Tok) (hb : b.size ≤ 900)
    (h : ∀ t' h' tk' out, bl out = unqL (bl b) → Fr h₀ L h' m → News h₀ L h' news → Q (.bytes out t') { s with heap := h', toks := tk' }) :
    wpAny (model prog w) A (call (.builtin "re.Pattern.sub") [.ref 36, .bytes #[] u, .bytes b t]) Q E s :=
  wpAny_sub b t u hb ((pat_in x).keeps (fun _ e => F.keep _ _ e) fun _ e => F.keep _ _ e) fun h' tk t' out kk ho => h t' h' tk out ho (F.keeps kk) (N.keepsAll kk)
def cstep (b sub : Array UInt8) (acc : List Nat × Nat) (i : Nat) : List Nat × Nat := if i ≥ acc.2 && b.extract i (i + sub.size) == sub then (i :: acc.1, i + sub.size) else acc
theorem one_at (b : Array UInt8) (c : UInt8) (i : Nat) (hi : i < b.size) : (b.extract i (i + (#[c] : Array UInt8).size) == #[c]) = (b[i] == c) := by
  have : b.extract i (i + (#[c] : Array UInt8).size) = #[b[i]] := by
    apply Array.ext
    · simp; omega
    · intro j h1 h2
      have : j = 0 := by simp at h2; exact h2
      subst this
      simp
  rw [this]
  simp
theorem occ_fold (b : Array UInt8) (c : UInt8) : ∀ k, k ≤ b.size → ((List.range k).foldl (cstep b #[c]) ([], 0)).1.length = ((bl b).take k).count c.toNat ∧ ((List.range k).foldl (cstep b #[c]) ([], 0)).2 ≤ k
  | 0, _ => ⟨rfl, Nat.le_refl _⟩
  | k + 1, h => by
    obtain ⟨i1, i2⟩ := occ_fold b c k (by omega)
    have hk : k < b.size := by omega
    have ht : (bl b).take (k + 1) = (bl b).take k ++ [b[k].toNat] := by
      rw [List.take_add_one, List.getElem?_eq_getElem (by rw [bl_len]; exact hk)]
      simp [bl]
    rw [List.range_succ, List.foldl_append, List.foldl_cons, List.foldl_nil, ht, List.count_append]
    unfold cstep at i1 i2 ⊢
    rw [one_at b c k hk]
    by_cases hc : b[k] = c
    · have hc' : (b[k] == c) = true := by simp [hc]
      rw [if_pos (by rw [hc', Bool.and_true]; exact decide_eq_true i2)]
      refine ⟨?_, by simp⟩
      rw [List.length_cons, i1, hc]
      simp
    · have hc' : (b[k] == c) = false := by simp [hc]
      rw [if_neg (by rw [hc']; simp)]
      refine ⟨?_, by omega⟩
      rw [i1, List.count_eq_zero_of_not_mem (l := [b[k].toNat])]
      · rfl
      · simp
        exact fun e => hc (UInt8.toNat_inj.mp e.symm)
theorem occ_count (b : Array UInt8) (c : UInt8) : (occurrences b #[c] 0 b.size).length = (bl b).count c.toNat := by
  have h := (occ_fold b c b.size (Nat.le_refl _)).1
  rw [List.take_of_length_le (by rw [bl_len]; exact Nat.le_refl _)] at h
  rw [← h]
  unfold occurrences
  rw [List.length_reverse]
  have e : ((List.range (b.size + 1 - (0 + (#[c] : Array UInt8).size))).map (· + 0)) = List.range b.size := by
    simp
  rw [e]
  rfl
theorem countM_is {M : Model} {A : Around} {E : Value → Shared → Prop} {s : Shared} (b : Array UInt8) (c : UInt8) (t u : Tok) {Q : Fin → Shared → Prop} (h : Q (.done (.ret (.int ((bl b).count c.toNat : Nat) s.toks))) { s with toks := s.toks + 1 }) :
    wpAny M A (countM .bytes ⟨[.bytes b t, .bytes #[c] u], []⟩) Q E s := by
  unfold countM
  have e : searchArgs .bytes "count" ⟨[.bytes b t, .bytes #[c] u], []⟩ = pure (b, #[c], if ((b.size : Int) - 0 < 1) then none else some (0, b.size)) := by
    unfold searchArgs
    dsimp only
    rw [show ∀ id, selfAndSome id "count" 1 3 ⟨[.bytes b t, .bytes #[c] u], []⟩ = pure (.bytes b t, [.bytes #[c] u]) from fun _ => rfl, pure_bind]
    dsimp only
    rw [show bound? ([Value.bytes #[c] u])[1]? = pure none from rfl, show bound? ([Value.bytes #[c] u])[2]? = pure none from rfl]
    rw [pure_bind, pure_bind]
    rw [show ([Value.bytes #[c] u]).headD .none = .bytes #[c] u from rfl, KBy.buffer_eq, pure_bind]
    dsimp only
    rw [pure_bind, show payload (.bytes b t) = pure b from rfl, pure_bind]
    have hw : window b.size none none = (0, (b.size : Int)) := by simp [window]; omega
    rw [hw]
    dsimp only
    rfl
  refine wpAny_bind (wpAny_of_eq e ?_)
  dsimp only
  by_cases hz : (b.size : Int) - 0 < 1
  · rw [if_pos hz]
    have h0 : b = #[] := Array.eq_empty_of_size_eq_zero (by omega)
    subst h0
    exact wpAny_bind (wpAny_mkInt (wpAny_pure h))
  · rw [if_neg hz]
    dsimp only
    rw [if_neg (by simp)]
    rw [occ_count]
    exact wpAny_bind (wpAny_mkInt (wpAny_pure h))
theorem gives_bcount {prog : Program} {w : World} {A : Around} {E : Value → Shared → Prop} {s : Shared} {Q : Value → Shared → Prop} (b : Array UInt8) (c : UInt8) (t u : Tok) (h : ∀ t' k, Q (.int ((bl b).count c.toNat : Nat) t') { s with toks := k }) :
    wpAny (model prog w) A (call (.builtin "bytes.count") [.bytes b t, .bytes #[c] u]) Q E s :=
  wpAny_call_entry slot_bcount (typeIs_bytes _ _ _) entry_bcount (countM_is b c t u ⟨_, rfl, h _ _⟩) (args_bcount _ _)
theorem plain_pat : PlainAttrs "re.Pattern" := by
  first
    | exact ⟨⟨"object.__getattribute__", by rw [typeLookup_type, builtinLookup_eq_fast]; kernel_rfl, by decide +kernel⟩, by rw [typeLookup_type, builtinLookup_eq_fast]; kernel_rfl⟩
    | exact ⟨⟨"re.Pattern.__getattribute__", by rw [typeLookup_type, builtinLookup_eq_fast]; kernel_rfl, by decide +kernel⟩, by rw [typeLookup_type, builtinLookup_eq_fast]; kernel_rfl⟩
section
variable {prog : Program} {w : World} {A : Around} {E : Value → Shared → Prop} {s : Shared} {h₀ : Heap} {L : Addr} {m : Str → Option Value} {pl : Sem Bool} {Q : Value × List Value → Shared → Prop}
theorem sub_method {ps} (x : (hd.heap_39 ps).In h₀) (F : Fr h₀ L s.heap m) (h : Q (.builtin "re.Pattern.sub", [.ref 36]) s) : wpAny (model prog w) A (getMethod (.ref 36) (Str.ofString "sub") pl) Q E s :=
  getMethod_builtin ⟨_, F.keep _ _ (x 36 _ rfl), rfl⟩ plain_pat slot_sub type_sub (fun a e => by cases e; exact ⟨_, F.keep _ _ (x 36 _ rfl), rfl⟩) h
theorem count_method (b : Array UInt8) (t : Tok) (h : Q (.builtin "bytes.count", [.bytes b t]) s) : wpAny (model prog w) A (getMethod (.bytes b t) (Str.ofString "count") pl) Q E s :=
  getMethod_builtin (typeIs_bytes _ _ _) FB.plainAttrs_bytes slot_bcount type_bcount (fun _ e => nomatch e) h
end
end Mine
end

namespace Mine
theorem quietK6 : True := by
  w_top off
  trivial
end Mine

/- part K6 -/
section
open PySem PySem.W PyProof.Rows PySem.Builtin PySem.Builtin.Str
namespace Mine
open Plain
local macro_rules | `(tactic| walk_at "getMethod ref") => `(tactic| (k_here; (with_reducible show wpAny _ _ (getMethod (Value.ref 36) (PySem.Str.ofString "sub") _) _ _ _); k_dflt (refine' sub_method ?kX ?kF ?_; (case kF => k_asm); (case kX => k_asm))))
local macro_rules | `(tactic| walk_at "getMethod bytes") => `(tactic| (k_here; (with_reducible refine count_method _ _ ?_)))
local macro_rules | `(tactic| walk_at "call builtin:re.Pattern.sub") => `(tactic| (k_here; (try dsimp only); k_dflt (refine' sub_call ?kX ?kF ?kN _ _ _ ?kb ?_; (case kF => k_asm); (case kN => k_asm); (case kX => k_asm); (case kb => omega)); intro t9 h9 tk9 out9 ho9 F9 N9; (try dsimp only); (try k_fold)))
local macro_rules | `(tactic| walk_at "call builtin:bytes.count") => `(tactic| (k_here; (try dsimp only); (with_reducible refine gives_bcount _ _ _ _ ?_); intro t9 tk9; (try dsimp only); (try k_fold)))
theorem dep_end {x out : Array UInt8} {d : Int} (h : bl out = unqL (bl x)) : d + ((bl out).count (UInt8.toNat 40) : Nat) - ((bl out).count (UInt8.toNat 41) : Nat) = d + depthB x := by
  rw [h]
  show _ = d + netL (unqL (bl x))
  unfold netL
  show d + ((unqL (bl x)).count 40 : Nat) - ((unqL (bl x)).count 41 : Nat) = _
  omega
theorem dep_end0 {x out : Array UInt8} (h : bl out = unqL (bl x)) : 0 + ((bl out).count (UInt8.toNat 40) : Nat) - ((bl out).count (UInt8.toNat 41) : Nat) = depthB x := by
  rw [dep_end h]
  omega
set_option maxRecDepth 100000 in
set_option maxHeartbeats 8000000 in
theorem depth2C (w s₀ mg mb) (x : Array UInt8) (tk : Tok) (d : Int) (tk2 : Tok) (news) : ClaimL w s₀ mg mb 44 news [] (x.size ≤ 400) [.bytes x tk, .int d tk2] (fun t => .int (d + depthB x) t) := by
  delta ClaimL PG LS
  k_fill
  dsimp only [CbLists, CbRet]
  intros
  rename_i hret
  refine wpAny_call ?_
  k_dflt (refine' code_def ?k1 ?k2 ?k3 ?k4 ?k5 ?kA ?kF ?kK ?k6 ?k7 ?k8 ?k9 ?kB ?_ ?c2 ?c3 ?c4 ?c5; (case kA => exact rfl); (case kF => exact rfl); (case kK => assumption); (case k1 => k_asm); (case k2 => k_asm); (case k3 => k_asm); (case k4 => k_asm); (case k5 => k_asm); (case k6 => k_is); (case k7 => k_is); (case k8 => ktr_room); (case k9 => exact binds_K (by k_in) rfl (by k_is) rfl rfl rfl); (case c5 => decide); (case kB => exact locs rfl); (case c2 => exact rfl); (case c3 => exact rfl); (case c4 => exact rfl); k_whole; intro g' L' h' FG' F' N' B' X' T'; (try dsimp only); (try k_lift B'); (try k_fold))
  k_steps
  all_goals first
    | (refine cb_retI hret ?_ ?_ ?_)
  all_goals first
    | with_reducible exact dep_end (by assumption)
    | with_reducible exact dep_end0 (by assumption)
    | k_asm
set_option maxRecDepth 100000 in
set_option maxHeartbeats 8000000 in
theorem depthC (w s₀ mg mb) (x : Array UInt8) (tk : Tok) (news) : ClaimL w s₀ mg mb 44 news [] (x.size ≤ 400) [.bytes x tk] (fun t => .int (depthB x) t) := by
  delta ClaimL PG LS
  k_fill
  dsimp only [CbLists, CbRet]
  intros
  rename_i hret
  refine wpAny_call ?_
  k_dflt (refine' code_def ?k1 ?k2 ?k3 ?k4 ?k5 ?kA ?kF ?kK ?k6 ?k7 ?k8 ?k9 ?kB ?_ ?c2 ?c3 ?c4 ?c5; (case kA => exact rfl); (case kF => exact rfl); (case kK => assumption); (case k1 => k_asm); (case k2 => k_asm); (case k3 => k_asm); (case k4 => k_asm); (case k5 => k_asm); (case k6 => k_is); (case k7 => k_is); (case k8 => ktr_room); (case k9 => exact binds_K (by k_in) rfl (by k_is) rfl rfl rfl); (case c5 => decide); (case kB => exact locs rfl); (case c2 => exact rfl); (case c3 => exact rfl); (case c4 => exact rfl); k_whole; intro g' L' h' FG' F' N' B' X' T'; (try dsimp only); (try k_lift B'); (try k_fold))
  k_steps
  all_goals first
    | (refine cb_retI hret ?_ ?_ ?_)
  all_goals first
    | with_reducible exact dep_end (by assumption)
    | with_reducible exact dep_end0 (by assumption)
    | k_asm
end Mine
end

/- part G2 -/
section
open PySem PySem.W PyProof.Rows PySem.Builtin PySem.Builtin.Str
namespace Mine
open Plain
def Sg (y : Str) : Prop := y.length = 1 ∧ Asc y
inductive Sgs : List Value → Prop
  | nil : Sgs []
  | cons {y : Str} {t : Tok} {l : List Value} : Sg y → Sgs l → Sgs (.str y t :: l)
theorem Sgs.at {l : List Value} (h : Sgs l) : ∀ {j : Nat}, j < l.length → ∃ y t, l[j]? = some (.str y t) ∧ Sg y := by
  induction h with
  | nil => intro j hj; cases hj
  | cons h1 _ ih =>
    intro j hj
    cases j with
    | zero => exact ⟨_, _, rfl, h1⟩
    | succ j => exact ih (by simpa using hj)
theorem sg_lit {y : Str} (c : Nat) (h : lst y = [c]) (hc : c < 128) (hn : c ≠ 10) : Sg y := by
  refine ⟨by rw [len_lst, h]; rfl, ?_⟩
  intro d hd
  rw [h] at hd
  cases List.mem_singleton.mp hd
  exact ⟨hc, hn⟩
theorem sg_quote : Sg (Str.ofString "\"") := sg_lit 34 (by decide +kernel) (by decide) (by decide)
theorem sg_open : Sg (Str.ofString "(") := sg_lit 40 (by decide +kernel) (by decide) (by decide)
theorem sg_shut : Sg (Str.ofString ")") := sg_lit 41 (by decide +kernel) (by decide) (by decide)
theorem sg_back : Sg (Str.ofString "\\") := sg_lit 92 (by decide +kernel) (by decide) (by decide)
theorem sg_a : Sg (Str.ofString "a") := sg_lit 97 (by decide +kernel) (by decide) (by decide)
theorem sg_blank : Sg (Str.ofString " ") := sg_lit 32 (by decide +kernel) (by decide) (by decide)
theorem sg_item (i : Int) : Sg (Txt.item (Str.ofString ".:") i) := by
  have h : lst (Str.ofString ".:") = [46, 58] := by decide +kernel
  have key : (Txt.charAt (Str.ofString ".:") i).getD 0 = 46 ∨ (Txt.charAt (Str.ofString ".:") i).getD 0 = 58 ∨ (Txt.charAt (Str.ofString ".:") i).getD 0 = 0 := by
    unfold Txt.charAt
    cases seqIndex? i (Str.ofString ".:").length with
    | none => exact .inr (.inr rfl)
    | some j =>
      simp only [Option.bind_some]
      rw [← Array.getElem?_toList]
      show ((lst (Str.ofString ".:"))[j]?).getD 0 = 46 ∨ ((lst (Str.ofString ".:"))[j]?).getD 0 = 58 ∨ ((lst (Str.ofString ".:"))[j]?).getD 0 = 0
      rw [h]
      match j with
      | 0 => exact .inl rfl
      | 1 => exact .inr (.inl rfl)
      | j + 2 => exact .inr (.inr rfl)
  refine sg_lit ((Txt.charAt (Str.ofString ".:") i).getD 0) rfl ?_ ?_
  · rcases key with e | e | e <;> rw [e] <;> decide
  · rcases key with e | e | e <;> rw [e] <;> decide
section
variable {prog : Program} {w : World} {A : Around} {E : Value → Shared → Prop} {s : Shared} {h₀ : Heap} {L : Addr} {news : List (Addr × Obj)} {value slice : PySem.Expr} {D : Addr} {vs : List Value} {n : Nat} {k : Int} {u : Tok} {Q : Value → Shared → Prop}
theorem item_sign (N : News h₀ L s.heap news) (hm : (D, listOf vs.toArray n) ∈ news) (hi : Sgs vs) (h0 : 0 ≤ k) (h1 : k < vs.length) (hfit : k < 2 ^ 63) (h : ∀ y t, Sg y → y.length = 1 → Q (.str y t) s)
    (hs : subscripted slice false (.ref D) (.int k u) = operate [.ref D, .int k u] (getItem (.ref D) (.int k u))) (hg : ∀ r, letTemporaryGo value (.ref D) r = pure ()) :
    wpAny (model prog w) A (subscriptTail value slice (.ref D) (.int k u)) Q E s := by
  obtain ⟨y, t, hx, hy⟩ := hi.at (j := k.toNat) (by omega)
  exact item_listL (PySem.IsL.isList (n := n) (N _ hm).1) h0 hfit hx (h y t hy hy.1) hs hg
end
theorem tx_start : (Str.ofString "").length ≤ ([] : List Int).length ∧ Asc (Str.ofString "") := by
  refine ⟨by decide +kernel, ?_⟩
  intro c hc
  rw [lst_nil] at hc
  cases hc
theorem asc_app {x y : Str} (A : Asc x) (B : Asc y) : Asc (x ++ y) := by
  intro c hc
  rw [lst_append] at hc
  rcases List.mem_append.mp hc with m | m
  · exact A c m
  · exact B c m
theorem tx_turn {text y : Str} {pre : List Int} {k : Int} (h : text.length ≤ pre.length) (A : Asc text) (S : Sg y) : (text ++ y).length ≤ (pre ++ [k]).length ∧ Asc (text ++ y) := by
  refine ⟨?_, asc_app A S.2⟩
  have := S.1
  rw [len_lst, lst_append, List.length_append, ← len_lst, ← len_lst]
  simp
  omega
theorem asc_tail : Asc (Str.ofString "(\"\"a\")") := by
  have h : lst (Str.ofString "(\"\"a\")") = [40, 34, 34, 97, 34, 41] := by decide +kernel
  intro c hc
  rw [h] at hc
  simp at hc
  omega
theorem len_tail : (Str.ofString "(\"\"a\")").length = 6 := by decide +kernel
theorem tx_len {text : Str} {ns : List Int} (h : text.length ≤ (ns.take 6).length) : (text ++ Str.ofString "(\"\"a\")").length ≤ 12 := by
  have h2 := len_tail
  rw [List.length_take] at h
  rw [len_lst, lst_append, List.length_append, ← len_lst, ← len_lst, h2]
  omega
theorem tx_good {text : Str} {ns : List Int} (h : text.length ≤ (ns.take 6).length) (A : Asc text) : Good (text ++ Str.ofString "(\"\"a\")") := ⟨tx_len h, asc_app A asc_tail⟩
end Mine
end

namespace Mine
theorem quietK8 : True := by
  w_top off
  trivial
end Mine

/- part K8 -/
section
open PySem PySem.W PyProof.Rows PySem.Builtin PySem.Builtin.Str
namespace Mine
open Plain
local macro_rules | `(tactic| walk_at "subscriptTail") => `(tactic| (k_here; (with_reducible show wpAny _ _ (subscriptTail _ _ (Value.ref _) (Value.int (Int.fmod _ 8) _)) _ _ _); k_dflt (refine' item_sign ?kN ?km ?ki ?k0 ?k1 ?kf ?_ ?ks ?kg; (case kN => k_asm); (case km => k_mem); (case ki => with_reducible exact .cons sg_quote (.cons sg_quote (.cons sg_open (.cons sg_shut (.cons sg_back (.cons sg_a (.cons sg_blank (.cons (sg_item _) .nil)))))))); (case k0 => exact fmod_lo _ (by decide)); (case k1 => exact fmod_hi _ (by decide)); (case kf => exact Int.lt_trans (fmod_hi _ (by decide)) (by decide)); (case ks => with_unfolding_all rfl); (case kg => kmk_pure); k_whole); intro y9 t9 hy9 hl9; (try dsimp only)))
set_option maxRecDepth 100000 in
set_option maxHeartbeats 8000000 in
theorem textC (w s₀ mg mb) (l : Addr) (vs : List Value) (ns : List Int) (news) : ClaimT w s₀ mg mb 90 news [(l, vs, ns)] (ns.length ≤ 16777216) [.ref l] := by
  k_with "pyIter ref" => k_state (fun pre text => text.length ≤ pre.length ∧ Asc text) "text"
  k_with "state" => first
    | with_reducible exact tx_start
    | with_reducible exact tx_turn (by assumption) (by assumption) (by assumption)
  delta ClaimT PG LS
  k_fill
  dsimp only [CbLists, CbRet]
  intros
  rename_i hret
  refine wpAny_call ?_
  k_dflt cell_enter
  k_steps
  all_goals first
    | (with_reducible refine hret _ _ _ _ ?_ ?_ ?_ ?_)
  all_goals first
    | with_reducible exact tx_len (by assumption)
    | with_reducible exact tx_good (by assumption) (by assumption)
    | assumption
    | k_asm
    | (refine' cb_drop ?cbN ?cbS; (case cbN => assumption); (case cbS => first | kcj_all | exact fun _ hp => List.mem_cons_of_mem _ hp))
end Mine
end

/- part X1 -/
section
open PySem PySem.W PyProof.Rows PySem.Spec PySem.Calls PySem.Builtin PySem.Builtin.Str PySem.Builtin.BaseException
set_option maxRecDepth 100000
namespace Mine
theorem sub_err (w : World) : peek (hd.heap_39 w.params) ⟨PG, w.params⟩ (isSubtype (.ref 74) (.type "BaseException")) = some true := by kernel_rfl
theorem str_err (w : World) : peek (hd.heap_39 w.params) ⟨PG, w.params⟩ (typeLookup (.ref 74) "__str__") = some (some (.builtin "BaseException.__str__")) := by kernel_rfl
theorem ty_bexc_str : typeOf (.builtin "BaseException.__str__") = pure (.type "wrapper_descriptor") := by kernel_rfl
section
variable {w : World} {A : Around} {E : Value → Shared → Prop} {s : Shared} {e t : Addr} {oe : Obj} {ws : Array Value} {m : Str} {tk : Tok}
theorem bexc_check {Q : Unit → Shared → Prop} (X : (hd.heap_39 w.params).In s.heap) (ho : s.heap.get? e = some oe) (hc : oe.cls = .ref 74) (hq : Q () s) :
    wpAny (model PG w) A (checkBuiltinCall "BaseException.__str__" ⟨[.ref e], []⟩) Q E s := by
  have hk : builtinKind "BaseException.__str__" = some .slot := by decide +kernel
  have hsplit : splitId "BaseException.__str__" = some ("BaseException", "__str__") := by decide +kernel
  have ha := F.args_bexc_str (.ref e)
  simp only [checkBuiltinCall, hk, hsplit]
  refine wpAny_bind ?_
  · unfold isInstance
    refine wpAny_bind (wpAny_bind (wpAny_bind (wpAny_loadPart ho (wpAny_pure ?_))))
    rw [hc]
    refine wpAny_pure ?_
    refine (Looks.of_peek X (sub_err w)).here ?_
    repeat (first | wp_step)
    exact hq
theorem bexc_field {Q : Value × List Value → Shared → Prop} (ho : s.heap.get? e = some oe) (hd : oe.data = .fields ws) (h0 : ws[0]? = some (.ref t)) (ht : s.heap.TupAt t [.str m tk])
    (hq : Q (.ref t, [.str m tk]) s) : wpAny (model PG w) A (bexcArgs (.ref e)) Q E s := by
  obtain ⟨ot, k, hto, _, htd⟩ := ht
  unfold bexcArgs
  refine wpAny_bind (wpAny_field ho hd h0 (wpAny_bind (wpAny_seqItems hto htd ?_)))
  exact wpAny_pure hq
theorem bexc_entry {Q : Fin → Shared → Prop} (ho : s.heap.get? e = some oe) (hd : oe.data = .fields ws) (h0 : ws[0]? = some (.ref t)) (ht : s.heap.TupAt t [.str m tk])
    (hq : Q (.done (.ret (.str m tk))) s) : wpAny (model PG w) A (Builtin.«BaseException.__str__» ⟨[.ref e], []⟩) Q E s := by
  unfold Builtin.«BaseException.__str__»
  repeat (first | with_reducible refine bexc_field ho hd h0 ht ?_ | wp_step)
  exact hq
theorem bexc_strOf {Q : Value → Shared → Prop} (hu : A.units < cLine) (X : (hd.heap_39 w.params).In s.heap) (ho : s.heap.get? e = some oe) (hc : oe.cls = .ref 74) (hd : oe.data = .fields ws) (h0 : ws[0]? = some (.ref t)) (ht : s.heap.TupAt t [.str m tk])
    (hq : Q (.str m tk) s) : wpAny (model PG w) A (strOf (.ref e)) Q E s := by
  unfold PySem.Builtin.Str.strOf
  rw [show isExactStr (.ref e) = false from rfl]
  refine wpAny_bind (m := cRoomFor _ _) (wpAny_cRoomFor hu ?_)
  refine wpAny_bind (m := callSpecial? (.ref e) (Str.ofString "__str__")) ?_
  refine wpAny_bind ?_
  refine wpAny_bind (wpAny_bind (wpAny_loadPart ho (wpAny_pure ?_)))
  rw [hc]
  refine (Looks.of_peek X (str_err w)).here ?_
  dsimp only
  refine wpAny_holding (wpAny_bind ?_)
  unfold bindSpecial
  refine wpAny_bind (wpAny_of_eq ty_bexc_str ?_)
  rw [if_pos (by rfl)]
  refine wpAny_pure ?_
  refine wpAny_bind (wpAny_call (codeAny_call_builtin (by decide +kernel) F.entry_bexc_str (bexc_check (A := A.in1) X ho hc (bexc_entry ho hd h0 ht ?_))))
  dsimp only
  refine wpAny_pure ?_
  dsimp only
  refine wpAny_bind (wpAny_pure ?_)
  exact wpAny_pure hq
theorem str_exc {Q : Value → Shared → Prop} (hu : A.in1.in1.units < cLine) (X : (hd.heap_39 w.params).In s.heap) (ho : s.heap.get? e = some oe) (hc : oe.cls = .ref 74) (hd : oe.data = .fields ws) (h0 : ws[0]? = some (.ref t)) (ht : s.heap.TupAt t [.str m tk])
    (hq : Q (.str m tk) s) : wpAny (model PG w) A (call (.type "str") [.ref e]) Q E s := by
  refine callType_codes (T := "str") (Bi := Builtin.«object.__init__») (Q₁ := fun r s₁ => ∃ y u, r = .str y u ∧ Q r s₁) PySem.F.called_str (PySem.F.typeCall_str_1 _) PySem.F.entry_object_init ?_ ?_
  · refine codeAny_of_tree ?_
    show wpAny _ A.in1.in1 (do checkBuiltinCall "str.__new__" ⟨[.type "str", .ref e], []⟩; again (.builtin "str.__new__" ⟨[.type "str", .ref e], []⟩)) _ _ s
    refine wpAny_bind (wpAny_of_eq (PySem.F.newCall_str_1 _) (wpAny_pure ⟨plainId_quiet (by decide +kernel) _, codeAny_builtin PySem.F.entry_str_new ?_⟩))
    rw [Around.under_plainId (by decide +kernel) _]
    rw [str_new_tree]
    refine wpAny_bind (wpAny_pure ?_)
    refine wpAny_bind (wpAny_of_eq isSubtype_str_str ?_)
    exact wpAny_bind (bexc_strOf hu X ho hc hd h0 ht (wpAny_pure ⟨_, _, rfl, hq⟩))
  · rintro obj s₁ ⟨y, u, rfl, hq⟩
    exact ⟨typeIs_str _ _ _, PySem.F.args_object_init_2 _ _, object_init_meets PySem.F.called_str.init.lookup PySem.F.called_str.made (by decide) PG w A.in1 _ s₁ ⟨typeIs_str _ _ _, rfl, hq⟩⟩
theorem str_got {h₀ : Heap} {L : Addr} {mm : Str → Option Value} {news : List (Addr × Obj)} {Q : Value → Shared → Prop} (hu : A.in1.in1.units < cLine) (F : Fr h₀ L s.heap mm) (X : (hd.heap_39 w.params).In h₀) (N : News h₀ L s.heap news) (G : Got news e t (.ref 74) [.str m tk])
    (hq : Q (.str m tk) s) : wpAny (model PG w) A (call (.type "str") [.ref e]) Q E s := by
  obtain ⟨oe, ot, ws, nt, h1, h2, h3, h4, h5, h6, h7⟩ := G
  exact str_exc hu (X.keeps F.keep) (N.get h1) h3 h4 h5 ⟨ot, nt, N.get h2, h6, h7⟩ hq
end
end Mine
end

/- part C2 -/
section
open PySem PySem.W PyProof.Rows PySem.Spec PySem.Calls
namespace Mine
open Plain
section
variable {prog : Program} {w : World} {A : Around} {E : Value → Shared → Prop} {s : Shared} {env : Env} {h₀ : Heap} {x : Str} {body : List Stmt} {Q : Flow → Shared → Prop}
def TwoEnd (h₀ : Heap) (L : Addr) (s : Shared) (m : Str → Option Value) (news : List (Addr × Obj)) (s₂ : Shared) : Prop :=
  ∃ h' tk, s₂ = { s with heap := h', toks := tk } ∧ Fr h₀ L h' m ∧ News h₀ L h' news
theorem TwoEnd.intro {h₀ : Heap} {L : Addr} {s : Shared} {m : Str → Option Value} {news : List (Addr × Obj)} {h' : Heap} {tk : Nat} (F : Fr h₀ L h' m) (N : News h₀ L h' news) : TwoEnd h₀ L s m news { s with heap := h', toks := tk } := ⟨h', tk, rfl, F, N⟩
def TwoPost (h₀ : Heap) (L : Addr) (s : Shared) (m : Str → Option Value) (news : List (Addr × Obj)) (Q : Flow → Shared → Prop) (f : Flow) (s₂ : Shared) : Prop :=
  match f with
  | .ret v => Q (.ret v) s₂
  | .brk => Q .next s₂
  | _ => TwoEnd h₀ L s m news s₂
theorem iter_two {L : Addr} {ax : Addr} {lo : Obj} {v1 v2 : Value} {n : Nat} {m₀ : Str → Option Value} {news : List (Addr × Obj)}
    (hL : env.locals = L) (hh : A.handled = none) (F : Fr h₀ L s.heap m₀) (N : News h₀ L s.heap news) (hm : (ax, lo) ∈ news) (hc : lo.cls = .type "list") (hd : lo.data = .seq [v1, v2].toArray n)
    (t1 : ∀ (I : Addr) (it : Obj) h tk, (∀ p ∈ news, p.1 < I) → Fr h₀ L h (fun y => if y = x then some v1 else m₀ y) → News h₀ L h ((I, it) :: news) →
      wpAny (model prog w) A (execs body env) (TwoPost h₀ L s (fun y => if y = x then some v1 else m₀ y) ((I, it) :: news) Q) E { s with heap := h, toks := tk })
    (t2 : ∀ (I : Addr) (it : Obj) h tk, (∀ p ∈ news, p.1 < I) → Fr h₀ L h (fun y => if y = x then some v2 else m₀ y) → News h₀ L h ((I, it) :: news) →
      wpAny (model prog w) A (execs body env) (TwoPost h₀ L s (fun y => if y = x then some v2 else m₀ y) ((I, it) :: news) Q) E { s with heap := h, toks := tk })
    (done : ∀ h tk, Fr h₀ L h (fun y => if y = x then some v2 else m₀ y) → News h₀ L h news → Q .next { s with heap := h, toks := tk }) :
    wpAny (model prog w) A (pyIter (.ref ax)) (fun it s₂ => LoopAtV prog w A h₀ env x body Q E it s₂) E s := by
  subst hL
  refine iter_listUnr hh F N hm hc hd fun I hI => ?_
  have two : ∀ v, (fun y => if y = x then some v2 else if y = x then some v else m₀ y) = fun y => if y = x then some v2 else m₀ y := fun v => by
    funext y; by_cases h : y = x <;> simp [h]
  have key : ∀ {it : Obj} {h : Heap} {tk : Nat} {v : Value} {rest : (Str → Option Value) → List (Addr × Obj) → Prop}, rest (fun y => if y = x then some v else m₀ y) news → ∀ f s₂,
      TwoPost h₀ env.locals s (fun y => if y = x then some v else m₀ y) ((I, it) :: news) Q f s₂ → UnrPost h₀ env.locals { s with heap := h, toks := tk } I it rest Q f s₂ := by
    intro it h tk v rest hr f s₂ hp
    have fin : TwoEnd h₀ env.locals s (fun y => if y = x then some v else m₀ y) ((I, it) :: news) s₂ → UnrEnd h₀ env.locals { s with heap := h, toks := tk } I it rest s₂ := by
      rintro ⟨h', tk', rfl, F', N'⟩
      exact ⟨h', tk', _, news, rfl, F', N', fun p hp => Nat.ne_of_lt (hI p hp), hr⟩
    cases f with
    | ret v => exact hp
    | brk => exact hp
    | next => exact fin hp
    | cont => exact fin hp
  refine ListRest.succ fun it h tk hit F1 N1 => wpAny_mono (t1 I it h tk hI F1 N1) (key ⟨hm, ?_⟩) fun _ _ e => e
  refine ListRest.succ fun it h tk hit F1 N1 => ?_
  rw [two] at F1
  refine wpAny_mono (t2 I it h tk hI F1 N1) (fun f s₂ hp => ?_) fun _ _ e => e
  exact key ⟨hm, ListRest.zero fun h tk F' N' => done h tk F' N'⟩ f s₂ hp
end
section
variable {M : Model} {A : Around} {E : Value → Shared → Prop} {s : Shared} {t : Sem Value} {Q : Value → Shared → Prop}
/-- what a test that must come out False owes: that it does, and the rest -/
def Ask (P : Prop) : Prop := P
theorem Ask.intro {P : Prop} (h : P) : Ask P := h
def NoEnd (R : Shared → Prop) (b : Bool) (s' : Shared) : Prop := Ask (b = false) ∧ R s'
theorem NoEnd.intro {R : Shared → Prop} {b : Bool} {s' : Shared} (h1 : Ask (b = false)) (h2 : R s') : NoEnd R b s' := ⟨h1, h2⟩
theorem if_no {env : Env} {test : Expr} {body orelse : List Stmt} {pos : Pos} {Q : Flow → Shared → Prop}
    (h : wpAny M A (isTrue test env (eval test env)) (NoEnd fun s₂ => wpAny M A (execs orelse env) Q E s₂) E s) :
    wpAny M A (exec (.If test body orelse pos) env) Q E s :=
  wpAny_If (wpAny_mono h (fun b s₂ ⟨h1, h2⟩ => by have h1' : b = false := h1; subst h1'; simpa using h2) fun _ _ e => e)
/-- an int, and the state as it was but for the count of tokens -/
def IntEnd (s : Shared) (v : Value) (s' : Shared) : Prop := ∃ i k tk, v = .int i k ∧ s' = { s with toks := tk }
theorem IntEnd.intro {s : Shared} {i : Int} {k : Tok} {tk : Nat} : IntEnd s (.int i k) { s with toks := tk } := ⟨_, _, _, rfl, rfl⟩
theorem IntEnd.same {s : Shared} {i : Int} {k : Tok} : IntEnd s (.int i k) s := ⟨_, _, _, rfl, rfl⟩
theorem int_join (h1 : wpAny M A t (IntEnd s) E s) (h2 : ∀ i k tk, Q (.int i k) { s with toks := tk }) : wpAny M A t Q E s :=
  wpAny_mono h1 (fun v s' ⟨i, k, tk, hv, hs⟩ => by subst hv; subst hs; exact h2 i k tk) fun _ _ e => e
end
end Mine
end

namespace Mine
theorem quietW : True := by
  w_top off
  trivial
end Mine

/- the law -/
section
open PySem PySem.W PyProof.Rows
namespace Mine
open Plain

local macro_rules | `(tactic| walk_at "compareOp NotEq str str") => `(tactic| (k_here; first | refine ne250 ?_ | refine ne257 ?_))
local macro_rules | `(tactic| walk_at "compareOp Eq str str") => `(tactic| (k_here; refine eq_same ?_))
local macro_rules | `(tactic| walk_at "call type:str") => `(tactic| (k_here; (with_reducible show wpAny _ _ (call (Value.type "str") [Value.ref _]) _ _ _); k_dflt (refine' str_got ?u ?F ?X ?N ?G ?_; (case G => k_asm); (case N => k_asm); (case F => k_asm); (case X => k_asm); (case u => k_units))))
local macro_rules | `(tactic| walk_at "exec If") => `(tactic| (k_here; (with_reducible show wpAny _ _ (exec (Stmt.If _ [Stmt.Return (some (Expr.Constant (Const.bool false) _ _)) _] [] _) _) _ _ _); refine if_no ?_))
local macro_rules | `(tactic| walk_at "Ask") => `(tactic| (refine Ask.intro ?_; with_reducible first | exact ask1 (by assumption) (by assumption) (by assumption) (by assumption) | exact ask2 (by assumption) (by assumption) (by assumption) (by assumption) | exact ask3 (by assumption) _ | exact ask4 (by assumption) (by assumption) | exact ask6 (by assumption) _ | exact rfl))
local macro_rules | `(tactic| walk_at "NoEnd") => `(tactic| (refine NoEnd.intro (b := _) ?_ ?_))
local macro_rules | `(tactic| walk_at "call ref") => `(tactic| (k_here; (with_reducible show wpAny _ _ (call (Value.ref 90) [_]) _ _ _); (with_unfolding_all refine' textC _ _ _ _ _ _ _ _ _ _ _ _ _ _ _ _ _ _ _ _ _ _ _ _ _ ?k1 ?k2 ?k3 ?k4 ?k5 ?k6 ?k7 ?k8 ?k9 ?kp ?kd ?ku ?_); (case k2 => k_dflt k_asm); (case k1 => k_dflt k_asm); (case k3 => k_dflt k_asm); (case k4 => k_dflt k_asm); (case k5 => k_dflt k_asm); (case k6 => exact rfl); (case k7 => k_dflt k_asm); (case k8 => l_ints); (case k9 => l_fit); (case kp => (first | omega | ((have hb9 := len_ints_list (by lay_of)); omega))); (case kd => ktr_room); (case ku => ktr_units); intro x9 t9 h9 tk9 hL9 hG9 F9 N9; (try dsimp only); (try k_fold)))
local macro_rules | `(tactic| walk_at "call ref") => `(tactic| (k_here; (with_reducible show wpAny _ _ (call (Value.ref 51) [_]) _ _ _); (with_unfolding_all refine' stripC _ _ _ _ _ _ _ _ _ _ _ _ _ _ _ _ _ _ _ _ _ _ _ _ ?k1 ?k2 ?k3 ?k4 ?k5 ?k6 ?kp ?kd ?ku ?_); (case k2 => k_dflt k_asm); (case k1 => k_dflt k_asm); (case k3 => k_dflt k_asm); (case k4 => k_dflt k_asm); (case k5 => k_dflt k_asm); (case k6 => exact rfl); (case kp => ((have hc9 : (PySem.Str.ofString ":").length = 1 := by decide +kernel); (try dsimp only); omega)); (case kd => ktr_room); (case ku => ktr_units); intro t9 h9 tk9 F9 N9; (try dsimp only); (try k_fold)))
local macro_rules | `(tactic| walk_at "call ref") => `(tactic| (k_here; (with_reducible show wpAny _ _ (call (Value.ref 111) [_]) _ _ _); (with_unfolding_all refine' sentC _ _ _ _ _ _ _ _ _ _ _ _ _ _ _ _ _ _ _ _ _ _ _ _ ?k1 ?k2 ?k3 ?k4 ?k5 ?k6 ?kp ?kd ?ku ?_); (case k2 => k_dflt k_asm); (case k1 => k_dflt k_asm); (case k3 => k_dflt k_asm); (case k4 => k_dflt k_asm); (case k5 => k_dflt k_asm); (case k6 => exact rfl); (case kp => (refine And.intro (by omega) ?_; (with_unfolding_all assumption))); (case kd => ktr_room); (case ku => ktr_units); intro t9 h9 tk9 F9 N9 hS9; (try dsimp only); (try k_fold)))
local macro_rules | `(tactic| walk_at "call ref") => `(tactic| (k_here; (with_reducible show wpAny _ _ (call (Value.ref 44) [_]) _ _ _); (with_unfolding_all refine' depthC _ _ _ _ _ _ _ _ _ _ _ _ _ _ _ _ _ _ _ _ _ _ _ _ ?k1 ?k2 ?k3 ?k4 ?k5 ?k6 ?kp ?kd ?ku ?_); (case k2 => k_dflt k_asm); (case k1 => k_dflt k_asm); (case k3 => k_dflt k_asm); (case k4 => k_dflt k_asm); (case k5 => k_dflt k_asm); (case k6 => exact rfl); (case kp => ((try rw [Array.size_append]); (try simp only [List.size_toArray, List.length_cons, List.length_nil]); omega)); (case kd => ktr_room); (case ku => ktr_units); intro t9 h9 tk9 F9 N9; (try dsimp only); (try k_fold)))
local macro_rules | `(tactic| walk_at "call ref") => `(tactic| (k_here; (with_reducible show wpAny _ _ (call (Value.ref 44) [_, _]) _ _ _); (with_unfolding_all refine' depth2C _ _ _ _ _ _ _ _ _ _ _ _ _ _ _ _ _ _ _ _ _ _ _ _ _ _ ?k1 ?k2 ?k3 ?k4 ?k5 ?k6 ?kp ?kd ?ku ?_); (case k2 => k_dflt k_asm); (case k1 => k_dflt k_asm); (case k3 => k_dflt k_asm); (case k4 => k_dflt k_asm); (case k5 => k_dflt k_asm); (case k6 => exact rfl); (case kp => ((try rw [Array.size_append]); (try simp only [List.size_toArray, List.length_cons, List.length_nil]); omega)); (case kd => ktr_room); (case ku => ktr_units); intro t9 h9 tk9 F9 N9; (try dsimp only); (try k_fold)))
local macro_rules | `(tactic| walk_at "call ref") => `(tactic| (k_here; (with_reducible show wpAny _ _ (call (Value.ref 83) [_]) _ _ _); (with_unfolding_all refine' nameC _ _ _ _ _ _ _ _ _ _ _ _ _ _ _ _ _ _ _ _ _ _ _ _ ?k1 ?k2 ?k3 ?k4 ?k5 ?k6 ?kp ?kd ?ku ?_); (case k2 => k_dflt k_asm); (case k1 => k_dflt k_asm); (case k3 => k_dflt k_asm); (case k4 => k_dflt k_asm); (case k5 => k_dflt k_asm); (case k6 => exact rfl); (case kp => ((have hq9 := len_257); (have hq8 := len_257'); first | exact ⟨by omega, pre257 _⟩ | exact ⟨by omega, pre257' _⟩)); (case kd => ktr_room); (case ku => ktr_units); intro t9 h9 tk9 F9 N9; (try dsimp only); (try k_fold)))
local macro_rules | `(tactic| walk_at "call ref") => `(tactic| (k_here; (with_reducible show wpAny _ _ (call (Value.ref 104) [_]) _ _ _); (with_unfolding_all refine' byC _ _ _ _ _ _ _ _ _ _ _ _ _ _ _ _ _ _ _ _ _ _ _ _ ?k1 ?k2 ?k3 ?k4 ?k5 ?k6 ?kp ?kd ?ku ?_); (case k2 => k_dflt k_asm); (case k1 => k_dflt k_asm); (case k3 => k_dflt k_asm); (case k4 => k_dflt k_asm); (case k5 => k_dflt k_asm); (case k6 => exact rfl); (case kp => (refine And.intro ?_ ?_; (((have hc9 : (PySem.Str.ofString "\"").length = 1 := by decide +kernel); omega)); (with_reducible exact asc_quote (by assumption)))); (case kd => ktr_room); (case ku => ktr_units); intro t9 h9 tk9 F9 N9; (try dsimp only); (try k_fold)))
local macro_rules | `(tactic| walk_at "eval IfExp") => `(tactic| (k_here; (fail_if_success (with_reducible show wpAny _ _ _ (IntEnd _) _ _)); k_dflt (refine int_join ?_ (fun i9 k9 tk9 => ?_)); (all_goals (try dsimp only))))
local macro_rules | `(tactic| walk_at "IntEnd") => `(tactic| first | exact IntEnd.intro | exact IntEnd.same)
local macro_rules | `(tactic| walk_at "TwoPost") => `(tactic| (dsimp only [TwoPost]))
local macro_rules | `(tactic| walk_at "TwoEnd") => `(tactic| (k_dflt (refine TwoEnd.intro (by k_asm) (by k_asm))))
set_option maxRecDepth 100000 in
set_option maxHeartbeats 8000000 in
theorem law_holds : PySem.Challenge.rw_wr0005_01.Holds := by
  k_with "pyIter ref" => (k_of "place" => k_state_given ["text", "start"] (fun text start pre stretch name ended closed => stretch.length ≤ pre.length ∧ name.length ≤ pre.length ∧ Asc stretch ∧ St text pre.length stretch name ended closed) "stretch" "name" "ended" "closed")
  k_with "pyIter ref" => (k_of "message" => k_dflt ((rename Fr _ _ _ _ => lF'); (rename News _ _ _ _ => lN'); (with_unfolding_all refine' iter_two ?kL ?k1 lF' lN' (by k_mem) ?k3 ?k4 (fun I9 it9 h9 tk9 l9 F9 N9 => ?_) (fun I9 it9 h9 tk9 l9 F9 N9 => ?_) (fun h9 tk9 F9 N9 => ?_)); (case kL => exact rfl); (case k1 => rfl); (case k3 => rfl); (case k4 => rfl); clear lF' lN'; (all_goals ((try dsimp only at F9 N9 ⊢); (try k_fold)))))
  k_with "state" => first
    | with_reducible exact start_ok _
    | with_reducible exact end_closed (by assumption) (by assumption) (by assumption) (by assumption) (by assumption)
    | with_reducible exact end_colon (by assumption) (by assumption) (by assumption) (by assumption) (by assumption) (by assumption)
    | with_reducible exact end_dot (by assumption) (by assumption) (by assumption) (by assumption) (by assumption)
    | with_reducible exact end_v1 (by assumption) (by assumption) (by assumption) (by assumption) (by assumption) (by assumption) (by assumption) (by assumption) (by assumption) (by assumption) (by assumption)
    | with_reducible exact end_v2 (by assumption) (by assumption) (by assumption) (by assumption) (by assumption) (by assumption) (by assumption) (by assumption) (by assumption) (by assumption)
    | with_reducible exact end_v3 (by assumption) (by assumption) (by assumption) (by assumption) (by assumption) (by assumption) (by assumption) (by assumption) (by assumption) (by assumption) (by assumption) (by assumption)
    | with_reducible exact end_v5 (by assumption) (by assumption) (by assumption) (by assumption) (by assumption) (by assumption) (by assumption) (by assumption) (by assumption) (by assumption) (by assumption) (by assumption)
    | with_reducible exact end_v6 (by assumption) (by assumption) (by assumption) (by assumption) (by assumption) (by assumption) (by assumption) (by assumption) (by assumption) (by assumption) (by assumption) (by assumption)
    | fail "no end"
  
  refine hd ?_
  w_strict (k_go0; (all_goals try k_fold); k_steps)
end Mine
end

theorem PySem.Challenge.cw_wr0005_01_holds : PySem.Challenge.rw_wr0005_01.Holds := by
  exact Mine.law_holds
