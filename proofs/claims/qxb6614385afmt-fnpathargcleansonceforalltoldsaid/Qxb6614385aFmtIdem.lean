/-
  PLAIN LAW: the clean form of a clean path is that path. Over lists of bytes alone.
-/
import Derived.Lib.CleanSame
namespace Go.Proofs.Qxb6614385aFmt.Plain
open Go.Lib.Pa

theorem els_no47 : ∀ (l : List UInt8) (e : List UInt8), e ∈ els l → 47 ∉ e
  | [], e, h => by simp [els] at h; subst h; simp
  | c :: t, e, h => by
    have ih := els_no47 t
    by_cases hc : c = 47
    · rw [els, if_pos hc] at h
      rcases List.mem_cons.1 h with h | h
      · subst h; simp
      · exact ih e h
    · rw [els, if_neg hc] at h
      cases ht : els t with
      | nil => rw [ht] at h; simp at h; subst h; intro hm; simp at hm; exact hc hm.symm
      | cons x r =>
        rw [ht] at h ih
        rcases List.mem_cons.1 h with h | h
        · subst h
          intro hm
          rcases List.mem_cons.1 hm with hm | hm
          · exact hc hm.symm
          · exact ih x (List.mem_cons_self ..) hm
        · exact ih e (List.mem_cons_of_mem _ h)

/-- Each component would be pushed anew onto those below it. -/
def Normal (ro : Bool) : List (List UInt8) → Prop
  | [] => True
  | x :: r => 47 ∉ x ∧ cleanStep ro r x = x :: r ∧ Normal ro r

theorem cons_ne {α : Type} (x : α) (r : List α) : r ≠ x :: r := by
  intro h
  have := congrArg List.length h
  simp at this

theorem Normal.ne {ro : Bool} {x : List UInt8} {r : List (List UInt8)} (h : Normal ro (x :: r)) : x ≠ [] := by
  intro e
  have := h.2.1
  rw [e, step_nil] at this
  exact cons_ne _ _ this

theorem Normal.step {ro : Bool} {st : List (List UInt8)} {e : List UInt8} (h : Normal ro st) (he : 47 ∉ e) : Normal ro (cleanStep ro st e) := by
  by_cases h1 : e = [] ∨ e = [46]
  · have : cleanStep ro st e = st := by unfold cleanStep; rw [if_pos h1]
    rw [this]; exact h
  · by_cases h2 : e = [46, 46]
    · subst h2
      cases st with
      | nil =>
        cases ro with
        | true => exact True.intro
        | false => exact ⟨he, rfl, True.intro⟩
      | cons x r =>
        by_cases hx : x = [46, 46]
        · subst hx
          exact ⟨he, rfl, h⟩
        · have : cleanStep ro (x :: r) [46, 46] = r := by simp [cleanStep, hx]
          rw [this]; exact h.2.2
    · have : cleanStep ro st e = e :: st := by unfold cleanStep; rw [if_neg h1, if_neg h2]
      rw [this]
      exact ⟨he, this, h⟩

theorem Normal.foldl {ro : Bool} : ∀ (es : List (List UInt8)) {st : List (List UInt8)}, Normal ro st → (∀ e, e ∈ es → 47 ∉ e) → Normal ro (es.foldl (cleanStep ro) st)
  | [], _, h, _ => h
  | e :: es, _, h, hn => Normal.foldl es (h.step (hn e (List.mem_cons_self ..))) (fun x hx => hn x (List.mem_cons_of_mem _ hx))

theorem Normal.again {ro : Bool} : ∀ {st : List (List UInt8)}, Normal ro st → st.reverse.foldl (cleanStep ro) [] = st
  | [], _ => rfl
  | x :: r, h => by
    rw [List.reverse_cons, List.foldl_append, Normal.again h.2.2]
    exact h.2.1

theorem Normal.mem {ro : Bool} : ∀ {st : List (List UInt8)}, Normal ro st → ∀ e, e ∈ st → 47 ∉ e ∧ e ≠ []
  | [], _, e, he => by cases he
  | x :: r, h, e, he => by
    rcases List.mem_cons.1 he with rfl | he
    · exact ⟨h.1, h.ne⟩
    · exact Normal.mem h.2.2 e he

theorem els_one (e : List UInt8) (h : 47 ∉ e) : els e = [e] := by
  have := els_elem e [] h (Or.inl rfl)
  rwa [List.append_nil] at this

theorem els_inter : ∀ (E : List (List UInt8)), E ≠ [] → (∀ e, e ∈ E → 47 ∉ e) → els (([47] : List UInt8).intercalate E) = E
  | [], h, _ => absurd rfl h
  | [e], _, hn => by
    have : ([47] : List UInt8).intercalate [e] = e := by simp [List.intercalate]
    rw [this]; exact els_one e (hn e (List.mem_cons_self ..))
  | e :: f :: E, _, hn => by
    have hi : ([47] : List UInt8).intercalate (e :: f :: E) = e ++ 47 :: ([47] : List UInt8).intercalate (f :: E) := by simp [List.intercalate]
    have ih := els_inter (f :: E) (by simp) (fun x hx => hn x (List.mem_cons_of_mem _ hx))
    rw [hi, els_elem e _ (hn e (List.mem_cons_self ..)) (Or.inr rfl)]
    show e :: els (([47] : List UInt8).intercalate (f :: E)) = _
    rw [ih]

theorem inter_nil_iff {E : List (List UInt8)} (hn : ∀ e, e ∈ E → e ≠ []) : ([47] : List UInt8).intercalate E = [] ↔ E = [] := by
  cases E with
  | nil => simp [List.intercalate]
  | cons e E =>
    have he := hn e (List.mem_cons_self ..)
    constructor
    · intro h
      cases E with
      | nil => simp [List.intercalate] at h; exact absurd h he
      | cons f E => simp [List.intercalate] at h
    · intro h; cases h

theorem inter_head {e : List UInt8} {E : List (List UInt8)} (he : e ≠ []) : (([47] : List UInt8).intercalate (e :: E)).head? = e.head? := by
  cases e with
  | nil => exact absurd rfl he
  | cons c e => cases E <;> simp [List.intercalate]

theorem cleanEls_ne (l : List UInt8) : cleanEls l ≠ [] := by
  by_cases hl : l = []
  · subst hl; decide
  · cases hr : (l.head? == some 47) with
    | true => rw [cleanEls_abs l hl hr]; simp
    | false =>
      rw [cleanEls_rel l hl hr]
      split
      · simp
      · assumption

theorem cleanEls_idem (l : List UInt8) : cleanEls (cleanEls l) = cleanEls l := by
  by_cases hl : l = []
  · subst hl; decide
  cases hr : (l.head? == some 47) with
  | true =>
    have hN : Normal true ((els l).foldl (cleanStep true) []) := Normal.foldl _ True.intro (els_no47 l)
    have e1 := cleanEls_abs l hl hr
    generalize (els l).foldl (cleanStep true) [] = st at hN e1
    rw [e1, cleanEls_abs _ (by simp) (by simp)]
    have hmem := hN.mem
    congr 2
    congr 1
    rw [els_slash, List.foldl_cons, step_nil]
    by_cases hs : st = []
    · subst hs; rfl
    · rw [els_inter st.reverse (by simpa using hs) (fun e he => (hmem e (List.mem_reverse.1 he)).1)]
      exact hN.again
  | false =>
    have hN : Normal false ((els l).foldl (cleanStep false) []) := Normal.foldl _ True.intro (els_no47 l)
    have e1 := cleanEls_rel l hl hr
    generalize (els l).foldl (cleanStep false) [] = st at hN e1
    have hmem := hN.mem
    have hne : ∀ e, e ∈ st.reverse → e ≠ [] := fun e he => (hmem e (List.mem_reverse.1 he)).2
    by_cases hs : st = []
    · subst hs
      rw [e1]
      decide
    · have hs' : st.reverse ≠ [] := by simpa using hs
      have hi : ([47] : List UInt8).intercalate st.reverse ≠ [] := fun h => hs' ((inter_nil_iff hne).1 h)
      rw [if_neg hi] at e1
      rw [e1]
      have hh : ((([47] : List UInt8).intercalate st.reverse).head? == some 47) = false := by
        cases hE : st.reverse with
        | nil => exact absurd hE hs'
        | cons e E =>
          have hem : e ∈ st := List.mem_reverse.1 (by rw [hE]; exact List.mem_cons_self ..)
          rw [inter_head (hmem e hem).2]
          have h47 := (hmem e hem).1
          cases e with
          | nil => rfl
          | cons c e =>
            simp only [List.head?_cons]
            rw [beq_eq_false_iff_ne]
            intro h
            exact h47 (by rw [Option.some.inj h]; exact List.mem_cons_self ..)
      rw [cleanEls_rel _ hi hh, els_inter _ hs' (fun e he => (hmem e (List.mem_reverse.1 he)).1), hN.again, if_neg hi]

end Go.Proofs.Qxb6614385aFmt.Plain
