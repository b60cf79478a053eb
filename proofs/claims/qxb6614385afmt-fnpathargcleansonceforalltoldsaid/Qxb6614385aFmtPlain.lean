/-
  PLAIN FACTS: which string the members give under the name path; the clean form of a clean path. No program in sight.
-/
import Derived.Lib.CleanSame
import Derived.Lib.CleanLen
namespace Go.Proofs.Qxb6614385aFmt.Plain

/-- Is the string the word path? (As the walk spells the test.) -/
def isPath (s : ByteArray) : Bool := s.toList == [112, 97, 116, 104]

/-- The last value under the word path among the pairs. -/
def lastPath : List ByteArray → List ByteArray → Option ByteArray
  | s :: sk, v :: sv => match lastPath sk sv with
    | some r => some r
    | none => if isPath s then some v else none
  | _, _ => none

/-- What the members say of path: no boolean under it, and the last string under it. -/
def model (bk sk sv : List ByteArray) : Option ByteArray := if bk.any isPath then none else lastPath sk sv

theorem lastPath_nil (sv : List ByteArray) : lastPath [] sv = none := by cases sv <;> rfl

theorem lastPath_cons (s v : ByteArray) (sk sv : List ByteArray) : lastPath (s :: sk) (v :: sv) = match lastPath sk sv with
    | some r => some r
    | none => if isPath s then some v else none := rfl

theorem lastPath_snoc : ∀ (sk sv : List ByteArray) (s v : ByteArray), sk.length = sv.length → lastPath (sk ++ [s]) (sv ++ [v]) = if isPath s then some v else lastPath sk sv
  | [], [], s, v, _ => by
    show lastPath [s] [v] = _
    rw [lastPath_cons, lastPath_nil]
  | [], _ :: _, _, _, h => by simp at h
  | _ :: _, [], _, _, h => by simp at h
  | a :: sk, b :: sv, s, v, h => by
    show lastPath (a :: (sk ++ [s])) (b :: (sv ++ [v])) = _
    rw [lastPath_cons, lastPath_snoc sk sv s v (by simpa using h)]
    by_cases hs : isPath s = true
    · simp [hs]
    · simp only [hs, if_false, Bool.false_eq_true]
      rw [lastPath_cons]

theorem take_step {sk : List ByteArray} {k : Nat} {s : ByteArray} (h : sk[k]? = some s) : sk.take (k + 1) = sk.take k ++ [s] := by
  rw [List.take_add_one, h]; rfl

theorem lastPath_take {sk sv : List ByteArray} {k : Nat} {s v : ByteArray} (hl : sk.length = sv.length) (hs : sk[k]? = some s) (hv : sv[k]? = some v) :
    lastPath (sk.take (k + 1)) (sv.take (k + 1)) = if isPath s then some v else lastPath (sk.take k) (sv.take k) := by
  rw [take_step hs, take_step hv]
  exact lastPath_snoc _ _ _ _ (by simp [hl])

theorem lastPath_append : ∀ (sk sv sk' sv' : List ByteArray) (r : ByteArray), sk.length = sv.length → lastPath sk' sv' = some r → lastPath (sk ++ sk') (sv ++ sv') = some r
  | [], [], _, _, _, _, h => h
  | [], _ :: _, _, _, _, h, _ => by simp at h
  | _ :: _, [], _, _, _, h, _ => by simp at h
  | a :: sk, b :: sv, sk', sv', r, h, hr => by
    show lastPath (a :: (sk ++ sk')) (b :: (sv ++ sv')) = _
    rw [lastPath_cons, lastPath_append sk sv sk' sv' r (by simpa using h) hr]

/-- A hit at place k, none behind it: that is the last. -/
theorem lastPath_hit {sk sv : List ByteArray} {k : Nat} {s v : ByteArray} (hl : sk.length = sv.length) (hs : sk[k]? = some s) (hv : sv[k]? = some v) (hp : isPath s = true)
    (hn : lastPath (sk.drop (k + 1)) (sv.drop (k + 1)) = none) : lastPath sk sv = some v := by
  have hk : k < sk.length := (List.getElem?_eq_some_iff.1 hs).1
  have hk' : k < sv.length := (List.getElem?_eq_some_iff.1 hv).1
  have e1 : sk = sk.take k ++ (s :: sk.drop (k + 1)) := by
    have := List.getElem?_eq_some_iff.1 hs
    rw [← this.2, ← List.drop_eq_getElem_cons hk, List.take_append_drop]
  have e2 : sv = sv.take k ++ (v :: sv.drop (k + 1)) := by
    have := List.getElem?_eq_some_iff.1 hv
    rw [← this.2, ← List.drop_eq_getElem_cons hk', List.take_append_drop]
  rw [e1, e2]
  refine lastPath_append _ _ _ _ _ (by simp [hl]) ?_
  rw [lastPath_cons, hn, if_pos hp]

/-- No hit at place k, none behind it. -/
theorem lastPath_miss {sk sv : List ByteArray} {k : Nat} {s : ByteArray} (hl : sk.length = sv.length) (hs : sk[k]? = some s) (hp : isPath s = false)
    (hn : lastPath (sk.drop (k + 1)) (sv.drop (k + 1)) = none) : lastPath (sk.drop k) (sv.drop k) = none := by
  have hk : k < sk.length := (List.getElem?_eq_some_iff.1 hs).1
  have hk' : k < sv.length := by omega
  have e := List.getElem?_eq_some_iff.1 hs
  rw [List.drop_eq_getElem_cons hk, List.drop_eq_getElem_cons hk', lastPath_cons, hn, e.2]
  simp [hp]

theorem any_take_succ {bk : List ByteArray} {k : Nat} {s : ByteArray} (h : bk[k]? = some s) : (bk.take (k + 1)).any isPath = ((bk.take k).any isPath || isPath s) := by
  rw [take_step h]; simp

/-! ### the stack of components -/
open Go.Lib.Pa

/-- What is left to do at place k with the stack st (the last first) comes to the whole. -/
def Remains (ro : Bool) (l : List UInt8) (k : Nat) (st : List (List UInt8)) : Prop :=
  (els l).foldl (cleanStep ro) [] = if k ≤ l.length then (els (l.drop k)).foldl (cleanStep ro) st else st

theorem Remains.start (ro : Bool) (l : List UInt8) : Remains ro l 0 [] := by simp [Remains]

theorem Remains.done {ro : Bool} {l : List UInt8} {k : Nat} {st : List (List UInt8)} (h : Remains ro l k st) (hk : l.length ≤ k) : (els l).foldl (cleanStep ro) [] = st := by
  unfold Remains at h
  rw [h]
  split
  · have : l.drop k = [] := List.drop_eq_nil_iff.2 hk
    rw [this]
    show cleanStep ro st [] = st
    exact step_nil ro st
  · rfl

theorem Remains.step {ro : Bool} {l : List UInt8} {k m : Nat} {st : List (List UInt8)} (h : Remains ro l k st) (hk : k < l.length)
    (ha : ∀ i, i < m → ∃ x, l[k + i]? = some x ∧ x ≠ 47) (hs : k + m = l.length ∨ l[k + m]? = some 47) :
    Remains ro l (k + m + 1) (cleanStep ro st ((l.drop k).take m)) := by
  unfold Remains at h ⊢
  rw [if_pos (Nat.le_of_lt hk)] at h
  have hcut : l.drop k = (l.drop k).take m ++ l.drop (k + m) := by
    rw [← List.drop_drop, List.take_append_drop]
  have h47 : 47 ∉ (l.drop k).take m := by
    intro hm
    obtain ⟨i, hi⟩ := List.getElem?_of_mem hm
    rw [List.getElem?_take] at hi
    split at hi
    · rename_i him
      rw [List.getElem?_drop] at hi
      obtain ⟨x, hx, hne⟩ := ha i him
      rw [hx] at hi; cases hi; exact hne rfl
    · cases hi
  have hrest : l.drop (k + m) = [] ∨ (l.drop (k + m)).head? = some 47 := rest_of l (k + m) hs
  have he : els (l.drop k) = (l.drop k).take m :: tailEls (l.drop (k + m)) := by
    have := els_elem ((l.drop k).take m) (l.drop (k + m)) h47 hrest
    rwa [← hcut] at this
  rw [h, he, List.foldl_cons]
  rcases hs with hs | hs
  · rw [if_neg (by omega)]
    have : l.drop (k + m) = [] := List.drop_eq_nil_iff.2 (by omega)
    rw [this]; rfl
  · have hlt : k + m < l.length := (List.getElem?_eq_some_iff.1 hs).1
    rw [if_pos (by omega), List.drop_eq_getElem_cons hlt]
    rfl

/-- No .. on the stack of a rooted path. -/
def Clear (ro : Bool) (st : List (List UInt8)) : Prop := ro = true → [46, 46] ∉ st
theorem Clear.nil (ro : Bool) : Clear ro [] := by intro _; simp
theorem Clear.tail {ro : Bool} {x : List UInt8} {st : List (List UInt8)} (h : Clear ro (x :: st)) : Clear ro st := fun hr hm => h hr (List.mem_cons_of_mem _ hm)
theorem Clear.cons {ro : Bool} {x : List UInt8} {st : List (List UInt8)} (h : Clear ro st) (hx : x ≠ [46, 46]) : Clear ro (x :: st) := by
  intro hr hm
  rcases List.mem_cons.1 hm with e | hm
  · exact hx e.symm
  · exact h hr hm
theorem Clear.no {st : List (List UInt8)} : Clear false st := by intro h; cases h

theorem step_up_pop {ro : Bool} {x : List UInt8} {r : List (List UInt8)} (hx : x ≠ [46, 46]) : cleanStep ro (x :: r) [46, 46] = r := by
  simp [cleanStep, hx]
theorem step_up_push {st : List (List UInt8)} (h : ∀ x r, st = x :: r → x = [46, 46]) : cleanStep false st [46, 46] = [46, 46] :: st := by
  cases st with
  | nil => simp [cleanStep]
  | cons x r => have := h x r rfl; subst this; simp [cleanStep]
theorem step_up_stay {st : List (List UInt8)} (h : ∀ x r, st = x :: r → x = [46, 46]) (hc : Clear true st) : st = [] ∧ cleanStep true st [46, 46] = st := by
  cases st with
  | nil => simp [cleanStep]
  | cons x r => have := h x r rfl; subst this; exact absurd (List.mem_cons_self ..) (hc rfl)

end Go.Proofs.Qxb6614385aFmt.Plain
