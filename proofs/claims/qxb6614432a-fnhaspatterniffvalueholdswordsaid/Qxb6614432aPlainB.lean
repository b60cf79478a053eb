/-
  THE PLAIN LAW, on: what replacing the word by nothing, and by x, does to a text.
-/
import Derived.Test.Qxb6614432aPlain
namespace Go.Proofs.Qxb6614432a

theorem word_safe : Safe word.data.toList (badOf word) (goodOf word) := by
  refine safe_of (fun c => ?_) (fun j => ?_) word_check
  · exact (badOf_bound word c).2
  · rcases h : (goodOf word)[j]? with _ | x
    · rw [List.getD_eq_getElem?_getD, h]; decide
    · rw [List.getD_eq_getElem?_getD, h]
      exact (goodOf_bound word (by decide) j x h).2

def NoOcc (p t : List UInt8) : Prop := ∀ k, ¬ OccAt p t k

theorem OccAt.drop {p t : List UInt8} {i m : Nat} (h : OccAt p (t.drop i) m) : OccAt p t (i + m) := by
  intro x hx
  have := h x hx
  rw [List.getElem?_drop] at this
  rw [Nat.add_assoc]; exact this

theorem Chop.shrinks {p s : List UInt8} {safe : Prop} (hp : 1 ≤ p.length) {i : Nat} {l : List UInt8} (h : Chop p [] s safe i l) : (i = 0 ∧ l = []) ∨ (l.length < i ∧ ∃ k, OccAt p s k) := by
  cases h with
  | start => exact Or.inl ⟨rfl, rfl⟩
  | step h1 h2 h3 =>
    refine Or.inr ⟨?_, _, h2.drop⟩
    have := h1.le (Nat.zero_le _)
    rw [List.append_nil, List.length_append, List.length_take]
    omega

theorem erase_iff {p s o : List UInt8} {safe : Prop} (hs : safe) (hp : 1 ≤ p.length) (h : RepSays p [] s safe o) : o = s ↔ NoOcc p s := by
  obtain ⟨i, l, h1, h2, rfl, h4⟩ := h
  rcases h1.shrinks hp with ⟨rfl, rfl⟩ | ⟨h5, k, h6⟩
  · exact ⟨fun _ => h4 hs, fun _ => rfl⟩
  · constructor
    · intro e
      have := congrArg List.length e
      rw [List.length_append, List.length_drop] at this
      omega
    · intro hn
      exact absurd h6 (hn k)

theorem NoOcc.append {p a b : List UInt8} {x : UInt8} (hx : x ∉ p) (ha : NoOcc p a) (hb : NoOcc p b) (hl : a = [] ∨ a.getLast? = some x) : NoOcc p (a ++ b) := by
  intro k hk
  by_cases h1 : a.length ≤ k
  · refine hb (k - a.length) (fun y hy => ?_)
    have := hk y hy
    rw [List.getElem?_append_right (by omega)] at this
    rw [← this]; congr 1; omega
  · by_cases h2 : k + p.length ≤ a.length
    · refine ha k (fun y hy => ?_)
      have := hk y hy
      rw [List.getElem?_append_left (by omega)] at this
      exact this
    · rcases hl with rfl | hl
      · simp at h1
      · have h3 := hk (a.length - 1 - k) (by omega)
        have e : k + (a.length - 1 - k) = a.length - 1 := by omega
        rw [e, List.getElem?_append_left (by omega), ← List.getLast?_eq_getElem?, hl] at h3
        exact hx (List.mem_of_getElem? h3.symm)

theorem Chop.clean {p s : List UInt8} {x : UInt8} {safe : Prop} (hs : safe) (hp : 2 ≤ p.length) (hx : x ∉ p) {i : Nat} {l : List UInt8} (h : Chop p [x] s safe i l) : NoOcc p l ∧ (l = [] ∨ l.getLast? = some x) := by
  induction h with
  | start =>
    refine ⟨fun k hk => ?_, Or.inl rfl⟩
    have := hk.fits (by omega)
    simp at this
  | @step i m l h1 h2 h3 ih =>
    have hone : NoOcc p [x] := fun k hk => by
      have := hk.fits (by omega)
      simp at this
      omega
    have htake : NoOcc p ((s.drop i).take m) := fun k hk => by
      have h4 := hk.fits (by omega)
      rw [List.length_take] at h4
      refine h3 hs k (by omega) (fun y hy => ?_)
      have := hk y hy
      rw [List.getElem?_take, if_pos (by omega)] at this
      exact this
    refine ⟨?_, Or.inr (by simp)⟩
    rw [List.append_assoc]
    refine NoOcc.append hx ih.1 ?_ ih.2
    intro k hk
    by_cases h5 : k + p.length ≤ ((s.drop i).take m).length
    · refine htake k (fun y hy => ?_)
      have := hk y hy
      rw [List.getElem?_append_left (by omega)] at this
      exact this
    · have h6 := hk.fits (by omega)
      rw [List.length_append] at h6
      simp only [List.length_singleton] at h6
      have h7 := hk (p.length - 1) (by omega)
      rw [List.getElem?_append_right (by omega)] at h7
      have e : k + (p.length - 1) - ((s.drop i).take m).length = 0 := by omega
      rw [e] at h7
      exact hx (List.mem_of_getElem? h7.symm)

theorem swap_clean {p s o : List UInt8} {x : UInt8} {safe : Prop} (hs : safe) (hp : 2 ≤ p.length) (hx : x ∉ p) (h : RepSays p [x] s safe o) : NoOcc p o := by
  obtain ⟨i, l, h1, h2, rfl, h4⟩ := h
  obtain ⟨h5, h6⟩ := h1.clean hs hp hx
  exact NoOcc.append hx h5 (h4 hs) h6

/-! ### the settings -/
theorem ba_ext {a b : ByteArray} (h : a.data.toList = b.data.toList) : a = b := by
  cases a; cases b
  exact congrArg _ (Array.toList_inj.1 h)
theorem bapp (a b : ByteArray) : (a ++ b).data.toList = a.data.toList ++ b.data.toList := by
  rw [ByteArray.data_append, Array.toList_append]
theorem ba_split (s : ByteArray) (q : Nat) : s.extract 0 (q + 1) ++ s.extract (q + 1) s.size = s := by
  have hl : s.data.toList.length = s.size := (Lib.size_eq s).symm
  apply ba_ext
  rw [bapp, extract_tail hl, Lib.extract_data, List.drop_zero, Nat.sub_zero, List.take_append_drop]
theorem ba_append_left {a b c : ByteArray} (h : a ++ b = a ++ c) : b = c := by
  apply ba_ext
  have := congrArg (fun x : ByteArray => x.data.toList) h
  simp only [bapp] at this
  exact List.append_cancel_left this

/-- the value of a setting holds the word -/
def Holds (s : ByteArray) : Prop := ∃ q : Nat, Lib.indexByte s.data.toList 61 = q ∧ ∃ k, OccAt word.data.toList (s.extract (q + 1) s.size).data.toList k
def ArgHolds (s : ByteArray) : Prop := ∃ k, OccAt word.data.toList s.data.toList k

theorem says_erase {s o : ByteArray} (h : Says word ⟨#[]⟩ s o) : o = s ↔ ¬ ArgHolds s := by
  have h1 := erase_iff word_safe (by decide) h
  constructor
  · rintro rfl ⟨k, hk⟩
    exact h1.1 rfl k hk
  · intro hn
    exact ba_ext (h1.2 (fun k hk => hn ⟨k, hk⟩))
theorem env_erase {s t : ByteArray} (h : OneEnv (Says word ⟨#[]⟩) s t) : t = s ↔ ¬ Holds s := by
  rcases h with ⟨h1, rfl⟩ | ⟨q, h1, h2, o, h3, rfl⟩
  · refine ⟨fun _ => ?_, fun _ => rfl⟩
    rintro ⟨q, h2, _⟩
    omega
  · have h4 := says_erase h3
    constructor
    · rintro e ⟨q', h5, k, h6⟩
      have : q' = q := by omega
      subst this
      refine h4.1 ?_ ⟨k, h6⟩
      refine ba_append_left (a := s.extract 0 (q' + 1)) ?_
      rw [ba_split s _]; exact e
    · intro hn
      have h5 : o = s.extract (q + 1) s.size := h4.2 (fun ⟨k, hk⟩ => hn ⟨q, h1, k, hk⟩)
      rw [h5, ba_split s _]

def ex : ByteArray := ⟨#[120]⟩
theorem says_swap {s o : ByteArray} (h : Says word ex s o) : ¬ ArgHolds o := by
  rintro ⟨k, hk⟩
  exact swap_clean (x := 120) word_safe (by decide) (by decide) h k hk
theorem env_swap {s t : ByteArray} (h : OneEnv (Says word ex) s t) : ¬ Holds t := by
  rcases h with ⟨h1, rfl⟩ | ⟨q, h1, h2, o, h3, rfl⟩
  · rintro ⟨q, h2, _⟩
    omega
  · have hl : s.data.toList.length = s.size := (Lib.size_eq s).symm
    obtain ⟨h4, h5⟩ := Lib.indexByte_some (o := q) h1
    have e1 : (s.extract 0 (q + 1)).data.toList = s.data.toList.take (q + 1) := by rw [Lib.extract_data, List.drop_zero, Nat.sub_zero]
    have e2 : (s.extract 0 (q + 1) ++ o).data.toList = s.data.toList.take (q + 1) ++ o.data.toList := by rw [bapp, e1]
    have hlt : (s.data.toList.take (q + 1)).length = q + 1 := by rw [List.length_take]; omega
    have h6 : Lib.indexByte (s.extract 0 (q + 1) ++ o).data.toList 61 = (q : Int) := by
      rw [e2]
      refine indexByte_at (fun j hj => ?_) ?_
      · rw [List.getElem?_append_left (by omega), List.getElem?_take, if_pos (by omega)]; exact h5 j hj
      · rw [List.getElem?_append_left (by omega), List.getElem?_take, if_pos (by omega)]; exact h4
    rintro ⟨q', h7, k, hk⟩
    have : q' = q := by omega
    subst this
    have hlo : (s.extract 0 (q' + 1) ++ o).data.toList.length = (s.extract 0 (q' + 1) ++ o).size := (Lib.size_eq _).symm
    rw [extract_tail hlo, e2, List.drop_append_of_le_length (by omega), List.drop_of_length_le (by omega), List.nil_append] at hk
    exact says_swap h3 ⟨k, hk⟩

end Go.Proofs.Qxb6614432a
