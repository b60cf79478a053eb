/-
  THE WALK OF (*strings.stringFinder).next (77): sound for every finder, exact where its tables are safe.
-/
import Derived.Test.Qxb6614432aFindC
import Derived.Deep.QuietTactic
import Derived.BigQuiet
namespace Go.Proofs.Qxb6614432a
open Go.RowKit

def OccAt (p t : List UInt8) (k : Nat) : Prop := ∀ x, x < p.length → t[k + x]? = p[x]?
/-- no shift of the tables passes over a place where the word may lie -/
def Safe (p : List UInt8) (bad : Nat → Int) (good : List Int) : Prop :=
  ∀ j c d : Nat, j < p.length → c < 256 → c ≠ (p.getD j 0).toNat → 1 ≤ d → ((d : Int) < bad c - ((p.length : Int) - 1 - j) ∨ (d : Int) < good.getD j 0 - ((p.length : Int) - 1 - j)) →
    (d ≤ j ∧ (p.getD (j - d) 0).toNat ≠ c) ∨ ∃ y, j < y ∧ y < p.length ∧ d ≤ y ∧ p.getD (y - d) 0 ≠ p.getD y 0
def NextSays (p t : List UInt8) (bad : Nat → Int) (good : List Int) (r : Int) : Prop :=
  (r = -1 ∧ (Safe p bad good → ∀ k, ¬ OccAt p t k)) ∨ ∃ m : Nat, r = m ∧ OccAt p t m ∧ (Safe p bad good → ∀ k, k < m → ¬ OccAt p t k)

/-- nothing begins before the window whose last byte is at I -/
def Past (p t : List UInt8) (bad : Nat → Int) (good : List Int) (I : Nat) : Prop := Safe p bad good → ∀ k, k + (p.length - 1) < I → ¬ OccAt p t k
def Tail (p t : List UInt8) (I q : Nat) : Prop := ∀ x, x < q → t[I - x]? = p[p.length - 1 - x]?

theorem OccAt.fits {p t : List UInt8} {k : Nat} (h : OccAt p t k) (hp : 1 ≤ p.length) : k + (p.length - 1) < t.length := by
  have e := h (p.length - 1) (by omega)
  rw [List.getElem?_eq_getElem (show p.length - 1 < p.length by omega)] at e
  exact (List.getElem?_eq_some_iff.1 e).1

theorem Past.start {p t : List UInt8} {bad : Nat → Int} {good : List Int} : Past p t bad good (p.length - 1) := fun _ k hk _ => by omega
theorem Past.out {p t : List UInt8} {bad : Nat → Int} {good : List Int} {I : Nat} (h : Past p t bad good I) (hp : 1 ≤ p.length) (hI : t.length ≤ I) : NextSays p t bad good (-1) :=
  Or.inl ⟨rfl, fun hs k ho => h hs k (by have := ho.fits hp; omega) ho⟩
theorem Past.hit {p t : List UInt8} {bad : Nat → Int} {good : List Int} {I m : Nat} (h : Past p t bad good I) (hp : 1 ≤ p.length) (ht : Tail p t I p.length) (hm : m + (p.length - 1) = I) : NextSays p t bad good (m : Int) := by
  refine Or.inr ⟨m, rfl, fun x hx => ?_, fun hs k hk => h hs k (by omega)⟩
  have e := ht (p.length - 1 - x) (by omega)
  have e1 : I - (p.length - 1 - x) = m + x := by omega
  have e2 : p.length - 1 - (p.length - 1 - x) = x := by omega
  rwa [e1, e2] at e

theorem getD_of {l : List UInt8} {i : Nat} (h : i < l.length) : l[i]? = some (l.getD i 0) := by
  rw [List.getD_eq_getElem?_getD, List.getElem?_eq_getElem h]; rfl

theorem Past.shift {p t : List UInt8} {bad : Nat → Int} {good : List Int} {I I' q j c : Nat} (h : Past p t bad good I) (hI : p.length - 1 ≤ I) (hq : q < p.length) (hj : j + q + 1 = p.length) (ht : Tail p t I q)
    (hc : (t[I - q]?).map UInt8.toNat = some c) (hc256 : c < 256) (hne : c ≠ (p.getD j 0).toNat)
    (hs' : (I' : Int) ≤ (I : Int) - q + bad c ∨ (I' : Int) ≤ (I : Int) - q + good.getD j 0) : Past p t bad good I' := by
  intro hs k hk ho
  by_cases h1 : k + (p.length - 1) < I
  · exact h hs k h1 ho
  by_cases h2 : k + (p.length - 1) = I
  · have e := ho j (by omega)
    have ej : k + j = I - q := by omega
    rw [ej, getD_of (show j < p.length by omega)] at e
    rw [e] at hc
    exact hne (Option.some.inj hc).symm
  · obtain ⟨d, hd⟩ : ∃ d, k + (p.length - 1) = I + d := ⟨k + (p.length - 1) - I, by omega⟩
    have hd1 : 1 ≤ d := by omega
    rcases hs j c d (by omega) hc256 hne hd1 (hs'.imp (fun a => by omega) (fun a => by omega)) with ⟨a, b⟩ | ⟨y, y1, y2, y3, y4⟩
    · have e := ho (j - d) (by omega)
      have ej : k + (j - d) = I - q := by omega
      rw [ej, getD_of (show j - d < p.length by omega)] at e
      rw [e] at hc
      exact b (Option.some.inj hc)
    · have e := ho (y - d) (by omega)
      have e2 := ht (p.length - 1 - y) (by omega)
      have ej : k + (y - d) = I - (p.length - 1 - y) := by omega
      have ey : p.length - 1 - (p.length - 1 - y) = y := by omega
      rw [ej, e2, ey, getD_of y2, getD_of (show y - d < p.length by omega)] at e
      exact y4 (Option.some.inj e).symm

theorem Tail.succ {p t : List UInt8} {I q : Nat} (h : Tail p t I q) (e : t[I - q]? = p[p.length - 1 - q]?) : Tail p t I (q + 1) := by
  intro x hx
  by_cases hxq : x = q
  · subst hxq; exact e
  · exact h x (by omega)

theorem below_drewN {B : Nat} {a w : World} (h : Below B a w) (n : Nat) : Below B a (w.drewN n) := ⟨h.os, h.tape, h.output, h.size, h.block⟩
theorem u8_eq' {a b : UInt8} (h : ((a.toNat : Int) == (b.toNat : Int)) = true) : a = b := UInt8.toNat_inj.1 (by have h' := eq_of_beq h; omega)
theorem u8_ne' {a b : UInt8} (h : ¬ ((a.toNat : Int) == (b.toNat : Int)) = true) : a.toNat ≠ b.toNat := fun e => h (by rw [e]; simp)
theorem byte_at {s : ByteArray} {i : Nat} (h : i < s.size) : s.data.toList[i]? = some s[i] := by
  have hl : s.data.toList.length = s.size := (Lib.size_eq s).symm
  rw [List.getElem?_eq_getElem (by omega)]
  rfl

set_option maxRecDepth 100000 in
set_option maxHeartbeats 4000000 in
theorem next_any (p t : ByteArray) (w : World) (f g : Nat) (bad : Nat → Int) (good : List Int) (hp2 : 2 ≤ p.size) (hp : p.size ≤ 4096) (ht : t.size ≤ 1048576)
    (hf : Finder w f g p bad good) (hbad : ∀ c, 0 ≤ bad c ∧ bad c ≤ p.size) (hgood : ∀ (j : Nat) (x : Int), good[j]? = some x → (p.size : Int) - j ≤ x ∧ x ≤ 2 * p.size) :
    Calls Try.prog 77 #[.pointer (some ⟨f, 0, none⟩), .string t] w fun e w' => ∃ r : Int, e = .returned (.int .i64 r) ∧ NextSays p.data.toList t.data.toList bad good r ∧ Below w.heap.size w w' := by
  have HL : Hid (p.data.toList.length = p.size) := (Lib.size_eq p).symm
  have HT : Hid (t.data.toList.length = t.size) := (Lib.size_eq t).symm
  have HF : Hid (Finder w f g p bad good) := hf
  have HBad : Hid (∀ c, 0 ≤ bad c ∧ bad c ≤ p.size) := hbad
  have HGood : Hid (∀ (j : Nat) (x : Int), good[j]? = some x → (p.size : Int) - j ≤ x ∧ x ≤ 2 * p.size) := hgood
  have hpat := HF.out.pat
  clear hf hbad hgood
  go_enter Try.func77, Try.ntmps77
  go_wp2
  go_loopw [5] (fun i wr => ∃ I : Nat, i = .int .i64 I ∧ p.size - 1 ≤ I ∧ I ≤ t.size + 2 * p.size ∧ Past p.data.toList t.data.toList bad good I ∧ Below w.heap.size w wr) (fun i _ => t.size - (intOf i).toNat)
  case atStart => exact ⟨p.size - 1, by go_num, Nat.le_refl _, by omega, by rw [← HL.out]; exact Past.start, Below.refl _ _⟩
  case round =>
    obtain ⟨I, rfl, hI1, hI2, hpa, hbel⟩ := hrel
    have HP : Hid (Past p.data.toList t.data.toList bad good I) := hpa
    have HB : Hid (Below w.heap.size w wr) := hbel
    have HFr : Hid (Finder wr f g p bad good) := HF.out.below hbel
    have hpatr := HFr.out.pat
    clear hpa hbel
    by_cases hIt : I < t.size
    · go_wp2
      go_loopw [5, 6] (fun i j wx => ∃ q : Nat, q ≤ p.size ∧ i = .int .i64 ((I : Int) - q) ∧ j = .int .i64 ((p.size : Int) - 1 - q) ∧ Tail p.data.toList t.data.toList I q ∧ Below w.heap.size w wx) (fun _ j _ => (intOf j + 1).toNat)
      case atStart => exact ⟨0, Nat.zero_le _, by go_num, by go_num, fun x hx => by omega, HB.out⟩
      case round =>
        clear hpatr HFr HB
        obtain ⟨q, hq, rfl, rfl, hta, hbel⟩ := hrel
        have HTa : Hid (Tail p.data.toList t.data.toList I q) := hta
        have HB : Hid (Below w.heap.size w wr) := hbel
        have HFr : Hid (Finder wr f g p bad good) := HF.out.below hbel
        have hpatr := HFr.out.pat
        clear hta hbel
        by_cases hqp : q < p.size
        · obtain ⟨i, hi⟩ : ∃ i : Nat, i + q = I := ⟨I - q, by omega⟩
          obtain ⟨j, hj⟩ : ∃ j : Nat, j + q + 1 = p.size := ⟨p.size - 1 - q, by omega⟩
          have ei : (I : Int) - (q : Int) = (i : Int) := by omega
          have ej : (p.size : Int) - 1 - (q : Int) = (j : Int) := by omega
          have hit : i < t.size := by omega
          have hjp : j < p.size := by omega
          have HI : Hid (i + q = I) := hi
          have HJ : Hid (j + q + 1 = p.size) := hj
          clear hi hj
          by_cases hne : ((t[i].toNat : Int) == (p[j].toNat : Int)) = true
          · have HT1 : Hid (Tail p.data.toList t.data.toList I (q + 1)) := HTa.out.succ (by
              have e1 : I - q = i := by have := HI.out; omega
              have e2 : p.data.toList.length - 1 - q = j := by rw [HL.out]; have := HJ.out; omega
              rw [e1, e2, byte_at hit, byte_at hjp, u8_eq' hne])
            clear HTa
            have hdj : decide ((0 : Int) ≤ (j : Int)) = true := by simp
            go_wp2
            go_quiet (fail)
            go_wp2
            go_roundw
            case rel => exact ⟨q + 1, by omega, by go_num, by go_num, HT1.out, below_drewN HB.out _⟩
            case measure => simp [intOf]; omega
          · have hne' : ((t[i].toNat : Int) == (p[j].toNat : Int)) = false := by simpa using hne
            obtain ⟨x, hx⟩ : ∃ x, good[j]? = some x := ⟨_, List.getElem?_eq_getElem (by rw [HFr.out.len]; exact hjp)⟩
            obtain ⟨y, hy⟩ : ∃ y, bad t[i].toNat = y := ⟨_, rfl⟩
            have hxb := HGood.out j x hx
            have hyb := HBad.out t[i].toNat
            rw [hy] at hyb
            obtain ⟨hx1, hx2⟩ := hxb
            obtain ⟨hy1, hy2⟩ := hyb
            have hgc := HFr.out.goodCell hx
            have hbc := HFr.out.badCell t[i].toNat_lt
            rw [hy] at hbc
            have hsl := HFr.out.slCell
            have HPS : Hid (∀ I' : Nat, ((I' : Int) ≤ (i : Int) + y ∨ (I' : Int) ≤ (i : Int) + x) → Past p.data.toList t.data.toList bad good I') := fun I' hI' => by
              have e1 : I - q = i := by have := HI.out; omega
              refine HP.out.shift (c := t[i].toNat) (j := j) (q := q) (by rw [HL.out]; exact hI1) (by rw [HL.out]; exact hqp) (by rw [HL.out]; exact HJ.out) HTa.out (by rw [e1, byte_at hit]; rfl) t[i].toNat_lt ?_ ?_
              · rw [getD_byte hjp]; exact u8_ne' hne
              · rw [hy, List.getD_eq_getElem?_getD, hx]
                show (I' : Int) ≤ _ ∨ (I' : Int) ≤ (I : Int) - q + x
                have := HI.out
                omega
            clear hx hy hne HTa
            have hdj : decide ((0 : Int) ≤ (j : Int)) = true := by simp
            go_wp2
            go_quiet (fail)
            go_wp2
            have h256 : t[i].toNat < 256 := t[i].toNat_lt
            have HE : Hid (∃ I' : Nat, (i : Int) + max y x = (I' : Int) ∧ I < I' ∧ I' ≤ t.size + 2 * p.size ∧ Past p.data.toList t.data.toList bad good I') := by
              have h1 := HI.out
              have h2 := HJ.out
              have h3 : y ≤ max y x := Int.le_max_left _ _
              have h4 : x ≤ max y x := Int.le_max_right _ _
              have h5 : max y x ≤ y ∨ max y x ≤ x := by omega
              refine ⟨((i : Int) + max y x).toNat, by omega, by omega, by omega, HPS.out _ ?_⟩
              exact h5.imp (fun a => by omega) (fun a => by omega)
            go_region
            all_goals
              go_wp2
              go_roundw
              case rel =>
                obtain ⟨I', h1, h2, h3, h4⟩ := HE.out
                exact ⟨I', by rw [h1], by omega, h3, h4, by first | exact below_drewN HB.out _ | exact (below_drewN HB.out _).drew⟩
              case measure =>
                obtain ⟨I', h1, h2, h3, h4⟩ := HE.out
                simp [intOf]; omega
        · have hqe : q = p.size := by omega
          obtain ⟨m, hm⟩ : ∃ m : Nat, m + (p.size - 1) = I := ⟨I - (p.size - 1), by omega⟩
          have HR : Hid (NextSays p.data.toList t.data.toList bad good (m : Int)) := HP.out.hit (by rw [HL.out]; omega) (by rw [HL.out, ← hqe]; exact HTa.out) (by rw [HL.out]; exact hm)
          have em : (I : Int) - (q : Int) + 1 = (m : Int) := by omega
          clear HTa hm
          have hdj : decide ((q : Int) ≤ (p.size : Int) - 1) = false := decide_eq_false (by omega)
          clear hqe
          go_wp2
          go_quiet (fail)
          go_wp2
          go_ret
          exact ⟨_, rfl, by first | exact HR.out | (rw [em]; exact HR.out), below_drewN HB.out _⟩
    · have HR : Hid (NextSays p.data.toList t.data.toList bad good (-1)) := HP.out.out (by rw [HL.out]; omega) (by rw [HT.out]; omega)
      go_wp2
      go_ret
      exact ⟨_, rfl, HR.out, HB.out⟩

end Go.Proofs.Qxb6614432a
