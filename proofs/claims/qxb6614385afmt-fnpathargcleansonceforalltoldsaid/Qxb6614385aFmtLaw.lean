/-
  THE WALK OF THE LAW (5).
-/
import Derived.Test.Qxb6614385aFmtWalkA
import Derived.Test.Qxb6614385aFmtWalkB
import Derived.Test.Qxb6614385aFmtWalkC
import Derived.Test.Qxb6614385aFmtWalkE
import Derived.Test.Qxb6614385aFmtIdem
import Derived.Deep.DeepCutAuto
import Derived.Laws.CopyOwn
namespace Go.Proofs.Qxb6614385aFmt
open Go.RowKit Go.Maps Go.Extern.Stop Go.Stop Go.Extern

theorem Tryf.info4 : (Tryf.prog.info? 4).map (fun i => (i.zero, i.size, i.bytes)) = some (some (.bool false), 1, 1) := by kernel_rfl
theorem Tryf.size9 : (Tryf.prog.info? 9).map (·.size) = some 1 := by kernel_rfl
theorem Tryf.size4 : (Tryf.prog.info? 4).map (·.size) = some 1 := by kernel_rfl

theorem own_block {w2 : World} {B n : Nat} {e : TypeId} {xs : List Value} (h : w2.ownsRow B e 1 (.slice (some ⟨B, 0, none⟩) n n) n xs) : ∃ cur : List Value, cur.length = n ∧ w2.heap[B]? = some (.cells cur.toArray e (0, 0)) := by
  obtain ⟨_, h2⟩ := h
  rcases h2 with ⟨h0, _⟩ | ⟨g, cap, cur, hv, _, hh, _, _, hs, _⟩
  · cases h0
  · cases hv
    exact ⟨cur.toList, by simpa using hs, by simpa using hh⟩

theorem SliceAt.src {w : World} {a : Option Addr} {n : Nat} {cs : List Value} (h : SliceAt w a n cs) : 0 < cs.length → ∃ ad, a = some ad ∧ ∀ j v, cs[j]? = some v → w.cell? (ad.add j) = some v := by
  intro hp
  obtain ⟨b, off, rfl, _, hc⟩ := h.2 (by have := h.1; omega)
  refine ⟨_, rfl, fun j v hj => ?_⟩
  have hl : j < n := by have := (List.getElem?_eq_some_iff.1 hj).1; have := h.1; omega
  have := hc j hl
  rw [hj] at this
  rw [Addr.add_lit]; exact this

theorem SliceAt.copied {w3 : World} {B n : Nat} {e : TypeId} {cur cs : List Value} (hcs : cs.length = n) (hcur : cur.length = n) (h : w3.heap[B]? = some (.cells (splice cur 0 cs).toArray e (0, 0))) : SliceAt w3 (some ⟨B, 0, none⟩) n cs := by
  refine ⟨hcs, fun _ => ⟨B, 0, rfl, (Array.getElem?_eq_some_iff.1 h).1, fun i hi => ?_⟩⟩
  have e1 : splice cur 0 cs = cs := by
    unfold splice
    rw [List.take_zero, List.nil_append, Nat.zero_add, List.drop_of_length_le (by omega), List.append_nil]
  rw [e1] at h
  simp [World.cell?, h]

theorem strVals_oneCell (xs : List ByteArray) : ∀ v ∈ strVals xs, v.oneCell' = true := by
  intro v hv
  simp only [strVals, List.mem_map] at hv
  obtain ⟨s, _, rfl⟩ := hv
  rfl
theorem boolVals_oneCell (xs : List Bool) : ∀ v ∈ boolVals xs, v.oneCell' = true := by
  intro v hv
  simp only [boolVals, List.mem_map] at hv
  obtain ⟨s, _, rfl⟩ := hv
  rfl

theorem answer_none {bk sk sv : List ByteArray} (h : Plain.model bk sk sv = none) : answer (under bk sk sv) = none := by
  unfold Plain.model at h
  unfold under
  split at h
  · rename_i hb
    rw [if_pos hb]; rfl
  · rename_i hb
    rw [if_neg hb, h]; rfl
theorem under_some {bk sk sv : List ByteArray} {p : ByteArray} (h : Plain.model bk sk sv = some p) : under bk sk sv = some (some p) := by
  unfold Plain.model at h
  unfold under
  split at h
  · cases h
  · rename_i hb
    rw [if_neg hb, h]; rfl
theorem answer_some {p : ByteArray} (h : p.size ≠ 0) : answer (some (some p)) = some (Lib.Pa.cleanEls p.data.toList) := if_neg h
theorem answer_empty {p : ByteArray} (h : p.size = 0) : answer (some (some p)) = none := if_pos h

/-- What the second call comes to: the answer handed back gives itself. -/
theorem under_one (r : ByteArray) : under [] [⟨#[112, 97, 116, 104]⟩] [r] = some (some r) := by
  have h : Plain.isPath ⟨#[112, 97, 116, 104]⟩ = true := by
    unfold Plain.isPath
    rw [Lib.toList_data]; rfl
  simp [under, Plain.lastPath, h]
theorem answer_again (l : List UInt8) : answer (some (some ⟨(Lib.Pa.cleanEls l).toArray⟩)) = some (Lib.Pa.cleanEls l) := by
  have h0 : (⟨(Lib.Pa.cleanEls l).toArray⟩ : ByteArray).size ≠ 0 := by
    rw [Lib.size_eq]
    intro h
    exact Plain.cleanEls_ne l (List.eq_nil_of_length_eq_zero h)
  rw [answer_some h0]
  exact congrArg some (Plain.cleanEls_idem l)
theorem clean_size {p : ByteArray} (h : p.size ≠ 0) (hp : p.size ≤ 1048576) : (⟨(Lib.Pa.cleanEls p.data.toList).toArray⟩ : ByteArray).size ≤ 1048576 := by
  have hl : p.data.toList ≠ [] := by intro e; have := congrArg List.length e; rw [← Lib.size_eq, List.length_nil] at this; omega
  have := Lib.Pa.clean_length_le hl
  rw [Lib.Pa.clean_eq_cleanEls, ← Lib.size_eq] at this
  rw [Lib.size_eq]
  exact Nat.le_trans this hp

theorem isEmpty_of {p : ByteArray} : p.toList.isEmpty = decide (p.size = 0) := by
  rw [Lib.toList_data, Bool.eq_iff_iff, List.isEmpty_iff_length_eq_zero, ← Lib.size_eq]; simp

theorem one_first (w : World) (x : ByteArray) (o : Obj) : SliceAt ((w.alloc (.cells #[.string x] 9)).alloc o) (some ⟨w.heap.size, 0, none⟩) 1 (strVals [x]) := by
  refine ⟨rfl, fun _ => ⟨_, 0, rfl, by simp; omega, fun i hi => ?_⟩⟩
  obtain rfl : i = 0 := by omega
  simp
theorem one_second (w : World) (x : ByteArray) (o : Obj) : SliceAt ((w.alloc o).alloc (.cells #[.string x] 9)) (some ⟨w.heap.size + 1, 0, none⟩) 1 (strVals [x]) := by
  refine ⟨rfl, fun _ => ⟨_, 0, rfl, by simp, fun i hi => ?_⟩⟩
  obtain rfl : i = 0 := by omega
  simp

set_option maxRecDepth 100000 in
set_option maxHeartbeats 4000000 in
theorem law_any (F : Interp) (a0 a1 a2 a3 : Option Addr) (n0 c0 n1 c1 n2 c2 n3 c3 : Nat) (bk : List ByteArray) (bv : List Bool) (sk sv : List ByteArray) (u : TypeId) (x : Value) (w : World)
    (hF : F.answers w.tape) (hg : w.cell? ⟨0, 0, none⟩ = some (.iface u x))
    (h0 : n0 ≤ 9223372036854775807) (h1 : n1 ≤ 9223372036854775807) (h2 : n2 ≤ 9223372036854775807) (h3 : n3 ≤ 9223372036854775807)
    (ss : ∀ s, s ∈ sk → s.size ≤ maxLen) (bs : ∀ s, s ∈ bk → s.size ≤ maxLen)
    (s0 : SliceAt w a0 n0 (strVals bk)) (s1 : SliceAt w a1 n1 (boolVals bv)) (s2 : SliceAt w a2 n2 (strVals sk)) (s3 : SliceAt w a3 n3 (strVals sv)) :
    Calls Tryf.prog 5 #[.slice a0 n0 c0, .slice a1 n1 c1, .slice a2 n2 c2, .slice a3 n3 c3] w fun e w' => e = .returned (.bool true) ∧ Below w.heap.size w w' := by
  have S0 : Hid (SliceAt w a0 n0 (strVals bk)) := s0
  have S1 : Hid (SliceAt w a1 n1 (boolVals bv)) := s1
  have S2 : Hid (SliceAt w a2 n2 (strVals sk)) := s2
  have S3 : Hid (SliceAt w a3 n3 (strVals sv)) := s3
  have SS : Hid (∀ s, s ∈ sk → s.size ≤ maxLen) := ss
  have BS : Hid (∀ s, s ∈ bk → s.size ≤ maxLen) := bs
  have HF : Hid (F.answers w.tape) := hF
  have HG : Hid (w.cell? ⟨0, 0, none⟩ = some (.iface u x)) := hg
  clear s0 s1 s2 s3 ss bs hF hg
  go_enter Tryf.func5, Tryf.ntmps5
  go_wp2_with fail
  refine (bytes_any a0 a1 a2 a3 n0 c0 n1 c1 n2 c2 n3 c3 bk sk sv w h0 h1 h2 h3 S0.out S2.out S3.out).mono ?_
  rintro e w' ⟨⟨b, rfl, hb⟩, rfl⟩
  have HB : Hid (b = true → ∀ s, s ∈ sv → s.size ≤ 1048576) := hb
  clear hb
  cases b
  · go_wp2_with fail
    go_ret
    exact ⟨rfl, Below.refl _ _⟩
  have VS : Hid (∀ s, s ∈ sv → s.size ≤ 1048576) := HB.out rfl
  clear HB
  by_cases hbig : ¬ (n0 ≤ 65536 ∧ n1 ≤ 65536 ∧ n2 ≤ 65536 ∧ n3 ≤ 65536)
  · go_wp2_with fail
    all_goals
      go_ret
      exact ⟨rfl, Below.refl _ _⟩
  clear h0 h1 h2 h3
  obtain ⟨h0, h1, h2, h3⟩ := Classical.not_not.1 hbig
  clear hbig
  go_wp2_with fail
  refine (bytesFit_any a0 a1 a2 a3 n0 c0 n1 c1 n2 c2 n3 c3 bk sk sv _ _ (by omega) (by omega) (by omega) S0.out S2.out S3.out).mono ?_
  rintro e w1 ⟨⟨b, rfl⟩, hw⟩
  subst hw
  cases b
  · go_wp2_with fail
    go_ret
    exact ⟨rfl, Below.refl _ _⟩
  by_cases heq : ¬ (n0 = n1 ∧ n2 = n3)
  · go_wp2_with fail
    all_goals
      go_ret
      exact ⟨rfl, Below.refl _ _⟩
  obtain ⟨rfl, rfl⟩ := Classical.not_not.1 heq
  clear heq
  have nq22 := fun (w : World) (a : Option Addr) (n c : Nat) => run_neq_slice_nil_any (P := Tryf.prog) w 22 9 a n c 0 0 Tryf.underlying22
  have nq23 := fun (w : World) (a : Option Addr) (n c : Nat) => run_neq_slice_nil_any (P := Tryf.prog) w 23 4 a n c 0 0 Tryf.underlying23
  obtain ⟨i9, hi9, hz0, hz1, hz2⟩ := info_parts Tryf.info9
  obtain ⟨i4, hi4, hx0, hx1, hx2⟩ := info_parts Tryf.info4
  go_upto_if 65 with (go_in)
  go_cut [0] (fun s wx => (∃ a' c', s = .slice a' n0 c' ∧ SliceAt wx a' n0 (strVals bk)) ∧ Below w1.heap.size w1 wx)
  case first =>
    have T : Hid (SliceAt w1 a0 n0 (strVals bk)) := S0.out
    cases a0 with
    | none =>
      go_wp2
      go_meet
      case rel => exact ⟨⟨_, _, rfl, T.out⟩, Below.refl _ _⟩
    | some a =>
      have hlen : (strVals bk).length = n0 := T.out.1
      go_wp2_with (first | (at_make; refine wpList_make_full _ rfl _ _ 22 rfl w1.heap.size 9 i9 (.string ⟨#[]⟩) 1 Tryf.underlying22 hi9 hz0 hz1 .i64 .i64 _ _ n0 rfl rfl rfl rfl (by rw [hz2]; omega) (by unfold maxLen; omega) (Nat.le_refl _) ?_; intro w2 hown2 hgrow2; obtain ⟨cur, hcur, hblk⟩ := own_block hown2; have hb2 : Below w1.heap.size w1 w2 := (Below.refl _ _).grown hgrow2 (Nat.le_refl _) (fun k hk => by cases hk); have HB2 : Hid (Below w1.heap.size w1 w2) := hb2; clear hown2 hgrow2 hb2) | (refine wpList_copy_splice rfl (.tmp 69) (.tmp 70) 22 22 rfl 9 Tryf.underlying22 Tryf.size9 _ _ _ _ _ _ rfl rfl w1.heap.size 0 cur 9 hblk (strVals bk) (by rw [hlen]; exact (Nat.min_self _).symm) (fun hp => ⟨rfl, (T.out.below HB2.out).src hp⟩) (by omega) (strVals_oneCell _) w1.heap.size w1 HB2.out (Nat.le_refl _) ?_; intro w3 hblk3 hb3))
      have HS : Hid (SliceAt w3 (some ⟨w1.heap.size, 0, none⟩) n0 (strVals bk)) := SliceAt.copied hlen hcur hblk3.out
      have HB3 : Hid (Below w1.heap.size w1 w3) := hb3
      clear hblk3 hb3 hblk hcur
      go_wp2
      go_meet
      case rel => exact ⟨⟨_, _, rfl, HS.out⟩, HB3.out⟩
  case rest =>
    obtain ⟨⟨d0, e0, rfl, hS⟩, hB⟩ := hcut
    obtain ⟨W1, hW⟩ : ∃ W1, W1 = wc := ⟨_, rfl⟩
    subst hW
    have R0 : Hid (SliceAt W1 d0 n0 (strVals bk)) := hS
    have B1 : Hid (Below w1.heap.size w1 W1) := hB
    clear hS hB
    go_upto_if 74 with (go_in)
    go_cut [1] (fun s wx => (∃ a' c', s = .slice a' n0 c' ∧ SliceAt wx a' n0 (boolVals bv)) ∧ Below W1.heap.size W1 wx)
    case first =>
      have T : Hid (SliceAt W1 a1 n0 (boolVals bv)) := S1.out.below B1.out
      cases a1 with
      | none =>
        go_wp2
        go_meet
        case rel => exact ⟨⟨_, _, rfl, T.out⟩, Below.refl _ _⟩
      | some a =>
        have hlen : (boolVals bv).length = n0 := T.out.1
        go_wp2_with (first | (at_make; refine wpList_make_full _ rfl _ _ 23 rfl W1.heap.size 4 i4 (.bool false) 1 Tryf.underlying23 hi4 hx0 hx1 .i64 .i64 _ _ n0 rfl rfl rfl rfl (by rw [hx2]; omega) (by unfold maxLen; omega) (Nat.le_refl _) ?_; intro w2 hown2 hgrow2; obtain ⟨cur, hcur, hblk⟩ := own_block hown2; have hb2 : Below W1.heap.size W1 w2 := (Below.refl _ _).grown hgrow2 (Nat.le_refl _) (fun k hk => by cases hk); have HB2 : Hid (Below W1.heap.size W1 w2) := hb2; clear hown2 hgrow2 hb2) | (refine wpList_copy_splice rfl (.tmp 78) (.tmp 79) 23 23 rfl 4 Tryf.underlying23 Tryf.size4 _ _ _ _ _ _ rfl rfl W1.heap.size 0 cur 4 hblk (boolVals bv) (by rw [hlen]; exact (Nat.min_self _).symm) (fun hp => ⟨rfl, (T.out.below HB2.out).src hp⟩) (by omega) (boolVals_oneCell _) W1.heap.size W1 HB2.out (Nat.le_refl _) ?_; intro w3 hblk3 hb3))
        have HS : Hid (SliceAt w3 (some ⟨W1.heap.size, 0, none⟩) n0 (boolVals bv)) := SliceAt.copied hlen hcur hblk3.out
        have HB3 : Hid (Below W1.heap.size W1 w3) := hb3
        clear hblk3 hb3 hblk hcur
        go_wp2
        go_meet
        case rel => exact ⟨⟨_, _, rfl, HS.out⟩, HB3.out⟩
    case rest =>
      obtain ⟨⟨d1, e1, rfl, hS⟩, hB⟩ := hcut
      obtain ⟨W2, hW⟩ : ∃ W2, W2 = wc := ⟨_, rfl⟩
      subst hW
      have R1 : Hid (SliceAt W2 d1 n0 (boolVals bv)) := hS
      have B2 : Hid (Below W1.heap.size W1 W2) := hB
      clear hS hB
      go_upto_if 83 with (go_in)
      go_cut [2] (fun s wx => (∃ a' c', s = .slice a' n2 c' ∧ SliceAt wx a' n2 (strVals sk)) ∧ Below W2.heap.size W2 wx)
      case first =>
        have T : Hid (SliceAt W2 a2 n2 (strVals sk)) := (S2.out.below B1.out).below B2.out
        cases a2 with
        | none =>
          go_wp2
          go_meet
          case rel => exact ⟨⟨_, _, rfl, T.out⟩, Below.refl _ _⟩
        | some a =>
          have hlen : (strVals sk).length = n2 := T.out.1
          go_wp2_with (first | (at_make; refine wpList_make_full _ rfl _ _ 22 rfl W2.heap.size 9 i9 (.string ⟨#[]⟩) 1 Tryf.underlying22 hi9 hz0 hz1 .i64 .i64 _ _ n2 rfl rfl rfl rfl (by rw [hz2]; omega) (by unfold maxLen; omega) (Nat.le_refl _) ?_; intro w2 hown2 hgrow2; obtain ⟨cur, hcur, hblk⟩ := own_block hown2; have hb2 : Below W2.heap.size W2 w2 := (Below.refl _ _).grown hgrow2 (Nat.le_refl _) (fun k hk => by cases hk); have HB2 : Hid (Below W2.heap.size W2 w2) := hb2; clear hown2 hgrow2 hb2) | (refine wpList_copy_splice rfl (.tmp 87) (.tmp 88) 22 22 rfl 9 Tryf.underlying22 Tryf.size9 _ _ _ _ _ _ rfl rfl W2.heap.size 0 cur 9 hblk (strVals sk) (by rw [hlen]; exact (Nat.min_self _).symm) (fun hp => ⟨rfl, (T.out.below HB2.out).src hp⟩) (by omega) (strVals_oneCell _) W2.heap.size W2 HB2.out (Nat.le_refl _) ?_; intro w3 hblk3 hb3))
          have HS : Hid (SliceAt w3 (some ⟨W2.heap.size, 0, none⟩) n2 (strVals sk)) := SliceAt.copied hlen hcur hblk3.out
          have HB3 : Hid (Below W2.heap.size W2 w3) := hb3
          clear hblk3 hb3 hblk hcur
          go_wp2
          go_meet
          case rel => exact ⟨⟨_, _, rfl, HS.out⟩, HB3.out⟩
      case rest =>
        obtain ⟨⟨d2, e2, rfl, hS⟩, hB⟩ := hcut
        obtain ⟨W3, hW⟩ : ∃ W3, W3 = wc := ⟨_, rfl⟩
        subst hW
        have R2 : Hid (SliceAt W3 d2 n2 (strVals sk)) := hS
        have B3 : Hid (Below W2.heap.size W2 W3) := hB
        clear hS hB
        go_upto_if 92 with (go_in)
        go_cut [3] (fun s wx => (∃ a' c', s = .slice a' n2 c' ∧ SliceAt wx a' n2 (strVals sv)) ∧ Below W3.heap.size W3 wx)
        case first =>
          have T : Hid (SliceAt W3 a3 n2 (strVals sv)) := ((S3.out.below B1.out).below B2.out).below B3.out
          cases a3 with
          | none =>
            go_wp2
            go_meet
            case rel => exact ⟨⟨_, _, rfl, T.out⟩, Below.refl _ _⟩
          | some a =>
            have hlen : (strVals sv).length = n2 := T.out.1
            go_wp2_with (first | (at_make; refine wpList_make_full _ rfl _ _ 22 rfl W3.heap.size 9 i9 (.string ⟨#[]⟩) 1 Tryf.underlying22 hi9 hz0 hz1 .i64 .i64 _ _ n2 rfl rfl rfl rfl (by rw [hz2]; omega) (by unfold maxLen; omega) (Nat.le_refl _) ?_; intro w2 hown2 hgrow2; obtain ⟨cur, hcur, hblk⟩ := own_block hown2; have hb2 : Below W3.heap.size W3 w2 := (Below.refl _ _).grown hgrow2 (Nat.le_refl _) (fun k hk => by cases hk); have HB2 : Hid (Below W3.heap.size W3 w2) := hb2; clear hown2 hgrow2 hb2) | (refine wpList_copy_splice rfl (.tmp 96) (.tmp 97) 22 22 rfl 9 Tryf.underlying22 Tryf.size9 _ _ _ _ _ _ rfl rfl W3.heap.size 0 cur 9 hblk (strVals sv) (by rw [hlen]; exact (Nat.min_self _).symm) (fun hp => ⟨rfl, (T.out.below HB2.out).src hp⟩) (by omega) (strVals_oneCell _) W3.heap.size W3 HB2.out (Nat.le_refl _) ?_; intro w3 hblk3 hb3))
            have HS : Hid (SliceAt w3 (some ⟨W3.heap.size, 0, none⟩) n2 (strVals sv)) := SliceAt.copied hlen hcur hblk3.out
            have HB3 : Hid (Below W3.heap.size W3 w3) := hb3
            clear hblk3 hb3 hblk hcur
            go_wp2
            go_meet
            case rel => exact ⟨⟨_, _, rfl, HS.out⟩, HB3.out⟩
        case rest =>
          obtain ⟨⟨d3, e3, rfl, hS⟩, hB⟩ := hcut
          obtain ⟨W4, hW⟩ : ∃ W4, W4 = wc := ⟨_, rfl⟩
          subst hW
          have R3 : Hid (SliceAt W4 d3 n2 (strVals sv)) := hS
          have B4 : Hid (Below W3.heap.size W3 W4) := hB
          clear hS hB
          have T0 : Hid (SliceAt W4 d0 n0 (strVals bk)) := ((R0.out.below B2.out).below B3.out).below B4.out
          have T1 : Hid (SliceAt W4 d1 n0 (boolVals bv)) := (R1.out.below B3.out).below B4.out
          have T2 : Hid (SliceAt W4 d2 n2 (strVals sk)) := R2.out.below B4.out
          have HB : Hid (Below w1.heap.size w1 W4) := ((B1.out.trans (B2.out.mono B1.out.size)).trans (B3.out.mono (Nat.le_trans B1.out.size B2.out.size))).trans (B4.out.mono (Nat.le_trans (Nat.le_trans B1.out.size B2.out.size) B3.out.size))
          clear R0 R1 R2 S0 S1 S2 S3 B1 B2 B3 B4
          have hlt : 0 < w1.heap.size := World.block_lt_of_cell? w1 ⟨0, 0, none⟩ HG.out
          have HC1 : Hid (Calls Tryf.prog 16 #[.slice d0 n0 e0, .slice d1 n0 e1, .slice d2 n2 e2, .slice d3 n2 e3] W4 fun e w' => ArgSays (answer (under bk sk sv)) e ∧ Below W4.heap.size W4 w') :=
            zzPathArg_any F d0 d1 d2 d3 n0 e0 e1 n2 e2 e3 bk bv sk sv u x W4 (by rw [HB.out.tape]; exact HF.out) ((HB.out.cell (p := ⟨0, 0, none⟩) hlt).trans HG.out) h0 h2 SS.out BS.out VS.out T0.out T1.out T2.out R3.out
          rcases hm : Plain.model bk sk sv with _ | p
          · have HA : Hid (answer (under bk sk sv) = none) := answer_none hm
            have HM : Hid (Plain.model bk sk sv = none) := hm
            clear hm
            go_wp2_with fail
            refine Calls.mono HC1.out ?_
            rintro e w5 ⟨he, hb5⟩
            rw [HA.out] at he
            obtain rfl : e = .returned (.tuple #[.string ⟨#[]⟩, .bool true]) := he
            have HC2 : Hid (Calls Tryf.prog 17 #[.slice d0 n0 e0, .slice d2 n2 e2, .slice d3 n2 e3] w5 fun e w' => ModelSays (Plain.model bk sk sv) e ∧ w' = w5) :=
              pathModel_any d0 d2 d3 n0 e0 n2 e2 e3 bk sk sv w5 (by omega) (by omega) (T0.out.below hb5) (T2.out.below hb5) (R3.out.below hb5)
            have HB5 : Hid (Below w1.heap.size w1 w5) := HB.out.trans (hb5.mono HB.out.size)
            clear hb5 HC1
            go_wp2_with fail
            refine Calls.mono HC2.out ?_
            rintro e w6 ⟨he, rfl⟩
            rw [HM.out] at he
            obtain rfl : e = .returned (.tuple #[.string ⟨#[]⟩, .bool false]) := he
            clear HC2
            go_wp2
            go_ret
            exact ⟨rfl, HB5.out⟩
          have HM : Hid (Plain.model bk sk sv = some p) := hm
          have HU : Hid (under bk sk sv = some (some p)) := under_some hm
          have hp20 : p.size ≤ 1048576 := VS.out p (under_mem HU.out)
          clear hm
          by_cases hp0 : p.size = 0
          · have HA : Hid (answer (under bk sk sv) = none) := by rw [HU.out]; exact answer_empty hp0
            have hE : p.toList.isEmpty = true := by rw [isEmpty_of]; simpa using hp0
            go_wp2_with fail
            refine Calls.mono HC1.out ?_
            rintro e w5 ⟨he, hb5⟩
            rw [HA.out] at he
            obtain rfl : e = .returned (.tuple #[.string ⟨#[]⟩, .bool true]) := he
            have HC2 : Hid (Calls Tryf.prog 17 #[.slice d0 n0 e0, .slice d2 n2 e2, .slice d3 n2 e3] w5 fun e w' => ModelSays (Plain.model bk sk sv) e ∧ w' = w5) :=
              pathModel_any d0 d2 d3 n0 e0 n2 e2 e3 bk sk sv w5 (by omega) (by omega) (T0.out.below hb5) (T2.out.below hb5) (R3.out.below hb5)
            have HB5 : Hid (Below w1.heap.size w1 w5) := HB.out.trans (hb5.mono HB.out.size)
            clear hb5 HC1
            go_wp2_with fail
            refine Calls.mono HC2.out ?_
            rintro e w6 ⟨he, rfl⟩
            rw [HM.out] at he
            obtain rfl : e = .returned (.tuple #[.string p, .bool true]) := he
            clear HC2
            go_wp2
            go_ret
            exact ⟨rfl, HB5.out⟩
          have HA : Hid (answer (under bk sk sv) = some (Lib.Pa.cleanEls p.data.toList)) := by rw [HU.out]; exact answer_some hp0
          have hE : p.toList.isEmpty = false := by rw [isEmpty_of]; simpa using hp0
          obtain ⟨r1, hr1⟩ : ∃ r1 : ByteArray, r1 = ⟨(Lib.Pa.cleanEls p.data.toList).toArray⟩ := ⟨_, rfl⟩
          have HR1 : Hid (r1 = ⟨(Lib.Pa.cleanEls p.data.toList).toArray⟩) := hr1
          have hr20 : r1.size ≤ 1048576 := by rw [hr1]; exact clean_size hp0 hp20
          clear hr1
          go_wp2_with fail
          refine Calls.mono HC1.out ?_
          rintro e w5 ⟨he, hb5⟩
          rw [HA.out] at he
          obtain rfl : e = .returned (.tuple #[.string r1, .bool false]) := by rw [HR1.out]; exact he
          have HC2 : Hid (Calls Tryf.prog 17 #[.slice d0 n0 e0, .slice d2 n2 e2, .slice d3 n2 e3] w5 fun e w' => ModelSays (Plain.model bk sk sv) e ∧ w' = w5) :=
            pathModel_any d0 d2 d3 n0 e0 n2 e2 e3 bk sk sv w5 (by omega) (by omega) (T0.out.below hb5) (T2.out.below hb5) (R3.out.below hb5)
          have HB5 : Hid (Below w1.heap.size w1 w5) := HB.out.trans (hb5.mono HB.out.size)
          clear hb5 HC1
          go_wp2_with fail
          refine Calls.mono HC2.out ?_
          rintro e w6 ⟨he, rfl⟩
          rw [HM.out] at he
          obtain rfl : e = .returned (.tuple #[.string p, .bool true]) := he
          clear HC2 T0 T1 T2 R3
          have HC3 : Hid (Calls Tryf.prog 18 #[.string p] w6 fun e w' => e = .returned (.string r1) ∧ Below w6.heap.size w6 w') := by
            rw [HR1.out]; exact clean_any p w6 hp20 (by omega)
          go_wp2_with fail
          refine Calls.mono HC3.out ?_
          rintro e w7 ⟨rfl, hb7⟩
          have HB7 : Hid (Below w1.heap.size w1 w7) := HB5.out.trans (hb7.mono HB5.out.size)
          clear hb7 HC3 HB5
          have HB8 : Hid (Below w1.heap.size w1 ((w7.alloc (.cells #[.string ⟨#[112, 97, 116, 104]⟩] 9)).alloc (.cells #[.string r1] 9))) :=
            (HB7.out.alloc HB7.out.size _).alloc (by have := HB7.out.size; simp; omega) _
          have HC4 : Hid (Calls Tryf.prog 16 #[.slice none 0 0, .slice none 0 0, .slice (some ⟨w7.heap.size, 0, none⟩) 1 1, .slice (some ⟨w7.heap.size + 1, 0, none⟩) 1 1] ((w7.alloc (.cells #[.string ⟨#[112, 97, 116, 104]⟩] 9)).alloc (.cells #[.string r1] 9)) fun e w' =>
              ArgSays (answer (under [] [⟨#[112, 97, 116, 104]⟩] [r1])) e ∧ Below ((w7.alloc (.cells #[.string ⟨#[112, 97, 116, 104]⟩] 9)).alloc (.cells #[.string r1] 9)).heap.size ((w7.alloc (.cells #[.string ⟨#[112, 97, 116, 104]⟩] 9)).alloc (.cells #[.string r1] 9)) w') :=
            zzPathArg_any F none none _ _ 0 0 0 1 1 1 [] [] [⟨#[112, 97, 116, 104]⟩] [r1] u x _ (by rw [HB8.out.tape]; exact HF.out) ((HB8.out.cell (p := ⟨0, 0, none⟩) hlt).trans HG.out) (by omega) (by omega)
              (fun s hs => by simp at hs; subst hs; unfold maxLen; decide) (fun s hs => by cases hs) (fun s hs => by simp at hs; subst hs; exact hr20) (SliceAt.nil _) (SliceAt.nil _) (one_first _ _ _) (one_second _ _ _)
          go_wp2_with fail
          refine Calls.mono HC4.out ?_
          rintro e w9 ⟨he, hb9⟩
          have HA2 : Hid (answer (under [] [⟨#[112, 97, 116, 104]⟩] [r1]) = some (Lib.Pa.cleanEls p.data.toList)) := by rw [under_one, HR1.out]; exact answer_again _
          rw [HA2.out] at he
          obtain rfl : e = .returned (.tuple #[.string r1, .bool false]) := by rw [HR1.out]; exact he
          have HB9 : Hid (Below w1.heap.size w1 w9) := HB8.out.trans (hb9.mono HB8.out.size)
          clear hb9 HC4 HB8
          go_wp2
          go_ret
          exact ⟨rfl, HB9.out⟩

end Go.Proofs.Qxb6614385aFmt
