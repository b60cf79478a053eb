/-
  THE WALK OF strings.makeStringFinder (38).
-/
import Derived.Test.Qxb6614432aFindB
import Derived.Test.Qxb6614432aShelf
namespace Go.Proofs.Qxb6614432a
open Go.RowKit

theorem Try.info3 : (Try.prog.info? 3).map (fun i => (i.zero, i.size, i.bytes)) = some (some (.int .i64 0), 1, 8) := by kernel_rfl

theorem getD_byte {s : ByteArray} {i : Nat} (h : i < s.size) : s.data.toList.getD i 0 = s[i] := by
  have hl : s.data.toList.length = s.size := (Lib.size_eq s).symm
  rw [List.getD_eq_getElem?_getD, List.getElem?_eq_getElem (by omega)]
  rfl

/-- 256 rounds lay the pattern's length everywhere. -/
def bad0 (n : Nat) (k : Nat) : Nat → Int := fun x => if x < k then (n : Int) else 0

theorem Finder.congr {w : World} {f g : Nat} {p : ByteArray} {bad bad' : Nat → Int} {good : List Int} (h : Finder w f g p bad good) (hb : ∀ c, c < 256 → bad c = bad' c) : Finder w f g p bad' good := by
  obtain ⟨cs, h0, h1, h2, h3, h4⟩ := h.blk
  exact ⟨⟨cs, h0, h1, h2, fun c hc => by rw [h3 c hc, hb c hc], h4⟩, h.row, h.len, h.ne⟩

theorem zero_finder (P S : Value) : (Try.zeroCells104.setIfInBounds 0 P).setIfInBounds 257 S = finderCells P S := by kernel_rfl

theorem bad0_step (n k : Nat) : ∀ c, c < 256 → (fun x => if x = k then (n : Int) else bad0 n k x) c = bad0 n (k + 1) c := by
  intro c _
  unfold bad0
  by_cases h : c = k
  · subst h; simp
  · by_cases h' : c < k
    · simp [h, h']; omega
    · have : ¬ c < k + 1 := by omega
      simp [h, h', this]
theorem bad0_end (p : List UInt8) : ∀ c, c < 256 → bad0 p.length 256 c = badTo p 0 c := by
  intro c hc
  simp [bad0, badTo, hc]
theorem badTo_step (p : List UInt8) (k x : Nat) : (if x = (p.getD k 0).toNat then (p.length : Int) - 1 - k else badTo p k x) = badTo p (k + 1) x := rfl

theorem Finder.setGoodAs {w : World} {f g : Nat} {p : ByteArray} {bad : Nat → Int} {good good' : List Int} (h : Finder w f g p bad good) {j : Nat} {v : Int} (hg : good.set j v = good') : Finder (w.setCell ⟨g, j, none⟩ (.int .i64 v)) f g p bad good' := hg ▸ h.setGood j v

theorem gA_step {p : ByteArray} {m j : Nat} {v : Int} (hl : p.data.toList.length = p.size) (hj : j + m + 1 = p.size) (hv : v = lpTo p.data.toList (m + 1) + ((p.size : Int) - 1) - j) : (gA p.data.toList m).set j v = gA p.data.toList (m + 1) := by
  have e : p.size - 1 - m = j := by omega
  simp only [gA, hl, e, hv]
theorem lp_yes {p : ByteArray} {m j : Nat} (hl : p.data.toList.length = p.size) (hj : j + m + 1 = p.size) (h : Lib.hasPrefix p.data.toList (List.take (p.size - (j + 1)) (List.drop (j + 1) p.data.toList)) = true) : lpTo p.data.toList (m + 1) = (j : Int) + 1 := by
  have e : p.size - m = j + 1 := by omega
  rw [List.take_of_length_le (by rw [List.length_drop]; omega)] at h
  simp only [lpTo, hl, e, h, if_true]
  omega
theorem lp_no {p : ByteArray} {m j : Nat} (hl : p.data.toList.length = p.size) (hj : j + m + 1 = p.size) (h : Lib.hasPrefix p.data.toList (List.take (p.size - (j + 1)) (List.drop (j + 1) p.data.toList)) = false) : lpTo p.data.toList (m + 1) = lpTo p.data.toList m := by
  have e : p.size - m = j + 1 := by omega
  rw [List.take_of_length_le (by rw [List.length_drop]; omega)] at h
  simp only [lpTo, hl, e, h, Bool.false_eq_true, if_false]
theorem gB_same {p : ByteArray} {m ls a b : Nat} (hl : p.data.toList.length = p.size) (hls : lcs p.data.toList (p.extract 1 (m + 1)).data.toList = ls) (ha : a + ls = m) (hb : b + ls + 1 = p.size) (ha' : a < p.size) (hb' : b < p.size) (h : p[a] = p[b]) : gB p.data.toList (m + 1) = gB p.data.toList m := by
  rw [Lib.extract_data] at hls
  have hls' : lcs p.data.toList ((p.data.toList.drop 1).take m) = ls := hls
  have e1 : m - ls = a := by omega
  have e2 : p.size - 1 - ls = b := by omega
  simp only [gB, hl, hls', e1, e2, getD_byte ha', getD_byte hb', h, if_true]
theorem gB_set {p : ByteArray} {m ls a b : Nat} {v : Int} (hl : p.data.toList.length = p.size) (hls : lcs p.data.toList (p.extract 1 (m + 1)).data.toList = ls) (ha : a + ls = m) (hb : b + ls + 1 = p.size) (ha' : a < p.size) (hb' : b < p.size) (h : p[a] ≠ p[b])
    (hv : v = (ls : Int) + ((p.size : Int) - 1) - m) : (gB p.data.toList m).set b v = gB p.data.toList (m + 1) := by
  rw [Lib.extract_data] at hls
  have hls' : lcs p.data.toList ((p.data.toList.drop 1).take m) = ls := hls
  have e1 : m - ls = a := by omega
  have e2 : p.size - 1 - ls = b := by omega
  simp only [gB, hl, hls', e1, e2, getD_byte ha', getD_byte hb', h, if_false, hv]

set_option maxRecDepth 100000 in
set_option maxHeartbeats 4000000 in
theorem finder_any (p : ByteArray) (w : World) (h2 : 2 ≤ p.size) (hp : p.size ≤ 4096) :
    Calls Try.prog 38 #[.string p] w fun e w' => ∃ f g, e = .returned (.pointer (some ⟨f, 0, none⟩)) ∧ w.heap.size ≤ f ∧ w.heap.size ≤ g ∧
      Finder w' f g p (badTo p.data.toList (p.size - 1)) (gB p.data.toList (p.size - 1)) ∧ Below w.heap.size w w' := by
  have hl : p.data.toList.length = p.size := (Lib.size_eq p).symm
  have HL : Hid (p.data.toList.length = p.size) := hl
  clear hl
  obtain ⟨i3, hi, hz0, hz1, hz2⟩ := info_parts Try.info3
  go_enter Try.func38, Try.ntmps38
  go_wp2_with (at_make; refine wpList_make_full _ rfl _ _ 101 rfl w.heap.size 3 i3 (.int .i64 0) 1 Try.underlying101 hi hz0 hz1 .i64 .i64 _ _ p.size rfl rfl rfl rfl (by rw [hz2]; omega) (by unfold maxLen; omega) (Nat.le_refl _) ?_; intro w1 hown1 hgrow1)
  have hlt : w.heap.size < w1.heap.size := (World.ownsRow.lt hown1 _ rfl).2
  have HB1 : Hid (Below w.heap.size w w1) := (Below.refl _ _).grown hgrow1 (Nat.le_refl _) (fun k hk => by cases hk)
  have HF0 : Hid (Finder (w1.alloc (.cells ((Try.zeroCells104.setIfInBounds 0 (.string p)).setIfInBounds 257 (.slice (some ⟨w.heap.size, 0, none⟩) p.size p.size)) 104)) w1.heap.size w.heap.size p (fun _ => 0) (List.replicate p.size 0)) := by
    refine Finder.start rfl ?_ ?_ (by omega)
    · rw [zero_finder]; exact heap_alloc_new w1 _
    · rw [Below.heap_alloc _ _ _ hlt]
      have e : (madeCells (Value.int .i64 0).cells (p.size * 1)).toList = List.replicate p.size (.int .i64 0) := by rw [Nat.mul_one]; exact toList_madeCells_one _ _
      have := own_row hown1
      rwa [e] at this
  clear hown1 hgrow1 hi hz0 hz1 hz2
  go_loopw [20] (fun i wr => ∃ k : Nat, i = .int .i64 k ∧ k ≤ 256 ∧ Finder wr w1.heap.size w.heap.size p (bad0 p.size k) (List.replicate p.size 0) ∧ Below w.heap.size w wr) (fun i _ => 256 - (intOf i).toNat)
  case atStart => exact ⟨0, rfl, Nat.zero_le _, HF0.out.congr (fun c _ => by simp [bad0]), HB1.out.alloc HB1.out.size _⟩
  case round =>
    clear HF0
    obtain ⟨k, rfl, hk, hfi, hbel⟩ := hrel
    have HF : Hid (Finder wr w1.heap.size w.heap.size p (bad0 p.size k) (List.replicate p.size 0)) := hfi
    have HB : Hid (Below w.heap.size w wr) := hbel
    clear hfi hbel
    by_cases hlk : k < 256
    · have hc := HF.out.badCell hlk
      have hz := HF.out.frozenF (1 + k)
      have HF1 : Hid (Finder (wr.setCell ⟨w1.heap.size, 1 + k, none⟩ (.int .i64 p.size)) w1.heap.size w.heap.size p (bad0 p.size (k + 1)) (List.replicate p.size 0)) := (HF.out.setBad hlk _).congr (bad0_step _ _)
      have HB2 : Hid (Below w.heap.size w (wr.setCell ⟨w1.heap.size, 1 + k, none⟩ (.int .i64 p.size))) := HB.out.setCell (p := ⟨w1.heap.size, 1 + k, none⟩) (Nat.le_of_lt hlt) _
      clear HF HB
      go_wp2
      go_roundw
      case rel => exact ⟨k + 1, by go_num, by omega, HF1.out, HB2.out⟩
      case measure => simp [intOf]; omega
    have HF1 : Hid (Finder wr w1.heap.size w.heap.size p (badTo p.data.toList 0) (List.replicate p.size 0)) := by
      have e : k = 256 := by omega
      have h := HF.out
      rw [e, ← HL.out] at h
      have h' := h.congr (bad0_end p.data.toList)
      rwa [HL.out] at h'
    clear HF
    go_wp2
    go_loopw [6] (fun i wx => ∃ m : Nat, i = .int .i64 m ∧ m ≤ p.size - 1 ∧ Finder wx w1.heap.size w.heap.size p (badTo p.data.toList m) (List.replicate p.size 0) ∧ Below w.heap.size w wx) (fun i _ => p.size - 1 - (intOf i).toNat)
    case atStart => exact ⟨0, rfl, Nat.zero_le _, HF1.out, HB.out⟩
    case round =>
      clear HF1 HB hk hlk
      obtain ⟨m, rfl, hm, hfi, hbel⟩ := hrel
      have HF : Hid (Finder wr w1.heap.size w.heap.size p (badTo p.data.toList m) (List.replicate p.size 0)) := hfi
      have HB : Hid (Below w.heap.size w wr) := hbel
      clear hfi hbel
      by_cases hml : m < p.size - 1
      · have hmp : m < p.size := by omega
        have h256 : p[m].toNat < 256 := p[m].toNat_lt
        have hc := HF.out.badCell h256
        have hz := HF.out.frozenF (1 + p[m].toNat)
        have HF1 : Hid (Finder (wr.setCell ⟨w1.heap.size, 1 + p[m].toNat, none⟩ (.int .i64 ((p.size : Int) - 1 - m))) w1.heap.size w.heap.size p (badTo p.data.toList (m + 1)) (List.replicate p.size 0)) := by
          refine (HF.out.setBad h256 _).congr (fun c _ => ?_)
          rw [← badTo_step, getD_byte hmp, HL.out]
        have HB2 : Hid (Below w.heap.size w (wr.setCell ⟨w1.heap.size, 1 + p[m].toNat, none⟩ (.int .i64 ((p.size : Int) - 1 - m)))) := HB.out.setCell (p := ⟨w1.heap.size, 1 + p[m].toNat, none⟩) (Nat.le_of_lt hlt) _
        clear HF HB
        go_wp2
        go_region
        all_goals
          go_wp2
          go_roundw
          case rel => exact ⟨m + 1, by go_num, by omega, HF1.out.drew, HB2.out.drew⟩
          case measure => simp [intOf]; omega
      have HF1 : Hid (Finder wr w1.heap.size w.heap.size p (badTo p.data.toList (p.size - 1)) (gA p.data.toList 0)) := by
        have e : m = p.size - 1 := by omega
        have h := HF.out
        rw [e] at h
        have e2 : gA p.data.toList 0 = List.replicate p.size 0 := by show List.replicate p.data.toList.length 0 = _; rw [HL.out]
        rw [e2]; exact h
      clear HF
      go_wp2
      go_loopw [7, 8] (fun l i wx => ∃ q : Nat, q ≤ p.size ∧ i = .int .i64 ((p.size : Int) - 1 - q) ∧ l = .int .i64 (lpTo p.data.toList q) ∧ Finder wx w1.heap.size w.heap.size p (badTo p.data.toList (p.size - 1)) (gA p.data.toList q) ∧ Below w.heap.size w wx) (fun _ i _ => (intOf i + 1).toNat)
      case atStart => exact ⟨0, Nat.zero_le _, by go_num, by show _ = Value.int .i64 ((p.data.toList.length : Int) - 1); rw [HL.out], HF1.out, HB.out⟩
      case round =>
        clear HF1 HB hm hml
        obtain ⟨q, hq, rfl, rfl, hfi, hbel⟩ := hrel
        have HF : Hid (Finder wr w1.heap.size w.heap.size p (badTo p.data.toList (p.size - 1)) (gA p.data.toList q)) := hfi
        have HB : Hid (Below w.heap.size w wr) := hbel
        clear hfi hbel
        have hlb := lpTo_bound p.data.toList (by rw [HL.out]; omega) q (by rw [HL.out]; omega)
        rw [HL.out] at hlb
        obtain ⟨hlb1, hlb2⟩ := hlb
        by_cases hqn : q < p.size
        · obtain ⟨j, hj⟩ : ∃ j : Nat, j + q + 1 = p.size := ⟨p.size - 1 - q, by omega⟩
          have HJ : Hid (j + q + 1 = p.size) := hj
          have ej : (p.size : Int) - 1 - (q : Int) = (j : Int) := by omega
          have hjp : j < p.size := by omega
          have hj1 : j + 1 ≤ p.size := hjp
          obtain ⟨x0, hx0⟩ : ∃ x0, (gA p.data.toList q)[j]? = some x0 := ⟨_, List.getElem?_eq_getElem (by rw [gA_length, HL.out]; exact hjp)⟩
          have hsl := HF.out.slCell
          have hgc := HF.out.goodCell hx0
          have hgz := HF.out.frozenG j
          clear hj hx0
          rcases hpx : Lib.hasPrefix p.data.toList (List.take (p.size - (j + 1)) (List.drop (j + 1) p.data.toList)) with _ | _
          · have HLP : Hid (lpTo p.data.toList (q + 1) = lpTo p.data.toList q) := lp_no HL.out HJ.out hpx
            go_wp2_with (go_at_call 48; refine (Try.strings_HasPrefix _ _ _).mono ?_; rintro e w' ⟨rfl, rfl⟩)
            go_roundw
            case rel => exact ⟨q + 1, by omega, by go_num, by rw [HLP.out], HF.out.setGoodAs (gA_step HL.out HJ.out (by rw [HLP.out])), HB.out.setCell (p := ⟨w.heap.size, j, none⟩) (Nat.le_refl _) _⟩
            case measure => simp [intOf]; omega
          · have HLP : Hid (lpTo p.data.toList (q + 1) = (j : Int) + 1) := lp_yes HL.out HJ.out hpx
            go_wp2_with (go_at_call 48; refine (Try.strings_HasPrefix _ _ _).mono ?_; rintro e w' ⟨rfl, rfl⟩)
            go_roundw
            case rel => exact ⟨q + 1, by omega, by go_num, by rw [HLP.out], HF.out.setGoodAs (gA_step HL.out HJ.out (by rw [HLP.out])), HB.out.setCell (p := ⟨w.heap.size, j, none⟩) (Nat.le_refl _) _⟩
            case measure => simp [intOf]; omega
        have HF1 : Hid (Finder wr w1.heap.size w.heap.size p (badTo p.data.toList (p.size - 1)) (gB p.data.toList 0)) := by
          have e : q = p.size := by omega
          have h := HF.out
          have e2 : gB p.data.toList 0 = gA p.data.toList p.size := by show gA _ p.data.toList.length = _; rw [HL.out]
          rw [e2, ← e]; rw [e] at h ⊢; exact h
        clear HF
        have eq1 : (p.size : Int) - 1 - (q : Int) = -1 := by omega
        go_wp2
        go_loopw [9] (fun i wx => ∃ m : Nat, i = .int .i64 m ∧ m ≤ p.size - 1 ∧ Finder wx w1.heap.size w.heap.size p (badTo p.data.toList (p.size - 1)) (gB p.data.toList m) ∧ Below w.heap.size w wx) (fun i _ => p.size - 1 - (intOf i).toNat)
        case atStart => exact ⟨0, rfl, Nat.zero_le _, HF1.out, HB.out⟩
        case round =>
          clear HF1 HB hq hqn eq1 hlb1 hlb2
          obtain ⟨m, rfl, hm, hfi, hbel⟩ := hrel
          have HF : Hid (Finder wr w1.heap.size w.heap.size p (badTo p.data.toList (p.size - 1)) (gB p.data.toList m)) := hfi
          have HB : Hid (Below w.heap.size w wr) := hbel
          clear hfi hbel
          by_cases hml : m < p.size - 1
          · have hex : (p.extract 1 (m + 1)).size ≤ 4096 := by rw [ByteArray.size_extract]; omega
            obtain ⟨ls, hls⟩ : ∃ ls, lcs p.data.toList (p.extract 1 (m + 1)).data.toList = ls := ⟨_, rfl⟩
            have hlm : ls ≤ m := by
              rw [← hls, Lib.extract_data]; exact lcs_tail _ _
            have HC := lcs_any p (p.extract 1 (m + 1)) wr hp hex
            rw [hls] at HC
            have HCC : Hid (Calls Try.prog 49 #[.string p, .string (p.extract 1 (m + 1))] wr fun e w' => e = .returned (.int .i64 (ls : Nat)) ∧ Below wr.heap.size wr w') := HC
            have HLS : Hid (lcs p.data.toList (p.extract 1 (m + 1)).data.toList = ls) := hls
            clear HC hls hex
            obtain ⟨a, ha⟩ : ∃ a : Nat, a + ls = m := ⟨m - ls, by omega⟩
            obtain ⟨b, hb⟩ : ∃ b : Nat, b + ls + 1 = p.size := ⟨p.size - 1 - ls, by omega⟩
            have ea : (m : Int) - (ls : Int) = (a : Int) := by omega
            have eb : (p.size : Int) - 1 - (ls : Int) = (b : Int) := by omega
            have ha' : a < p.size := by omega
            have hb' : b < p.size := by omega
            have HA : Hid (a + ls = m) := ha
            have HBb : Hid (b + ls + 1 = p.size) := hb
            obtain ⟨x0, hx0⟩ : ∃ x0, (gB p.data.toList m)[b]? = some x0 := ⟨_, List.getElem?_eq_getElem (by rw [gB_length, HL.out]; exact hb')⟩
            have HX : Hid ((gB p.data.toList m)[b]? = some x0) := hx0
            clear ha hb hx0
            go_wp2_with (go_at_call 49; refine Calls.mono HCC.out ?_; rintro e w' ⟨rfl, hbb⟩)
            have HF2 : Hid (Finder w' w1.heap.size w.heap.size p (badTo p.data.toList (p.size - 1)) (gB p.data.toList m)) := HF.out.below hbb
            have HB2 : Hid (Below w.heap.size w w') := HB.out.trans (hbb.mono HB.out.size)
            clear hbb HF HB HCC
            by_cases hne : ((p[a].toNat : Int) != (p[b].toNat : Int)) = true
            · have HF3 : Hid (Finder (w'.setCell ⟨w.heap.size, b, none⟩ (.int .i64 ((ls : Int) + ((p.size : Int) - 1) - m))) w1.heap.size w.heap.size p (badTo p.data.toList (p.size - 1)) (gB p.data.toList (m + 1))) :=
                HF2.out.setGoodAs (gB_set HL.out HLS.out HA.out HBb.out ha' hb' (u8_ne hne) rfl)
              have HB3 : Hid (Below w.heap.size w (w'.setCell ⟨w.heap.size, b, none⟩ (.int .i64 ((ls : Int) + ((p.size : Int) - 1) - m)))) := HB2.out.setCell (p := ⟨w.heap.size, b, none⟩) (Nat.le_refl _) _
              have hsl := HF2.out.slCell
              have hgc := HF2.out.goodCell HX.out
              have hgz := HF2.out.frozenG b
              clear HF2 HB2
              go_region
              all_goals
                go_wp2
                go_roundw
                case rel => exact ⟨m + 1, by go_num, by omega, HF3.out.drew, HB3.out.drew⟩
                case measure => simp [intOf]; omega
            · have hne' : ((p[a].toNat : Int) != (p[b].toNat : Int)) = false := by simpa using hne
              have HF3 : Hid (Finder w' w1.heap.size w.heap.size p (badTo p.data.toList (p.size - 1)) (gB p.data.toList (m + 1))) := by
                rw [gB_same HL.out HLS.out HA.out HBb.out ha' hb' (u8_eq hne')]; exact HF2.out
              clear HF2 hne
              go_region
              all_goals
                go_wp2
                go_roundw
                case rel => exact ⟨m + 1, by go_num, by omega, HF3.out.drew, HB2.out.drew⟩
                case measure => simp [intOf]; omega
          have HF2 : Hid (Finder wr w1.heap.size w.heap.size p (badTo p.data.toList (p.size - 1)) (gB p.data.toList (p.size - 1))) := by
            have e : m = p.size - 1 := by omega
            have h := HF.out
            rw [e] at h; exact h
          clear HF
          go_wp2
          go_ret
          exact ⟨_, _, rfl, Nat.le_of_lt hlt, Nat.le_refl _, HF2.out, HB.out⟩

end Go.Proofs.Qxb6614432a
