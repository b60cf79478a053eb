/-
  THE LAW ITSELF (3): it returns true, whatever the two rows and the word hold.
-/
import Derived.Test.Qxb6614432aSameA
namespace Go.Proofs.Qxb6614432a
open Go.RowKit

/-- the row that came back for the arguments: where it has a string, a row of its own -/
def GotRow (w : World) (B x : Nat) (a : Option Addr) (n : Nat) (fs : List ByteArray) : Prop := 0 < n → ∃ y, a = some ⟨y, 0, none⟩ ∧ B ≤ y ∧ y ≠ x ∧ RowHas w y n fs
def Small (xs : List ByteArray) : Prop := ∀ (i : Nat) (s : ByteArray), xs[i]? = some s → s.size ≤ 1048577
theorem Small.set {xs : List ByteArray} (h : Small xs) (k : Nat) (s : ByteArray) (hs : s.size ≤ 1048577) : Small (xs.set k s) := by
  intro i t ht
  rw [List.getElem?_set] at ht
  split at ht
  · split at ht
    · cases ht; exact hs
    · cases ht
  · exact h i t ht
def LeftSmall (xs : List ByteArray) (k : Nat) : Prop := ∀ (i : Nat) (s : ByteArray), k ≤ i → xs[i]? = some s → s.size ≤ 1048576
theorem LeftSmall.set {xs : List ByteArray} {k : Nat} (h : LeftSmall xs k) (s : ByteArray) : LeftSmall (xs.set k s) (k + 1) := by
  intro i t hi ht
  rw [List.getElem?_set_ne (by omega)] at ht
  exact h i t (by omega) ht
theorem LeftSmall.start {xs : List ByteArray} (h : ∀ s ∈ xs, s.size ≤ 1048576) : LeftSmall xs 0 := fun _ s _ hs => h s (List.mem_of_getElem? hs)

theorem got_of {w w0 : World} {aa : Option Addr} {an : Nat} {v : Value} {fs : List ByteArray} {x : Nat} (h : ArgsRow w w0 aa an v fs x) : ∃ ya yc, v = .slice ya an yc ∧ ya.isNone = aa.isNone ∧ SliceAt w ya an (strVals fs) ∧ GotRow w w0.heap.size x ya an fs := by
  rcases h with ⟨rfl, rfl, rfl, rfl⟩ | ⟨y, yc, h1, rfl, h2, h3, h⟩
  · exact ⟨none, 0, rfl, rfl, SliceAt.nil _, fun h => absurd h (by omega)⟩
  · refine ⟨_, yc, rfl, ?_, h.slice, fun _ => ⟨y, rfl, h2, h3, h⟩⟩
    cases aa with
    | none => cases h1
    | some a => rfl
theorem GotRow.same {w w' : World} {B x : Nat} {a : Option Addr} {n : Nat} {fs : List ByteArray} (h : GotRow w B x a n fs) (hs : ∀ k, k ≠ x → w'.heap[k]? = w.heap[k]?) : GotRow w' B x a n fs := by
  intro hn
  obtain ⟨y, h1, h2, h3, h4⟩ := h hn
  exact ⟨y, h1, h2, h3, h4.same (hs y h3)⟩

set_option maxRecDepth 100000 in
set_option maxHeartbeats 8000000 in
theorem law3_any (old : ByteArray) (a0 a1 : Option Addr) (n0 c0 n1 c1 : Nat) (es xs : List ByteArray) (w : World) (h0 : n0 ≤ 9223372036854775807) (h1 : n1 ≤ 9223372036854775807)
    (s0 : SliceAt w a0 n0 (strVals es)) (s1 : SliceAt w a1 n1 (strVals xs)) :
    Calls Try.prog 3 #[.slice a0 n0 c0, .slice a1 n1 c1, .string old] w fun e w' => e = .returned (.bool true) ∧ Below w.heap.size w w' := by
  have S0 : Hid (SliceAt w a0 n0 (strVals es)) := s0
  have S1 : Hid (SliceAt w a1 n1 (strVals xs)) := s1
  clear s0 s1
  go_enter Try.func3, Try.ntmps3
  go_wp2_with fail
  refine (bytes3_any old a0 a1 n0 c0 n1 c1 es xs w h0 h1 S0.out S1.out).mono ?_
  rintro e w' ⟨⟨b, rfl, hb⟩, hw'⟩
  rw [hw']
  clear hw' w'
  have HB : Hid (b = true → n0 ≤ 1048576 ∧ n1 ≤ 1048576 ∧ (∀ s, s ∈ es → s.size ≤ 1048576) ∧ ∀ s, s ∈ xs → s.size ≤ 1048576) := hb
  clear hb
  cases b
  · go_wp2_with fail
    go_ret
    exact ⟨rfl, Below.refl _ _⟩
  clear h0 h1
  obtain ⟨h0, h1, hES, hXS⟩ := HB.out rfl
  have HES : Hid (∀ s ∈ es, s.size ≤ 1048576) := hES
  have HXS : Hid (∀ s ∈ xs, s.size ≤ 1048576) := hXS
  clear HB hES hXS
  by_cases hp : (old.size : Int) ≤ 4096
  case neg =>
    go_wp2_with fail
    go_ret
    exact ⟨rfl, Below.refl _ _⟩
  go_wp2_with fail
  refine (text_any a0 a1 n0 c0 n1 c1 es xs w h0 h1 S0.out S1.out).mono ?_
  rintro e w' ⟨⟨n, b, rfl⟩, hw'⟩
  rw [hw']
  clear hw' w'
  cases b
  · go_wp2_with fail
    go_ret
    exact ⟨rfl, Below.refl _ _⟩
  go_wp2_with fail
  refine (clone_any a0 n0 c0 es w h0 S0.out).mono ?_
  rintro e w1 ⟨b0, d0, rfl, hn0, hs0, hb1⟩
  have E1 : Hid (SliceAt w1 b0 n0 (strVals es)) := hs0
  have B1 : Hid (Below w.heap.size w w1) := hb1
  clear hn0 hs0 hb1 S0
  go_wp2_with fail
  refine (clone_any a1 n1 c1 xs w1 h1 (S1.out.below B1.out)).mono ?_
  rintro e w2 ⟨b1, d1, rfl, hn1, hs1, hb2⟩
  have E2 : Hid (SliceAt w2 b0 n0 (strVals es)) := E1.out.below hb2
  have A2 : Hid (SliceAt w2 b1 n1 (strVals xs)) := hs1
  have B2 : Hid (Below w.heap.size w w2) := B1.out.trans (hb2.mono B1.out.size)
  clear hn1 hs1 hb2 S1 E1 B1
  go_wp2_with fail
  refine (clone_any b0 n0 d0 es w2 h0 E2.out).mono ?_
  rintro e w3 ⟨b2, d2, rfl, hn2, hs2, hb3⟩
  have E3 : Hid (SliceAt w3 b0 n0 (strVals es)) := E2.out.below hb3
  have A3 : Hid (SliceAt w3 b1 n1 (strVals xs)) := A2.out.below hb3
  have V3 : Hid (SliceAt w3 b2 n0 (strVals es)) := hs2
  have B3 : Hid (Below w.heap.size w w3) := B2.out.trans (hb3.mono B2.out.size)
  clear hn2 hs2 hb3 E2 A2 B2
  go_wp2_with fail
  refine (clone_any b1 n1 d1 xs w3 h1 A3.out).mono ?_
  rintro e w4 ⟨b3, d3, rfl, hn3, hs3, hb4⟩
  have E4 : Hid (SliceAt w4 b0 n0 (strVals es)) := E3.out.below hb4
  have A4 : Hid (SliceAt w4 b1 n1 (strVals xs)) := A3.out.below hb4
  have V4 : Hid (SliceAt w4 b2 n0 (strVals es)) := V3.out.below hb4
  have U4 : Hid (SliceAt w4 b3 n1 (strVals xs)) := hs3
  have N3 : Hid (b3.isNone = b1.isNone) := hn3
  have B4 : Hid (Below w.heap.size w w4) := B3.out.trans (hb4.mono B3.out.size)
  clear hn3 hs3 hb4 E3 A3 V3 B3
  go_wp2_with fail
  refine (zzexpand_same old w4 b0 n0 d0 es b1 n1 d1 xs (by omega) E4.out A4.out h0 h1 HES.out HXS.out).mono ?_
  rintro e w5 ⟨x, v, rfl, hx, hrx, hargs, hb5⟩
  obtain ⟨ya, yc, rfl, hyn, hys, hgot⟩ := got_of hargs
  have B5 : Hid (Below w4.heap.size w4 w5) := hb5
  have HX : Hid (w4.heap.size ≤ x) := hx
  have HRX : Hid (RowHas w5 x n0 es) := hrx
  have HYS : Hid (SliceAt w5 ya n1 (strVals xs)) := hys
  have HGOT : Hid (GotRow w5 w4.heap.size x ya n1 xs) := hgot
  obtain ⟨nb, hnb⟩ : ∃ nb, ya.isNone = nb := ⟨_, rfl⟩
  have hnb3 : b3.isNone = nb := by rw [N3.out, ← hyn, hnb]
  clear hx hrx hargs hb5 hyn hys hgot N3
  have eq1 : ∀ w : World, (binOp .eql 22 (.slice ya n1 yc) (.slice none 0 0)).run Try.prog w = .ok (.bool nb) w := fun w => by
    rw [Lib.run_eql_slice_nil (P := Try.prog) w 22 9 ya n1 yc 0 0 Try.underlying22, hnb]
  have eq3 : ∀ w : World, (binOp .eql 22 (.slice b3 n1 d3) (.slice none 0 0)).run Try.prog w = .ok (.bool nb) w := fun w => by
    rw [Lib.run_eql_slice_nil (P := Try.prog) w 22 9 b3 n1 d3 0 0 Try.underlying22, hnb3]
  have eq0 : ∀ w : World, (binOp .eql 22 (.slice (some ⟨x, 0, none⟩) n0 n0) (.slice none 0 0)).run Try.prog w = .ok (.bool false) w := fun w =>
    Lib.run_eql_slice_nil (P := Try.prog) w 22 9 (some ⟨x, 0, none⟩) n0 n0 0 0 Try.underlying22
  clear hnb hnb3
  go_wp2
  clear eq0 eq1 eq3
  go_loopw [13] (fun i wr => ∃ k : Nat, i = .int .i64 k ∧ k ≤ n0 ∧ Below w5.heap.size w5 wr) (fun i _ => n0 - (intOf i).toNat)
  case atStart => exact ⟨0, rfl, Nat.zero_le _, Below.refl _ _⟩
  case round =>
    obtain ⟨k, rfl, hk, hbel⟩ := hrel
    have HB : Hid (Below w5.heap.size w5 wr) := hbel
    clear hbel
    by_cases hkn : k < n0
    · obtain ⟨v1, o1, t, hv1, hv2, hv3⟩ := ((V4.out.below B5.out).below HB.out).str hkn
      obtain ⟨t', hr1, hr2⟩ := (HRX.out.same (HB.out.block x HRX.out.lt)).cell hkn
      have ht : t' = t := by rw [hr1] at hv2; cases hv2; rfl
      subst ht
      clear hv2 hr1 V4
      subst hv1
      go_wp2
      go_quiet (fail)
      go_wp2
      go_roundw
      case rel => exact ⟨k + 1, by go_num, by omega, below_drewN HB.out _⟩
      case measure => simp [intOf]; omega
    have HB6 : Hid (Below w5.heap.size w5 wr) := HB.out
    obtain ⟨w6, hw6⟩ : ∃ w6, w6 = wr := ⟨_, rfl⟩
    subst hw6
    clear HB
    go_wp2
    clear hk hkn
    go_loopw [14] (fun i wr => ∃ k : Nat, i = .int .i64 k ∧ k ≤ n1 ∧ Below w5.heap.size w5 wr) (fun i _ => n1 - (intOf i).toNat)
    case atStart => exact ⟨0, rfl, Nat.zero_le _, HB6.out⟩
    case round =>
      clear HB6
      obtain ⟨k, rfl, hk, hbel⟩ := hrel
      have HB : Hid (Below w5.heap.size w5 wr) := hbel
      clear hbel
      by_cases hkn : k < n1
      · obtain ⟨v1, o1, t, hv1, hv2, hv3⟩ := ((U4.out.below B5.out).below HB.out).str hkn
        obtain ⟨v2, o2, t', hr0, hr1, hr2⟩ := (HYS.out.below HB.out).str hkn
        have ht : t' = t := by rw [hr1] at hv2; cases hv2; rfl
        subst ht
        clear hv2 hr1 U4 HYS HGOT
        subst hv1 hr0
        go_wp2
        go_quiet (fail)
        go_wp2
        go_roundw
        case rel => exact ⟨k + 1, by go_num, by omega, below_drewN HB.out _⟩
        case measure => simp [intOf]; omega
      clear HYS
      have HR7 : Hid (RowHas wr x n0 es) := HRX.out.same (HB.out.block x HRX.out.lt)
      have HG7 : Hid (GotRow wr w4.heap.size x ya n1 xs) := by
        intro hn
        obtain ⟨y, g1, g2, g3, g4⟩ := HGOT.out hn
        exact ⟨y, g1, g2, g3, g4.same (HB.out.block y g4.lt)⟩
      have HB7 : Hid (Below w4.heap.size w4 wr) := B5.out.trans (HB.out.mono B5.out.size)
      clear HB HRX HGOT B5
      go_wp2
      clear hk hkn
      go_loopw [15] (fun i wr => ∃ (k : Nat) (ds : List ByteArray), i = .int .i64 k ∧ k ≤ n0 ∧ RowHas wr x n0 ds ∧ LeftSmall ds k ∧ GotRow wr w4.heap.size x ya n1 xs ∧ Below w4.heap.size w4 wr) (fun i _ => n0 - (intOf i).toNat)
      case atStart => exact ⟨0, es, rfl, Nat.zero_le _, HR7.out, LeftSmall.start HES.out, HG7.out, HB7.out⟩
      case round =>
        clear HR7 HG7 HB7
        obtain ⟨k, ds, rfl, hk, hrow, hls, hg, hbel⟩ := hrel
        have HR : Hid (RowHas wr x n0 ds) := hrow
        have HL : Hid (LeftSmall ds k) := hls
        have HG : Hid (GotRow wr w4.heap.size x ya n1 xs) := hg
        have HB : Hid (Below w4.heap.size w4 wr) := hbel
        clear hrow hls hg hbel
        by_cases hkn : k < n0
        · obtain ⟨t, hr1, hr2⟩ := HR.out.cell hkn
          have hts : t.size ≤ 1048576 := HL.out k t (Nat.le_refl _) hr1
          have hfz := HR.out.fz k
          have HR1 : Hid (RowHas (wr.setCell ⟨x, k, none⟩ (.string (t ++ ⟨#[35]⟩))) x n0 (ds.set k (t ++ ⟨#[35]⟩))) := HR.out.set k _
          have HL1 : Hid (LeftSmall (ds.set k (t ++ ⟨#[35]⟩)) (k + 1)) := HL.out.set _
          have HG1 : Hid (GotRow (wr.setCell ⟨x, k, none⟩ (.string (t ++ ⟨#[35]⟩))) w4.heap.size x ya n1 xs) := HG.out.same (fun j hj => Below.heap_setCell _ _ _ _ hj)
          have HB1 : Hid (Below w4.heap.size w4 (wr.setCell ⟨x, k, none⟩ (.string (t ++ ⟨#[35]⟩)))) := HB.out.setCell (p := ⟨x, k, none⟩) HX.out _
          have hcat : ¬ (9223372036854775807 : Int) < ((t.size + 1 : Nat) : Int) := by omega
          clear hr1 HR HL HG HB
          go_wp2
          go_roundw
          case rel => exact ⟨k + 1, _, by go_num, by omega, HR1.out, HL1.out, HG1.out, HB1.out⟩
          case measure => simp [intOf]; omega
        clear HR HL
        have HG8 : Hid (GotRow wr w4.heap.size x ya n1 xs) := HG.out
        have HB8 : Hid (Below w4.heap.size w4 wr) := HB.out
        clear HG HB
        go_wp2
        clear hk hkn
        go_loopw [16] (fun i wr => ∃ (k : Nat) (ds : List ByteArray), i = .int .i64 k ∧ k ≤ n1 ∧ LeftSmall ds k ∧ GotRow wr w4.heap.size x ya n1 ds ∧ Below w4.heap.size w4 wr) (fun i _ => n1 - (intOf i).toNat)
        case atStart => exact ⟨0, xs, rfl, Nat.zero_le _, LeftSmall.start HXS.out, HG8.out, HB8.out⟩
        case round =>
          clear HG8 HB8
          obtain ⟨k, ds, rfl, hk, hls, hg, hbel⟩ := hrel
          have HL : Hid (LeftSmall ds k) := hls
          have HG : Hid (GotRow wr w4.heap.size x ya n1 ds) := hg
          have HB : Hid (Below w4.heap.size w4 wr) := hbel
          clear hls hg hbel
          by_cases hkn : k < n1
          · obtain ⟨y, hya, hyB, hyx, hrow⟩ := HG.out (by omega)
            have HR : Hid (RowHas wr y n1 ds) := hrow
            obtain ⟨t, hr1, hr2⟩ := HR.out.cell hkn
            have hts : t.size ≤ 1048576 := HL.out k t (Nat.le_refl _) hr1
            have hfz := HR.out.fz k
            have HL1 : Hid (LeftSmall (ds.set k (t ++ ⟨#[35]⟩)) (k + 1)) := HL.out.set _
            have HG1 : Hid (GotRow (wr.setCell ⟨y, k, none⟩ (.string (t ++ ⟨#[35]⟩))) w4.heap.size x (some ⟨y, 0, none⟩) n1 (ds.set k (t ++ ⟨#[35]⟩))) := fun _ => ⟨y, rfl, hyB, hyx, HR.out.set k _⟩
            have HB1 : Hid (Below w4.heap.size w4 (wr.setCell ⟨y, k, none⟩ (.string (t ++ ⟨#[35]⟩)))) := HB.out.setCell (p := ⟨y, k, none⟩) hyB _
            have hcat : ¬ (9223372036854775807 : Int) < ((t.size + 1 : Nat) : Int) := by omega
            clear hr1 HR HL HG HB hyB hyx hrow
            subst hya
            go_wp2
            go_roundw
            case rel => exact ⟨k + 1, _, by go_num, by omega, HL1.out, HG1.out, HB1.out⟩
            case measure => simp [intOf]; omega
          clear HL HG
          have HB9 : Hid (Below w4.heap.size w4 wr) := HB.out
          clear HB
          go_wp2
          clear hk hkn
          go_loopw [17] (fun i wr => ∃ k : Nat, i = .int .i64 k ∧ k ≤ n0 ∧ Below w4.heap.size w4 wr) (fun i _ => n0 - (intOf i).toNat)
          case atStart => exact ⟨0, rfl, Nat.zero_le _, HB9.out⟩
          case round =>
            clear HB9
            obtain ⟨k, rfl, hk, hbel⟩ := hrel
            have HB : Hid (Below w4.heap.size w4 wr) := hbel
            clear hbel
            by_cases hkn : k < n0
            · obtain ⟨v1, o1, t, hv1, hv2, hv3⟩ := (E4.out.below HB.out).str hkn
              obtain ⟨v2, o2, t', hr0, hr1, hr2⟩ := (V4.out.below HB.out).str hkn
              have ht : t' = t := by rw [hr1] at hv2; cases hv2; rfl
              subst ht
              clear hv2 hr1 E4 V4
              subst hv1 hr0
              go_wp2
              go_quiet (fail)
              go_wp2
              go_roundw
              case rel => exact ⟨k + 1, by go_num, by omega, below_drewN HB.out _⟩
              case measure => simp [intOf]; omega
            have HB10 : Hid (Below w4.heap.size w4 wr) := HB.out
            clear HB
            go_wp2
            clear hk hkn
            go_loopw [18] (fun i wr => ∃ k : Nat, i = .int .i64 k ∧ k ≤ n1 ∧ Below w4.heap.size w4 wr) (fun i _ => n1 - (intOf i).toNat)
            case atStart => exact ⟨0, rfl, Nat.zero_le _, HB10.out⟩
            case round =>
              clear HB10
              obtain ⟨k, rfl, hk, hbel⟩ := hrel
              have HB : Hid (Below w4.heap.size w4 wr) := hbel
              clear hbel
              by_cases hkn : k < n1
              · obtain ⟨v1, o1, t, hv1, hv2, hv3⟩ := (A4.out.below HB.out).str hkn
                obtain ⟨v2, o2, t', hr0, hr1, hr2⟩ := (U4.out.below HB.out).str hkn
                have ht : t' = t := by rw [hr1] at hv2; cases hv2; rfl
                subst ht
                clear hv2 hr1 A4 U4
                subst hv1 hr0
                go_wp2
                go_quiet (fail)
                go_wp2
                go_roundw
                case rel => exact ⟨k + 1, by go_num, by omega, below_drewN HB.out _⟩
                case measure => simp [intOf]; omega
              have HB11 : Hid (Below w4.heap.size w4 wr) := HB.out
              clear HB
              go_wp2
              clear hk hkn
              go_ret
              exact ⟨rfl, B4.out.trans (HB11.out.mono B4.out.size)⟩

end Go.Proofs.Qxb6614432a
