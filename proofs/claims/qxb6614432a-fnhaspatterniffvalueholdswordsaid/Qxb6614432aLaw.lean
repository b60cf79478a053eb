/-
  THE LAW ITSELF (4): it returns true, whatever the two rows hold.
-/
import Derived.Test.Qxb6614432aPlainC
import Derived.Deep.DeepCutAuto
namespace Go.Proofs.Qxb6614432a
open Go.RowKit

theorem Try.size9 : (Try.prog.info? 9).map (·.size) = some 1 := by kernel_rfl
theorem own_block {w2 : World} {B n : Nat} {e : TypeId} {xs : List Value} (h : w2.ownsRow B e 1 (.slice (some ⟨B, 0, none⟩) n n) n xs) : ∃ cur : List Value, cur.length = n ∧ w2.heap[B]? = some (.cells cur.toArray e (0, 0)) := by
  obtain ⟨_, h2⟩ := h
  rcases h2 with ⟨h0, _⟩ | ⟨g, cap, cur, hv, _, hh, _, _, hs, _⟩
  · cases h0
  · cases hv
    exact ⟨cur.toList, by simpa using hs, by simpa using hh⟩

theorem SliceAt.src {w : World} {a : Option Addr} {n : Nat} {cs : List Value} (h : SliceAt w a n cs) : 0 < cs.length → ∃ ad, a = some ad ∧ ∀ j v, cs[j]? = some v → w.cell? (ad.add j) = some v := by
  intro hp
  obtain ⟨b, off, rfl, _, hc⟩ := h.2 (by have := h.1; omega)
  refine ⟨_, rfl, fun j v hj => ?_⟩
  have hl : j < n := by have := (List.getElem?_eq_some_iff.1 hj).1; have := h.1; omega
  have := hc j hl
  rw [hj] at this
  rw [Addr.add_lit]; exact this

theorem SliceAt.copied {w3 : World} {B n : Nat} {e : TypeId} {cur cs : List Value} (hcs : cs.length = n) (hcur : cur.length = n) (h : w3.heap[B]? = some (.cells (splice cur 0 cs).toArray e (0, 0))) : SliceAt w3 (some ⟨B, 0, none⟩) n cs := by
  refine ⟨hcs, fun _ => ⟨B, 0, rfl, (Array.getElem?_eq_some_iff.1 h).1, fun i hi => ?_⟩⟩
  have e1 : splice cur 0 cs = cs := by
    unfold splice
    rw [List.take_zero, List.nil_append, Nat.zero_add, List.drop_of_length_le (by omega), List.append_nil]
  rw [e1] at h
  simp [World.cell?, h]

theorem strVals_oneCell (xs : List ByteArray) : ∀ v ∈ strVals xs, v.oneCell' = true := by
  intro v hv
  simp only [strVals, List.mem_map] at hv
  obtain ⟨s, _, rfl⟩ := hv
  rfl
theorem boolVals_oneCell (xs : List Bool) : ∀ v ∈ boolVals xs, v.oneCell' = true := by
  intro v hv
  simp only [boolVals, List.mem_map] at hv
  obtain ⟨s, _, rfl⟩ := hv
  rfl

set_option maxRecDepth 100000 in
set_option maxHeartbeats 8000000 in
theorem law_any (a0 a1 : Option Addr) (n0 c0 n1 c1 : Nat) (es xs : List ByteArray) (w : World) (h0 : n0 ≤ 9223372036854775807) (h1 : n1 ≤ 9223372036854775807)
    (s0 : SliceAt w a0 n0 (strVals es)) (s1 : SliceAt w a1 n1 (strVals xs)) :
    Calls Try.prog 4 #[.slice a0 n0 c0, .slice a1 n1 c1] w fun e w' => e = .returned (.bool true) ∧ Below w.heap.size w w' := by
  have S0 : Hid (SliceAt w a0 n0 (strVals es)) := s0
  have S1 : Hid (SliceAt w a1 n1 (strVals xs)) := s1
  clear s0 s1
  go_enter Try.func4, Try.ntmps4
  go_wp2_with fail
  refine (bytes_any a0 a1 n0 c0 n1 c1 es xs w h0 h1 S0.out S1.out).mono ?_
  rintro e w' ⟨⟨b, rfl, hb⟩, hw'⟩
  rw [hw']
  clear hw'
  have HB : Hid (b = true → n0 ≤ 1048576 ∧ n1 ≤ 1048576 ∧ (∀ s, s ∈ es → s.size ≤ 1048576) ∧ ∀ s, s ∈ xs → s.size ≤ 1048576) := hb
  clear hb
  cases b
  · go_wp2_with fail
    go_ret
    exact ⟨rfl, Below.refl _ _⟩
  clear h0 h1
  obtain ⟨h0, h1, hES, hXS⟩ := HB.out rfl
  have HES : Hid (∀ s ∈ es, s.size ≤ 1048576) := hES
  have HXS : Hid (∀ s ∈ xs, s.size ≤ 1048576) := hXS
  have HLE : Hid (es.length = n0) := S0.out.len
  have HLX : Hid (xs.length = n1) := S1.out.len
  clear HB hES hXS
  go_wp2_with fail
  refine (text_any a0 a1 n0 c0 n1 c1 es xs w h0 h1 S0.out S1.out).mono ?_
  rintro e w' ⟨⟨n, b, rfl⟩, hw'⟩
  rw [hw']
  clear hw'
  cases b
  · go_wp2_with fail
    go_ret
    exact ⟨rfl, Below.refl _ _⟩
  have nq22 := fun (w : World) (a : Option Addr) (n c : Nat) => run_neq_slice_nil_any (P := Try.prog) w 22 9 a n c 0 0 Try.underlying22
  obtain ⟨i9, hi9, hz0, hz1, hz2⟩ := info_parts Try.info9
  go_upto_if 30 with (go_in)
  go_cut [0] (fun s wx => (∃ a' c', s = .slice a' n0 c' ∧ SliceAt wx a' n0 (strVals es)) ∧ Below w.heap.size w wx)
  case first =>
    have T : Hid (SliceAt w a0 n0 (strVals es)) := S0.out
    cases a0 with
    | none =>
      go_wp2
      go_meet
      case rel => exact ⟨⟨_, _, rfl, T.out⟩, Below.refl _ _⟩
    | some a =>
      have hlen : (strVals es).length = n0 := T.out.1
      go_wp2_with (first | (at_make; refine wpList_make_full _ rfl _ _ 22 rfl w.heap.size 9 i9 (.string ⟨#[]⟩) 1 Try.underlying22 hi9 hz0 hz1 .i64 .i64 _ _ n0 rfl rfl rfl rfl (by rw [hz2]; omega) (by unfold maxLen; omega) (Nat.le_refl _) ?_; intro w2 hown2 hgrow2; obtain ⟨cur, hcur, hblk⟩ := own_block hown2; have hb2 : Below w.heap.size w w2 := (Below.refl _ _).grown hgrow2 (Nat.le_refl _) (fun k hk => by cases hk); have HB2 : Hid (Below w.heap.size w w2) := hb2; clear hown2 hgrow2 hb2) | (refine wpList_copy_splice rfl (.tmp 34) (.tmp 35) 22 22 rfl 9 Try.underlying22 Try.size9 _ _ _ _ _ _ rfl rfl w.heap.size 0 cur 9 hblk (strVals es) (by rw [hlen]; exact (Nat.min_self _).symm) (fun hp => ⟨rfl, (T.out.below HB2.out).src hp⟩) (by omega) (strVals_oneCell _) w.heap.size w HB2.out (Nat.le_refl _) ?_; intro w3 hblk3 hb3))
      have HS : Hid (SliceAt w3 (some ⟨w.heap.size, 0, none⟩) n0 (strVals es)) := SliceAt.copied hlen hcur hblk3.out
      have HB3 : Hid (Below w.heap.size w w3) := hb3
      clear hblk3 hb3 hblk hcur
      go_wp2
      go_meet
      case rel => exact ⟨⟨_, _, rfl, HS.out⟩, HB3.out⟩
  case rest =>
    obtain ⟨⟨d0, e0, rfl, hS⟩, hB⟩ := hcut
    obtain ⟨W1, hW⟩ : ∃ W1, W1 = wc := ⟨_, rfl⟩
    subst hW
    have R0 : Hid (SliceAt W1 d0 n0 (strVals es)) := hS
    have B1 : Hid (Below w.heap.size w W1) := hB
    clear hS hB
    go_upto_if 39 with (go_in)
    go_cut [1] (fun s wx => (∃ a' c', s = .slice a' n1 c' ∧ SliceAt wx a' n1 (strVals xs)) ∧ Below W1.heap.size W1 wx)
    case first =>
      have T : Hid (SliceAt W1 a1 n1 (strVals xs)) := S1.out.below B1.out
      cases a1 with
      | none =>
        go_wp2
        go_meet
        case rel => exact ⟨⟨_, _, rfl, T.out⟩, Below.refl _ _⟩
      | some a =>
        have hlen : (strVals xs).length = n1 := T.out.1
        go_wp2_with (first | (at_make; refine wpList_make_full _ rfl _ _ 22 rfl W1.heap.size 9 i9 (.string ⟨#[]⟩) 1 Try.underlying22 hi9 hz0 hz1 .i64 .i64 _ _ n1 rfl rfl rfl rfl (by rw [hz2]; omega) (by unfold maxLen; omega) (Nat.le_refl _) ?_; intro w2 hown2 hgrow2; obtain ⟨cur, hcur, hblk⟩ := own_block hown2; have hb2 : Below W1.heap.size W1 w2 := (Below.refl _ _).grown hgrow2 (Nat.le_refl _) (fun k hk => by cases hk); have HB2 : Hid (Below W1.heap.size W1 w2) := hb2; clear hown2 hgrow2 hb2) | (refine wpList_copy_splice rfl (.tmp 43) (.tmp 44) 22 22 rfl 9 Try.underlying22 Try.size9 _ _ _ _ _ _ rfl rfl W1.heap.size 0 cur 9 hblk (strVals xs) (by rw [hlen]; exact (Nat.min_self _).symm) (fun hp => ⟨rfl, (T.out.below HB2.out).src hp⟩) (by omega) (strVals_oneCell _) W1.heap.size W1 HB2.out (Nat.le_refl _) ?_; intro w3 hblk3 hb3))
        have HS : Hid (SliceAt w3 (some ⟨W1.heap.size, 0, none⟩) n1 (strVals xs)) := SliceAt.copied hlen hcur hblk3.out
        have HB3 : Hid (Below W1.heap.size W1 w3) := hb3
        clear hblk3 hb3 hblk hcur
        go_wp2
        go_meet
        case rel => exact ⟨⟨_, _, rfl, HS.out⟩, HB3.out⟩
    case rest =>
      obtain ⟨⟨d1, e1, rfl, hS⟩, hB⟩ := hcut
      obtain ⟨W2, hW⟩ : ∃ W2, W2 = wc := ⟨_, rfl⟩
      subst hW
      have R1 : Hid (SliceAt W2 d1 n1 (strVals xs)) := hS
      have R0' : Hid (SliceAt W2 d0 n0 (strVals es)) := R0.out.below hB
      have B2 : Hid (Below w.heap.size w W2) := B1.out.trans (hB.mono B1.out.size)
      clear hS hB S0 S1 R0 B1 nq22 hi9 hz0 hz1 hz2
      go_wp2_with fail
      go_loop [9, 10] (fun b i => ∃ (k : Nat) (bb : Bool), k ≤ n0 ∧ i = .int .i64 k ∧ b = .bool bb ∧ (bb = true ↔ EnvHolds es k)) (fun _ i => n0 - (intOf i).toNat)
      case atStart => exact ⟨0, false, Nat.zero_le _, rfl, rfl, ⟨fun h => (by cases h), fun ⟨i, _, hi, _⟩ => absurd hi (by omega)⟩⟩
      case round =>
        obtain ⟨k, bb, hk, rfl, rfl, hbb⟩ := hrel
        have HBB : Hid (bb = true ↔ EnvHolds es k) := hbb
        clear hbb
        by_cases hkn : k < n0
        · obtain ⟨bk, off, s, hea, hsk, hcell⟩ := R0'.out.str hkn
          have hss : s.size ≤ 1048576 := HES.out s (List.mem_of_getElem? hsk)
          have HSU := EnvHolds.succ hsk
          have HSU' : Hid (EnvHolds es (k + 1) ↔ EnvHolds es k ∨ Holds s) := HSU
          clear hsk HSU R0'
          subst hea
          rcases hix : Lib.indexByte s.data.toList 61 with q | q
          · have hqs : q < s.size := by
              have g1 := (Lib.indexByte_some (o := q) hix).1
              have g2 := (List.getElem?_eq_some_iff.1 g1).1
              rwa [← Lib.size_eq] at g2
            have hqs' : q + 1 ≤ s.size := hqs
            have HFE : Hid (Calls Try.prog 11 #[.string s] W2 fun e w' => e = .returned (.int .i64 (q : Int)) ∧ w' = W2) := by
              have h := firstEq_any s W2 hss
              rw [hix] at h; exact h
            have HSB : Hid (Calls Try.prog 12 #[.string (s.extract (q + 1) s.size), .string ⟨#[80, 65, 84, 84, 69, 82, 78]⟩] W2 fun e w' => SubSays (s.extract (q + 1) s.size) word e ∧ w' = W2) :=
              hasSub_any (s.extract (q + 1) s.size) word W2 (by rw [ByteArray.size_extract]; omega) (by decide) (by decide)
            have HHo : Hid (Holds s ↔ ∃ j, OccAt word.data.toList (s.extract (q + 1) s.size).data.toList j) := by
              constructor
              · rintro ⟨q', h1, h2⟩
                have : q' = q := by rw [hix] at h1; exact (Int.ofNat.inj h1).symm
                subst this; exact h2
              · intro h; exact ⟨q, hix, h⟩
            clear hix
            go_wp2_with first
              | (go_at_call 11; refine Calls.mono HFE.out ?_; rintro e w' ⟨rfl, hw'⟩; rw [hw']; clear hw')
              | (go_at_call 12; refine Calls.mono HSB.out ?_; rintro e w' ⟨⟨b2, rfl, hb2⟩, hw'⟩; rw [hw']; clear hw'; have HB2 : Hid (b2 = true ↔ ∃ j, OccAt word.data.toList (s.extract (q + 1) s.size).data.toList j) := hb2; clear hb2)
            · rename_i hb2
              go_round
              case rel => exact ⟨k + 1, true, by omega, by go_num, rfl, ⟨fun _ => HSU'.out.2 (Or.inr (HHo.out.2 (HB2.out.1 hb2))), fun _ => rfl⟩⟩
              case measure => simp [intOf]; omega
            · rename_i hb2
              have HB1 : Hid (bb = true ↔ EnvHolds es (k + 1)) := by
                show bb = true ↔ EnvHolds es (k + 1)
                rw [HSU'.out, HBB.out]
                refine ⟨Or.inl, fun h => h.elim id (fun hh => ?_)⟩
                have := HB2.out.2 (HHo.out.1 hh)
                rw [hb2] at this
                cases this
              go_round
              case rel => exact ⟨k + 1, bb, by omega, by go_num, rfl, HB1.out⟩
              case measure => simp [intOf]; omega
          · have hm1 : Lib.indexByte s.data.toList 61 = -1 := by
              have := Lib.indexByte_ge s.data.toList 61
              rw [hix] at this ⊢
              omega
            have HFE : Hid (Calls Try.prog 11 #[.string s] W2 fun e w' => e = .returned (.int .i64 (-1)) ∧ w' = W2) := by
              have h := firstEq_any s W2 hss
              rw [hm1] at h; exact h
            have HB1 : Hid (bb = true ↔ EnvHolds es (k + 1)) := by
              show bb = true ↔ EnvHolds es (k + 1)
              rw [HSU'.out, HBB.out]
              exact ⟨Or.inl, fun h => h.elim id (fun ⟨q', h1, _⟩ => by omega)⟩
            clear hix hm1
            go_wp2_with (go_at_call 11; refine Calls.mono HFE.out ?_; rintro e w' ⟨rfl, hw'⟩; rw [hw']; clear hw')
            go_round
            case rel => exact ⟨k + 1, bb, by omega, by go_num, rfl, HB1.out⟩
            case measure => simp [intOf]; omega
        have HBE : Hid (bb = true ↔ EnvHolds es n0) := by
          have e : k = n0 := by omega
          have h := HBB.out
          rw [e] at h; exact h
        clear HBB
        go_wp2_with fail
        go_loop [9, 12] (fun b i => ∃ (k : Nat) (bb : Bool), 1 ≤ k ∧ k ≤ max n1 1 ∧ i = .int .i64 k ∧ b = .bool bb ∧ (bb = true ↔ (EnvHolds es n0 ∨ ArgsHold xs k))) (fun _ i => n1 - (intOf i).toNat)
        case atStart => exact ⟨1, bb, Nat.le_refl _, by omega, rfl, rfl, HBE.out.trans ⟨Or.inl, fun h => h.elim id (fun ⟨i, _, g1, g2, _⟩ => absurd g2 (by omega))⟩⟩
        case round =>
          clear hk hkn HBE
          obtain ⟨k2, b2, hk1, hk2, rfl, rfl, hbb⟩ := hrel
          have HBB : Hid (b2 = true ↔ (EnvHolds es n0 ∨ ArgsHold xs k2)) := hbb
          clear hbb
          by_cases hkn : k2 < n1
          · obtain ⟨bk, off, s, hea, hsk, hcell⟩ := R1.out.str hkn
            have hss : s.size ≤ 1048576 := HXS.out s (List.mem_of_getElem? hsk)
            have HSU' : Hid (ArgsHold xs (k2 + 1) ↔ ArgsHold xs k2 ∨ ArgHolds s) := ArgsHold.succ hk1 hsk
            have HSB : Hid (Calls Try.prog 12 #[.string s, .string ⟨#[80, 65, 84, 84, 69, 82, 78]⟩] W2 fun e w' => SubSays s word e ∧ w' = W2) := hasSub_any s word W2 hss (by decide) (by decide)
            clear hsk R1
            subst hea
            go_wp2_with (go_at_call 12; refine Calls.mono HSB.out ?_; rintro e w' ⟨⟨b3, rfl, hb3⟩, hw'⟩; rw [hw']; clear hw'; have HB3 : Hid (b3 = true ↔ ArgHolds s) := hb3; clear hb3)
            · rename_i hb3
              go_round
              case rel => exact ⟨k2 + 1, true, by omega, by omega, by go_num, rfl, ⟨fun _ => Or.inr (HSU'.out.2 (Or.inr (HB3.out.1 hb3))), fun _ => rfl⟩⟩
              case measure => simp [intOf]; omega
            · rename_i hb3
              have HB1 : Hid (b2 = true ↔ (EnvHolds es n0 ∨ ArgsHold xs (k2 + 1))) := by
                show b2 = true ↔ _
                rw [HSU'.out, HBB.out]
                refine ⟨fun h => h.elim Or.inl (fun h => Or.inr (Or.inl h)), fun h => h.elim Or.inl (fun h => h.elim Or.inr (fun hh => ?_))⟩
                have := HB3.out.2 hh
                rw [hb3] at this
                cases this
              go_round
              case rel => exact ⟨k2 + 1, b2, by omega, by omega, by go_num, rfl, HB1.out⟩
              case measure => simp [intOf]; omega
          have HWN : Hid (b2 = true ↔ (EnvHolds es n0 ∨ ArgsHold xs n1)) := by
            show b2 = true ↔ _
            rw [HBB.out]
            by_cases h9 : 1 ≤ n1
            · have e : k2 = n1 := by omega
              rw [e]
            · have e1 : ∀ k, k ≤ 1 → ¬ ArgsHold xs k := fun k hk => fun ⟨i, _, g1, g2, _⟩ => by omega
              exact ⟨fun h => h.elim Or.inl (fun h => absurd h (e1 _ (by omega))), fun h => h.elim Or.inl (fun h => absurd h (e1 _ (by omega)))⟩
          clear HBB
          have HAL : Hid (Below W2.heap.size W2 (W2.alloc (.cells #[.slice d0 n0 e0, .slice d1 n1 e1, .nilIface, .bool false, .int .i64 0] 37))) := (Below.refl _ _).alloc (Nat.le_refl _) _
          have HHP : Hid (Calls Try.prog 13 #[.pointer (some ⟨W2.heap.size, 0, none⟩)] (W2.alloc (.cells #[.slice d0 n0 e0, .slice d1 n1 e1, .nilIface, .bool false, .int .i64 0] 37)) fun e w' => e = .returned (.bool b2) ∧ Below W2.heap.size W2 w') := by
            refine (hasPattern_any _ W2.heap.size d0 n0 e0 es d1 n1 e1 xs (cmd_lit W2 d0 n0 e0 es d1 n1 e1 xs _ _ _ R0'.out R1.out) h0 h1 HES.out HXS.out).mono ?_
            intro e w' h
            obtain ⟨g1, g2⟩ := has_want h HLE.out HLX.out HWN.out
            exact ⟨g1, HAL.out.trans (g2.mono HAL.out.size)⟩
          clear HAL
          go_wp2_with (go_at_call 13; refine Calls.mono HHP.out ?_; rintro e w3 ⟨rfl, hb3⟩; have HB3 : Hid (Below W2.heap.size W2 w3) := hb3; clear hb3)
          have HZZ : Hid (Calls Try.prog 9 #[.slice d0 n0 e0, .slice d1 n1 e1, .string ⟨#[80, 65, 84, 84, 69, 82, 78]⟩, .string ⟨#[120]⟩] w3 fun e w' => ExpPost (Says word ex) w3 n0 es d1 n1 xs e w') :=
            zzexpand_single word ex w3 d0 n0 e0 es d1 n1 e1 xs (by decide) (by decide) (by decide) (R0'.out.below HB3.out) (R1.out.below HB3.out) h0 h1 HES.out HXS.out
          refine Calls.mono HZZ.out ?_
          rintro e w4 ⟨x, v, ds, fs, rfl, hx, hrx, hed, hargs, had, hb4⟩
          obtain ⟨ya, yc, rfl, hsl⟩ := hargs.slice
          have HB4 : Hid (Below w.heap.size w w4) := B2.out.trans ((HB3.out.trans (hb4.mono HB3.out.size)).mono B2.out.size)
          have HAL : Hid (Below w4.heap.size w4 (w4.alloc (.cells #[.slice (some ⟨x, 0, none⟩) n0 n0, .slice ya n1 yc, .nilIface, .bool false, .int .i64 0] 37))) := (Below.refl _ _).alloc (Nat.le_refl _) _
          have HHP2 : Hid (Calls Try.prog 13 #[.pointer (some ⟨w4.heap.size, 0, none⟩)] (w4.alloc (.cells #[.slice (some ⟨x, 0, none⟩) n0 n0, .slice ya n1 yc, .nilIface, .bool false, .int .i64 0] 37)) fun e w' => e = .returned (.bool false) ∧ Below w4.heap.size w4 w') := by
            refine (hasPattern_any _ w4.heap.size (some ⟨x, 0, none⟩) n0 n0 ds ya n1 yc fs (cmd_lit w4 _ n0 n0 ds ya n1 yc fs _ _ _ hrx.slice hsl) h0 h1 (env_short (by decide) hrx.1 hed HES.out) (args_short (by decide) HLX.out hsl.len had HXS.out)).mono ?_
            intro e w' h
            obtain ⟨g1, g2⟩ := has_want (b := false) h hrx.1 hsl.len ⟨fun h => (by cases h), fun h => (h.elim (fun a => absurd a (env_gone hed)) (fun a => absurd a (args_gone HLX.out had)))⟩
            exact ⟨g1, HAL.out.trans (g2.mono HAL.out.size)⟩
          clear hx hrx hed hargs had hb4 hsl HAL HZZ HHP
          go_wp2_with (go_at_call 13; refine Calls.mono HHP2.out ?_; rintro e w5 ⟨rfl, hb5⟩; have HB5 : Hid (Below w4.heap.size w4 w5) := hb5; clear hb5)
          go_ret
          exact ⟨rfl, HB4.out.trans (HB5.out.mono HB4.out.size)⟩

end Go.Proofs.Qxb6614432a
