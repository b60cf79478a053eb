/-
  THE WALK OF (*Command).expand (15).
-/
import Derived.Test.Qxb6614432aExpA
namespace Go.Proofs.Qxb6614432a
open Go.RowKit

/-- what stands of the command ahead of the call: its two slices, and what they hold -/
structure Cmd (w0 : World) (cb : Nat) (ea : Option Addr) (en ec : Nat) (es : List ByteArray) (aa : Option Addr) (an ac : Nat) (xs : List ByteArray) : Prop where
  lt : cb < w0.heap.size
  e : w0.cell? ⟨cb, 0, none⟩ = some (.slice ea en ec)
  a : w0.cell? ⟨cb, 1, none⟩ = some (.slice aa an ac)
  es : SliceAt w0 ea en (strVals es)
  as' : SliceAt w0 aa an (strVals xs)

theorem Cmd.below {w0 w1 : World} {cb : Nat} {ea : Option Addr} {en ec : Nat} {es : List ByteArray} {aa : Option Addr} {an ac : Nat} {xs : List ByteArray} (h : Cmd w0 cb ea en ec es aa an ac xs) (hb : Below w0.heap.size w0 w1) : Cmd w1 cb ea en ec es aa an ac xs :=
  ⟨Nat.lt_of_lt_of_le h.lt hb.size, (hb.cell (p := ⟨cb, 0, none⟩) h.lt).trans h.e, (hb.cell (p := ⟨cb, 1, none⟩) h.lt).trans h.a, h.es.below hb, h.as'.below hb⟩

def ArgsRow (w' w0 : World) (aa : Option Addr) (an : Nat) (v : Value) (fs : List ByteArray) (x : Nat) : Prop :=
  (aa = none ∧ v = .slice none 0 0 ∧ an = 0 ∧ fs = []) ∨ (∃ y yc, aa.isSome = true ∧ v = .slice (some ⟨y, 0, none⟩) an yc ∧ w0.heap.size ≤ y ∧ y ≠ x ∧ RowHas w' y an fs)
def ExpPost (Says : ByteArray → ByteArray → Prop) (w0 : World) (en : Nat) (es : List ByteArray) (aa : Option Addr) (an : Nat) (xs : List ByteArray) (e : Ending) (w' : World) : Prop :=
  ∃ (x : Nat) (v : Value) (ds fs : List ByteArray), e = .returned (.tuple #[.slice (some ⟨x, 0, none⟩) en en, v]) ∧ w0.heap.size ≤ x ∧ RowHas w' x en ds ∧ EnvDone Says es ds en ∧ ArgsRow w' w0 aa an v fs x ∧ ArgsDone Says xs fs an ∧ Below w0.heap.size w0 w'

/-- the replacer, away from the row x -/
def Away (R : World → List Nat → Prop) (w0 w : World) (x : Nat) : Prop := ∃ F, R w F ∧ x ∉ F ∧ ∀ k ∈ F, w0.heap.size ≤ k

theorem Away.set {b : Nat} {R : World → List Nat → Prop} {Says : ByteArray → ByteArray → Prop} (hR : Replaces b R Says) {w0 w : World} {x : Nat} (h : Away R w0 w x) (i : Nat) (v : Value) : Away R w0 (w.setCell ⟨x, i, none⟩ v) x := by
  obtain ⟨F, h1, h2, h3⟩ := h
  exact ⟨F, hR.same _ _ _ h1 (fun k hk => Below.heap_setCell _ _ _ _ (fun e => h2 (by cases e; exact hk))), h2, h3⟩
theorem Away.drew {b : Nat} {R : World → List Nat → Prop} {Says : ByteArray → ByteArray → Prop} (hR : Replaces b R Says) {w0 w : World} {x : Nat} (h : Away R w0 w x) : Away R w0 w.drew x := by
  obtain ⟨F, h1, h2, h3⟩ := h
  exact ⟨F, hR.same _ _ _ h1 (fun k _ => rfl), h2, h3⟩

/-- one call of Replace, the row x by -/
def StepPost (R : World → List Nat → Prop) (Says : ByteArray → ByteArray → Prop) (s : ByteArray) (b : Nat) (w0 w : World) (x n : Nat) (xs : List ByteArray) (e : Ending) (w' : World) : Prop :=
  ∃ o, e = .returned (.string o) ∧ Says s o ∧ Away R w0 w' x ∧ RowHas w' x n xs ∧ Below w0.heap.size w0 w' ∧ w.grownBy w' (some b)
theorem step_any {b : Nat} {R : World → List Nat → Prop} {Says : ByteArray → ByteArray → Prop} (hR : Replaces b R Says) {w0 w : World} {x n : Nat} {xs : List ByteArray} (h : Away R w0 w x) (hx : RowHas w x n xs) (hb : Below w0.heap.size w0 w) (s : ByteArray) (hs : s.size ≤ 1048576) :
    Calls Try.prog 19 #[.pointer (some ⟨b, 0, none⟩), .string s] w fun e w' => StepPost R Says s b w0 w x n xs e w' := by
  obtain ⟨F, h1, h2, h3⟩ := h
  have hbF := hR.mem _ _ h1
  refine (hR.call w F s hs h1).mono ?_
  rintro e w' ⟨o, rfl, h4, ⟨F', h5, h6⟩, h7⟩
  refine ⟨o, rfl, h4, ⟨F', h5, fun hm => ?_, fun k hk => ?_⟩, hx.same (h7.block x hx.lt (fun e => ?_)), hb.grown h7 hb.size (fun k hk => ?_), h7⟩
  · rcases h6 x hm with h8 | h8
    · exact h2 h8
    · have := hx.lt; omega
  · rcases h6 k hk with h8 | h8
    · exact h3 k h8
    · have := hb.size; omega
  · cases e; exact h2 hbF
  · cases hk; exact h3 _ hbF

def ClonePost (w : World) (an : Nat) (xs : List ByteArray) (e : Ending) (w' : World) : Prop := ∃ y yc, e = .returned (.slice (some ⟨y, 0, none⟩) an yc) ∧ w.heap.size ≤ y ∧ RowHas w' y an xs ∧ Below w.heap.size w w'
theorem clone_some (w : World) (ad : Addr) (an ac : Nat) (xs : List ByteArray) (h : SliceAt w (some ad) an (strVals xs)) (han : an ≤ 1048576) :
    Calls Try.prog 20 #[.slice (some ad) an ac] w fun e w' => ClonePost w an xs e w' := by
  have hl := h.len
  have fin : ∀ (v' : Value) (w' : World), w'.ownsRow w.heap.size 9 1 v' an (strVals xs) → v' ≠ .slice none 0 0 → Below w.heap.size w w' → ClonePost w an xs (.returned v') w' := by
    intro v' w' h1 h2 h3
    rcases h1.2 with ⟨h4, _⟩ | ⟨g, cap, cur, rfl, h5, _⟩
    · exact absurd h4 h2
    · exact ⟨g, cap, rfl, h5, RowHas.own h1, h3⟩
  by_cases h0 : an = 0
  · subst h0
    have hx : xs = [] := List.eq_nil_of_length_eq_zero hl
    subst hx
    refine (Try.slices_Clone_string_zero ad ac w).mono ?_
    rintro e w' ⟨v', rfl, h1, h2, h3⟩
    exact fin v' w' h1 h2 h3
  · obtain ⟨b2, off, hv, _, hc⟩ := h.2 (by omega)
    cases hv
    refine (Try.slices_Clone_string b2 off an ac xs w (by omega) (by omega) (fun j hj => ?_)).mono ?_
    · rw [hc j (by omega)]
      simp [List.getD_eq_getElem?_getD, hj]
    · rintro e w' ⟨v', rfl, h1, h2, h3⟩
      rw [List.take_of_length_le (by omega)] at h1
      exact fin v' w' h1 h2 h3

set_option maxRecDepth 100000 in
set_option maxHeartbeats 4000000 in
theorem expand_any {b : Nat} {R : World → List Nat → Prop} {Says : ByteArray → ByteArray → Prop} (hR : Replaces b R Says) (w0 w : World) (cb : Nat) (ea : Option Addr) (en ec : Nat) (es : List ByteArray) (aa : Option Addr) (an ac : Nat) (xs : List ByteArray)
    (hc : Cmd w0 cb ea en ec es aa an ac xs) (hbel : Below w0.heap.size w0 w) (F : List Nat) (hF : R w F) (hFge : ∀ k ∈ F, w0.heap.size ≤ k) (hen : en ≤ 1048576) (han : an ≤ 1048576) (hes : ∀ s ∈ es, s.size ≤ 1048576) (hxs : ∀ s ∈ xs, s.size ≤ 1048576) :
    Calls Try.prog 15 #[.pointer (some ⟨cb, 0, none⟩), .pointer (some ⟨b, 0, none⟩)] w fun e w' => ExpPost Says w0 en es aa an xs e w' := by
  obtain ⟨i9, hi, hz0, hz1, hz2⟩ := info_parts Try.info9
  have HR : Hid (Replaces b R Says) := hR
  have HC : Hid (Cmd w0 cb ea en ec es aa an ac xs) := hc
  have HB : Hid (Below w0.heap.size w0 w) := hbel
  have HF : Hid (R w F) := hF
  have HFge : Hid (∀ k ∈ F, w0.heap.size ≤ k) := hFge
  have HES : Hid (∀ s ∈ es, s.size ≤ 1048576) := hes
  have HXS : Hid (∀ s ∈ xs, s.size ≤ 1048576) := hxs
  have hc0 := (hc.below hbel).e
  clear hR hc hbel hF hFge hes hxs
  go_enter Try.func15, Try.ntmps15
  go_wp2_with (at_make
               refine wpList_make_full _ rfl _ _ 22 rfl w.heap.size 9 i9 (.string ⟨#[]⟩) 1 Try.underlying22 hi hz0 hz1 .i64 .i64 _ _ en rfl rfl rfl rfl (by rw [hz2]; omega) (by unfold maxLen; omega) (Nat.le_refl _) ?_
               intro w1 hown hgrow
               have HRow : Hid (RowHas w1 w.heap.size en (List.replicate en ⟨#[]⟩)) := by
                 have e : (madeCells (Value.string ⟨#[]⟩).cells (en * 1)).toList = List.replicate en (.string ⟨#[]⟩) := by rw [Nat.mul_one]; exact toList_madeCells_one _ _
                 rw [e] at hown
                 exact RowHas.made hown
               have HB1 : Hid (Below w0.heap.size w0 w1) := HB.out.grown hgrow HB.out.size (fun k hk => by cases hk)
               have HA1 : Hid (Away R w0 w1 w.heap.size) := ⟨F, HR.out.same _ _ _ HF.out (fun k hk => hgrow.block k (HR.out.lt _ _ HF.out k hk) (fun e => by cases e)), fun hm => Nat.lt_irrefl _ (HR.out.lt _ _ HF.out _ hm), HFge.out⟩
               have hd0 := (HC.out.below HB1.out).e
               clear hown hgrow)
  have HNw : Hid (w0.heap.size ≤ w.heap.size) := HB.out.size
  clear hc0 HF HFge HB
  go_loopw [21] (fun i wr => ∃ (k : Nat) (ds : List ByteArray), i = .int .i64 k ∧ k ≤ en ∧ EnvDone Says es ds k ∧ RowHas wr w.heap.size en ds ∧ Away R w0 wr w.heap.size ∧ Below w0.heap.size w0 wr) (fun i _ => en - (intOf i).toNat)
  case atStart => exact ⟨0, _, rfl, Nat.zero_le _, fun i hi => absurd hi (by omega), HRow.out, HA1.out, HB1.out⟩
  case round =>
    clear hd0 HRow HA1 HB1
    obtain ⟨k, ds, rfl, hk, hed, hrow, haw, hbel⟩ := hrel
    have HED : Hid (EnvDone Says es ds k) := hed
    have HRow : Hid (RowHas wr w.heap.size en ds) := hrow
    have HA : Hid (Away R w0 wr w.heap.size) := haw
    have HB : Hid (Below w0.heap.size w0 wr) := hbel
    clear hed hrow haw hbel
    by_cases hkn : k < en
    · obtain ⟨bb, off, s, hea, hsk, hcell⟩ := (HC.out.below HB.out).es.str hkn
      have HSK : Hid (es[k]? = some s) := hsk
      have hss : s.size ≤ 1048576 := HES.out s (List.mem_of_getElem? hsk)
      have HDL : Hid (k < ds.length) := by have := HRow.out.1; show k < ds.length; omega
      obtain ⟨old, _, hoc⟩ := HRow.out.cell hkn
      have hof := HRow.out.fz k
      clear hsk
      subst hea
      rcases hix : Lib.indexByte s.data.toList 61 with q | q
      · have hqs : q < s.size := by
          have h1 := (Lib.indexByte_some (o := q) hix).1
          have h2 := (List.getElem?_eq_some_iff.1 h1).1
          rwa [← Lib.size_eq] at h2
        obtain ⟨q1, hq1⟩ : ∃ q1 : Nat, q1 = q + 1 := ⟨_, rfl⟩
        have hqe : (q : Int) + 1 = (q1 : Int) := by omega
        have hqs' : q1 ≤ s.size := by omega
        have HQ1 : Hid (q1 = q + 1) := hq1
        have hwr : IntKind.i64.wrap (q1 : Int) = (q1 : Int) := by rw [IntKind.wrap_i64]; omega
        clear hq1
        have HST : Hid (∀ W : World, W.heap = wr.heap → W.os = wr.os → W.tape = wr.tape → W.output = wr.output → Calls Try.prog 19 #[.pointer (some ⟨b, 0, none⟩), .string (s.extract q1 s.size)] W fun e w' => StepPost R Says (s.extract q1 s.size) b w0 W w.heap.size en ds e w') := by
          intro W h1 h2 h3 h4
          refine step_any HR.out ?_ ?_ ?_ _ (by rw [ByteArray.size_extract]; omega)
          · obtain ⟨F, a1, a2, a3⟩ := HA.out
            exact ⟨F, HR.out.same _ _ _ a1 (fun k _ => by rw [h1]), a2, a3⟩
          · exact HRow.out.same (by rw [h1])
          · exact ⟨h2.trans HB.out.os, h3.trans HB.out.tape, h4.trans HB.out.output, by rw [h1]; exact HB.out.size, fun k hk => by rw [h1]; exact HB.out.block k hk⟩
        have HIX : Hid (Lib.indexByte s.data.toList 61 = (q : Int)) := hix
        have hix' : Lib.indexByte s.data.toList (61 : Int).toNat.toUInt8 = (q : Int) := hix
        clear hix
        clear hoc hof
        go_wp2_with (go_at_call 18; refine (Try.strings_IndexByte _ _ _).mono ?_; rintro e w' ⟨rfl, hw'⟩; rw [hw', hix']; clear hw')
        go_region_with (go_at_call 19
                        refine Calls.mono (HST.out _ rfl rfl rfl rfl) ?_
                        rintro e w2 ⟨o, rfl, hso, ha2, hr2, hb2, _⟩
                        have HED1 : Hid (EnvDone Says es (ds.set k (s.extract 0 q1 ++ o)) (k + 1)) := HED.out.step HDL.out HSK.out (Or.inr ⟨q, HIX.out, hqs, o, by rw [← HQ1.out]; exact hso, by rw [HQ1.out]⟩)
                        have HRow2 : Hid (RowHas (w2.setCell ⟨w.heap.size, k, none⟩ (.string (s.extract 0 q1 ++ o))) w.heap.size en (ds.set k (s.extract 0 q1 ++ o))) := hr2.set k _
                        have HA2 : Hid (Away R w0 (w2.setCell ⟨w.heap.size, k, none⟩ (.string (s.extract 0 q1 ++ o))) w.heap.size) := ha2.set HR.out k _
                        have HB2 : Hid (Below w0.heap.size w0 (w2.setCell ⟨w.heap.size, k, none⟩ (.string (s.extract 0 q1 ++ o)))) := hb2.setCell (p := ⟨w.heap.size, k, none⟩) HNw.out _
                        have hosz : ¬ 9223372036854775807 < q1 + o.size := by
                          have h8 := HR.out.size _ _ hso
                          rw [ByteArray.size_extract] at h8
                          omega
                        obtain ⟨old, _, hoc⟩ := hr2.cell hkn
                        have hof := hr2.fz k
                        clear hso ha2 hr2 hb2)
        all_goals
          go_wp2
          go_roundw
          case rel => exact ⟨k + 1, _, by go_num, by omega, HED1.out, HRow2.out, HA2.out, HB2.out⟩
          case measure => simp [intOf]; omega
      · have hm1 : Lib.indexByte s.data.toList 61 = -1 := by
          have := Lib.indexByte_ge s.data.toList 61
          rw [hix] at this ⊢
          omega
        have HED1 : Hid (EnvDone Says es (ds.set k s) (k + 1)) := HED.out.step HDL.out HSK.out (Or.inl ⟨hm1, rfl⟩)
        have hix' : Lib.indexByte s.data.toList (61 : Int).toNat.toUInt8 = -1 := hm1
        clear hix hm1
        have HRow2 : Hid (RowHas (wr.setCell ⟨w.heap.size, k, none⟩ (.string s)) w.heap.size en (ds.set k s)) := HRow.out.set k _
        have HA2 : Hid (Away R w0 (wr.setCell ⟨w.heap.size, k, none⟩ (.string s)) w.heap.size) := HA.out.set HR.out k _
        have HB2 : Hid (Below w0.heap.size w0 (wr.setCell ⟨w.heap.size, k, none⟩ (.string s))) := HB.out.setCell (p := ⟨w.heap.size, k, none⟩) HNw.out _
        go_wp2_with (go_at_call 18; refine (Try.strings_IndexByte _ _ _).mono ?_; rintro e w' ⟨rfl, hw'⟩; rw [hw', hix']; clear hw')
        go_roundw
        case rel => exact ⟨k + 1, _, by go_num, by omega, HED1.out, HRow2.out, HA2.out, HB2.out⟩
        case measure => simp [intOf]; omega
    have HED1 : Hid (EnvDone Says es ds en) := by
      have e : k = en := by omega
      have h := HED.out
      rw [e] at h; exact h
    have hd1 := (HC.out.below HB.out).a
    have HXB : Hid (w.heap.size ≠ b) := by
      obtain ⟨F, a1, a2, a3⟩ := HA.out
      intro e
      exact a2 (e ▸ HR.out.mem _ _ a1)
    clear HED
    rcases aa with _ | ad
    · have hx0 := (HC.out.below HB.out).as'
      have han0 : an = 0 := by
        rcases Nat.eq_zero_or_pos an with h | h
        · exact h
        · obtain ⟨_, _, h1, _⟩ := hx0.2 h
          cases h1
      have HX0 : Hid (xs = []) := List.eq_nil_of_length_eq_zero (by rw [hx0.len]; exact han0)
      have HAN : Hid (an = 0) := han0
      clear hx0 han0
      go_wp2_with (go_at_call 20; refine (Try.slices_Clone_string_nil _ _ _).mono ?_; rintro e w' ⟨rfl, hw'⟩; rw [hw']; clear hw')
      have HEND : Hid (ExpPost Says w0 en es none an xs (.returned (.tuple #[.slice (some ⟨w.heap.size, 0, none⟩) en en, .slice none 0 0])) wr) :=
        ⟨w.heap.size, _, ds, [], rfl, HNw.out, HRow.out, HED1.out, Or.inl ⟨rfl, rfl, HAN.out, rfl⟩, by rw [HX0.out]; intro i s hs; simp at hs, HB.out⟩
      clear hd1 HRow HA HB HED1
      go_loopw [9] (fun i wx => i = .int .i64 1 ∧ ExpPost Says w0 en es none an xs (.returned (.tuple #[.slice (some ⟨w.heap.size, 0, none⟩) en en, .slice none 0 0])) wx) (fun _ _ => 0)
      case atStart => exact ⟨rfl, HEND.out⟩
      case round =>
        clear HEND
        obtain ⟨rfl, he⟩ := hrel
        have HEND : Hid (ExpPost Says w0 en es none an xs (.returned (.tuple #[.slice (some ⟨w.heap.size, 0, none⟩) en en, .slice none 0 0])) wr) := he
        clear he
        go_wp2
        go_ret2
        exact HEND.out
    · have HCL : Hid (Calls Try.prog 20 #[.slice (some ad) an ac] wr fun e w' => ClonePost wr an xs e w') := clone_some wr ad an ac xs (HC.out.below HB.out).as' han
      go_wp2_with (go_at_call 20
                   refine Calls.mono HCL.out ?_
                   rintro e w2 ⟨y, yc, rfl, hy, hry, hb2⟩
                   have HRy : Hid (RowHas w2 y an xs) := hry
                   have HRx : Hid (RowHas w2 w.heap.size en ds) := HRow.out.same (hb2.block _ HRow.out.lt)
                   have HB2 : Hid (Below w0.heap.size w0 w2) := HB.out.trans (hb2.mono HB.out.size)
                   have HA2 : Hid (Away R w0 w2 y) := by
                     obtain ⟨F, a1, a2, a3⟩ := HA.out
                     exact ⟨F, HR.out.same _ _ _ a1 (fun k hk => hb2.block k (HR.out.lt _ _ a1 k hk)), fun hm => by have := HR.out.lt _ _ a1 _ hm; omega, a3⟩
                   have HXY : Hid (y ≠ w.heap.size) := by have h9 := HRow.out.lt; intro e; omega
                   have HYN : Hid (w0.heap.size ≤ y) := Nat.le_trans HB.out.size hy
                   clear hry hb2 hy)
      clear HCL hd1 HRow HA HB
      go_loopw [9] (fun i wx => ∃ (k : Nat) (fs : List ByteArray), i = .int .i64 k ∧ 1 ≤ k ∧ k ≤ max an 1 ∧ ArgsDone Says xs fs k ∧ RowHas wx y an fs ∧ RowHas wx w.heap.size en ds ∧ Away R w0 wx y ∧ Below w0.heap.size w0 wx) (fun i _ => an - (intOf i).toNat)
      case atStart => exact ⟨1, xs, rfl, Nat.le_refl _, by omega, ArgsDone.start _ _, HRy.out, HRx.out, HA2.out, HB2.out⟩
      case round =>
        clear HRy HRx HA2 HB2
        obtain ⟨j, fs, rfl, hj1, hjm, had, hry, hrx, haw, hbel⟩ := hrel
        have HAD : Hid (ArgsDone Says xs fs j) := had
        have HRy : Hid (RowHas wr y an fs) := hry
        have HRx : Hid (RowHas wr w.heap.size en ds) := hrx
        have HA : Hid (Away R w0 wr y) := haw
        have HB : Hid (Below w0.heap.size w0 wr) := hbel
        clear had hry hrx haw hbel
        by_cases hja : j < an
        · obtain ⟨s, hsj, hcell⟩ := HRy.out.cell hja
          have HXL : Hid (xs.length = an) := HC.out.as'.len
          have HSX : Hid (xs[j]? = some s) := by
            have h0 : j < xs.length := by rw [HXL.out]; exact hja
            have h1 : xs[j]? = some xs[j] := List.getElem?_eq_getElem h0
            have h2 := HAD.out.at h1 hsj
            rw [h2]; exact h1
          have hss : s.size ≤ 1048576 := HXS.out s (List.mem_of_getElem? HSX.out)
          have HDL : Hid (j < fs.length) := by have := HRy.out.1; show j < fs.length; omega
          have HST : Hid (Calls Try.prog 19 #[.pointer (some ⟨b, 0, none⟩), .string s] wr fun e w' => StepPost R Says s b w0 wr y an fs e w') := step_any HR.out HA.out HRy.out HB.out s hss
          clear hsj
          go_wp2_with (go_at_call 19
                       refine Calls.mono HST.out ?_
                       rintro e w2 ⟨o, rfl, hso, ha2, hr2, hb2, hg2⟩
                       have HAD1 : Hid (ArgsDone Says xs (fs.set j o) (j + 1)) := HAD.out.step hj1 HDL.out HSX.out hso
                       have HRy2 : Hid (RowHas (w2.setCell ⟨y, j, none⟩ (.string o)) y an (fs.set j o)) := hr2.set j _
                       have HRx2 : Hid (RowHas (w2.setCell ⟨y, j, none⟩ (.string o)) w.heap.size en ds) := (HRx.out.same (hg2.block _ HRx.out.lt (fun e => HXB.out (Option.some.inj e)))).same (Below.heap_setCell _ _ _ _ (fun e => HXY.out e.symm))
                       have HA2 : Hid (Away R w0 (w2.setCell ⟨y, j, none⟩ (.string o)) y) := ha2.set HR.out j _
                       have HB2 : Hid (Below w0.heap.size w0 (w2.setCell ⟨y, j, none⟩ (.string o))) := hb2.setCell (p := ⟨y, j, none⟩) HYN.out _
                       obtain ⟨old, _, hoc⟩ := hr2.cell hja
                       have hof := hr2.fz j
                       clear hso ha2 hr2 hb2 hg2)
          go_roundw
          case rel => exact ⟨j + 1, _, by go_num, by omega, by omega, HAD1.out, HRy2.out, HRx2.out, HA2.out, HB2.out⟩
          case measure => simp [intOf]; omega
        · have HEND : Hid (ExpPost Says w0 en es (some ad) an xs (.returned (.tuple #[.slice (some ⟨w.heap.size, 0, none⟩) en en, .slice (some ⟨y, 0, none⟩) an yc])) wr) := by
            refine ⟨w.heap.size, _, ds, fs, rfl, HNw.out, HRx.out, HED1.out, Or.inr ⟨y, yc, rfl, rfl, HYN.out, HXY.out, HRy.out⟩, ?_, HB.out⟩
            intro i s hs
            obtain ⟨t, h1, h2⟩ := HAD.out i s hs
            refine ⟨t, h1, ?_⟩
            have hil : i < an := by have h3 := (List.getElem?_eq_some_iff.1 hs).1; rw [HC.out.as'.len] at h3; exact h3
            by_cases h4 : 1 ≤ i
            · rw [if_pos ⟨h4, by omega⟩] at h2
              rw [if_pos ⟨h4, hil⟩]; exact h2
            · rw [if_neg (by omega)] at h2
              rw [if_neg (by omega)]; exact h2
          go_wp2
          go_ret2
          exact HEND.out

end Go.Proofs.Qxb6614432a
