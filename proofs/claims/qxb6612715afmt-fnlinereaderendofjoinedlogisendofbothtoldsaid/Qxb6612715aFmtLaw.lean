/-
  THE LAW ITSELF (4): it returns true, whatever the two texts hold.
-/
import Derived.Test.Qxb6612715aFmtLines
namespace Go.Proofs.Qxb6612715aFmt
open Go.RowKit Go.Extern.Stop Go.Stop Go.Extern

def Ended (w : World) (lb : Nat) (t : ByteArray) (aE aT : Addr) : Prop := ∃ sb, (LR w lb sb aE ∧ ¬ Long t.data.toList) ∨ (LR w lb sb aT ∧ Long t.data.toList)
theorem Ended.below {w w' : World} {lb : Nat} {t : ByteArray} {aE aT : Addr} (h : Ended w lb t aE aT) (hb : Below w.heap.size w w') : Ended w' lb t aE aT := by
  obtain ⟨sb, ⟨h1, h2⟩ | ⟨h1, h2⟩⟩ := h
  · exact ⟨sb, Or.inl ⟨h1.below hb, h2⟩⟩
  · exact ⟨sb, Or.inr ⟨h1.below hb, h2⟩⟩

theorem zz_any (F : Interp) (w : World) (hF : F.answers w.tape) (aN aE aT : Addr) (sT : ByteArray) (lb : Nat) (t : ByteArray) (hg : Glob w aN aE aT sT) (h : Ended w lb t aE aT) (lg : Bool) (hl : lg = true ↔ Long t.data.toList) :
    Calls Tryf.prog 7 #[.pointer (some ⟨lb, 0, none⟩)] w fun e w' => e = .returned (.tuple #[.bool true, .bool false, .bool (!lg), .bool lg]) ∧ Below w.heap.size w w' := by
  obtain ⟨sb, ⟨h1, h2⟩ | ⟨h1, h2⟩⟩ := h
  · have e : lg = false := by
      cases lg
      · rfl
      · exact absurd (hl.1 rfl) h2
    subst e
    exact zzend_eof w aN aE aT sT lb sb hg h1
  · have e : lg = true := hl.2 h2
    subst e
    exact zzend_long F w hF aN aE aT sT lb sb hg h1

theorem read_any (w : World) (t : ByteArray) (aN aE aT : Addr) (sT : ByteArray) (ht : t.size ≤ 2097152) (hg : Glob w aN aE aT sT) :
    Calls Tryf.prog 6 #[.string t, .int .i64 0] w fun e w' => ∃ lb, e = .returned (.pointer (some ⟨lb, 0, none⟩)) ∧ Ended w' lb t aE aT ∧ Below w.heap.size w w' :=
  (readToEnd_any w t aN aE aT sT ht hg).mono fun _ _ ⟨lb, sb, h1, h2, h3⟩ => ⟨lb, h1, ⟨sb, h3⟩, h2⟩

theorem long_any (t : ByteArray) (w : World) (ht : t.size ≤ 2097152) (lg : Bool) (hl : lg = true ↔ Long t.data.toList) :
    Calls Tryf.prog 9 #[.string t] w fun e w' => e = .returned (.bool lg) ∧ w' = w := by
  refine (longLine_any t w ht).mono ?_
  rintro e w' ⟨⟨b, rfl, hb⟩, hw⟩
  refine ⟨?_, hw⟩
  have : b = lg := by
    rw [Bool.eq_iff_iff, hb, hl]
  rw [this]

theorem join_long (a b : ByteArray) (la lb : Bool) (ha : la = true ↔ Long a.data.toList) (hb : lb = true ↔ Long b.data.toList) : ((la || lb) = true) ↔ Long (a ++ ⟨#[10]⟩ ++ b).data.toList := by
  have e : (a ++ ⟨#[10]⟩ ++ b).data.toList = a.data.toList ++ (10 :: b.data.toList) := by simp [ByteArray.data_append]
  rw [e, long_join, ← ha, ← hb, Bool.or_eq_true]

set_option maxRecDepth 100000 in
set_option maxHeartbeats 8000000 in
theorem law_at (F : Interp) (a b : ByteArray) (w : World) (hF : F.answers w.tape) (aN aE aT : Addr) (sT : ByteArray) (hg : Glob w aN aE aT sT) (h0 : a.size ≤ 9223372036854775807) (h1 : b.size ≤ 9223372036854775807) (la lb : Bool) (hla : la = true ↔ Long a.data.toList) (hlb : lb = true ↔ Long b.data.toList) :
    Calls Tryf.prog 4 #[.string a, .string b] w fun e w' => e = .returned (.bool true) ∧ Below w.heap.size w w' := by
  have HLA : Hid (la = true ↔ Long a.data.toList) := hla
  have HLB : Hid (lb = true ↔ Long b.data.toList) := hlb
  have HLJ : Hid ((la || lb) = true ↔ Long (a ++ ⟨#[10]⟩ ++ b).data.toList) := join_long a b la lb hla hlb
  have HG : Hid (Glob w aN aE aT sT) := hg
  have HF : Hid (F.answers w.tape) := hF
  clear hla hlb hg hF
  go_enter Tryf.func4, Tryf.ntmps4
  go_wp2_with fail
  refine (bytes_any a b w h0 h1).mono ?_
  rintro e w' ⟨⟨bb, rfl⟩, hw'⟩
  rw [hw']
  clear hw' w'
  cases bb
  · go_wp2_with fail
    go_ret
    exact ⟨rfl, Below.refl _ _⟩
  by_cases ga : (a.size : Int) ≤ 524288
  case neg =>
    go_wp2_with fail
    go_ret
    exact ⟨rfl, Below.refl _ _⟩
  by_cases gb : (b.size : Int) ≤ 524288
  case neg =>
    go_wp2_with fail
    go_ret
    exact ⟨rfl, Below.refl _ _⟩
  go_wp2_with fail
  refine (read_any w a aN aE aT sT (by omega) HG.out).mono ?_
  rintro e w1 ⟨l1, rfl, he1, hb1⟩
  have HE1 : Hid (Ended w1 l1 a aE aT) := he1
  have HB1 : Hid (Below w.heap.size w w1) := hb1
  clear he1 hb1
  go_wp2_with fail
  refine (read_any w1 b aN aE aT sT (by omega) (HG.out.below HB1.out)).mono ?_
  rintro e w2 ⟨l2, rfl, he2, hb2⟩
  have HE2 : Hid (Ended w2 l2 b aE aT) := he2
  have HE1' : Hid (Ended w2 l1 a aE aT) := HE1.out.below hb2
  have HB2 : Hid (Below w.heap.size w w2) := HB1.out.trans (hb2.mono HB1.out.size)
  clear he2 hb2 HE1 HB1
  have hjs : (a ++ ⟨#[10]⟩ ++ b).size = a.size + 1 + b.size := by
    rw [ByteArray.size_append, ByteArray.size_append]
    rfl
  have hcat1 : ¬ (9223372036854775807 : Int) < ((a.size + 1 : Nat) : Int) := by omega
  have hcat2 : ¬ (9223372036854775807 : Int) < ((a.size + 1 + b.size : Nat) : Int) := by omega
  have hsz : (a ++ ⟨#[10]⟩ ++ b).size ≤ 2097152 := by rw [hjs]; omega
  have HR3 : Hid (Calls Tryf.prog 6 #[.string (a ++ ⟨#[10]⟩ ++ b), .int .i64 0] w2 fun e w' => ∃ lb, e = .returned (.pointer (some ⟨lb, 0, none⟩)) ∧ Ended w' lb (a ++ ⟨#[10]⟩ ++ b) aE aT ∧ Below w2.heap.size w2 w') := read_any w2 _ aN aE aT sT hsz (HG.out.below HB2.out)
  clear hsz hjs
  go_wp2_with fail
  refine Calls.mono HR3.out ?_
  rintro e w3 ⟨l3, rfl, he3, hb3⟩
  have Bw3 : Hid (Below w.heap.size w w3) := HB2.out.trans (hb3.mono HB2.out.size)
  have P1 : Hid (Ended w3 l1 a aE aT) := HE1'.out.below hb3
  have P2 : Hid (Ended w3 l2 b aE aT) := HE2.out.below hb3
  have P3 : Hid (Ended w3 l3 (a ++ ⟨#[10]⟩ ++ b) aE aT) := he3
  clear he3 hb3 HE1' HE2 HB2 hcat1 hcat2
  go_wp2_with fail
  refine (zz_any F w3 (by rw [Bw3.out.tape]; exact HF.out) aN aE aT sT l1 a (HG.out.below Bw3.out) P1.out la HLA.out).mono ?_
  rintro e w4 ⟨rfl, hb4⟩
  have Bw4 : Hid (Below w.heap.size w w4) := Bw3.out.trans (hb4.mono Bw3.out.size)
  have R2 : Hid (Ended w4 l2 b aE aT) := P2.out.below hb4
  have R3 : Hid (Ended w4 l3 (a ++ ⟨#[10]⟩ ++ b) aE aT) := P3.out.below hb4
  clear hb4 P2 P3
  go_wp2_with fail
  refine (zz_any F w4 (by rw [Bw4.out.tape]; exact HF.out) aN aE aT sT l2 b (HG.out.below Bw4.out) R2.out lb HLB.out).mono ?_
  rintro e w5 ⟨rfl, hb5⟩
  have Bw5 : Hid (Below w.heap.size w w5) := Bw4.out.trans (hb5.mono Bw4.out.size)
  have S3 : Hid (Ended w5 l3 (a ++ ⟨#[10]⟩ ++ b) aE aT) := R3.out.below hb5
  clear hb5 R3
  go_wp2_with fail
  refine (zz_any F w5 (by rw [Bw5.out.tape]; exact HF.out) aN aE aT sT l3 (a ++ ⟨#[10]⟩ ++ b) (HG.out.below Bw5.out) S3.out (la || lb) HLJ.out).mono ?_
  rintro e w6 ⟨rfl, hb6⟩
  have Bw6 : Hid (Below w.heap.size w w6) := Bw5.out.trans (hb6.mono Bw5.out.size)
  have T3 : Hid (Ended w6 l3 (a ++ ⟨#[10]⟩ ++ b) aE aT) := S3.out.below hb6
  clear hb6 S3
  go_wp2_with fail
  refine (zz_any F w6 (by rw [Bw6.out.tape]; exact HF.out) aN aE aT sT l3 (a ++ ⟨#[10]⟩ ++ b) (HG.out.below Bw6.out) T3.out (la || lb) HLJ.out).mono ?_
  rintro e w7 ⟨rfl, hb7⟩
  have Bw7 : Hid (Below w.heap.size w w7) := Bw6.out.trans (hb7.mono Bw6.out.size)
  clear hb7 
  go_wp2_with fail
  refine (long_any a w7 (by omega) la HLA.out).mono ?_
  rintro e w8 ⟨rfl, hw8⟩
  rw [hw8]
  clear hw8 w8 HLA HLB HLJ
  cases la <;> cases lb
  all_goals
    go_wp2
    go_ret
    exact ⟨rfl, Bw7.out⟩

theorem law_any (F : Interp) (a b : ByteArray) (w : World) (hF : F.answers w.tape) (aN aE aT : Addr) (sT : ByteArray) (hg : Glob w aN aE aT sT) (h0 : a.size ≤ 9223372036854775807) (h1 : b.size ≤ 9223372036854775807) :
    Calls Tryf.prog 4 #[.string a, .string b] w fun e w' => e = .returned (.bool true) ∧ Below w.heap.size w w' := by
  have pick : ∀ p : Prop, ∃ x : Bool, x = true ↔ p := by
    intro p
    by_cases h : p
    · exact ⟨true, fun _ => h, fun _ => rfl⟩
    · exact ⟨false, fun e => (by cases e), fun e => absurd e h⟩
  obtain ⟨la, hla⟩ := pick (Long a.data.toList)
  obtain ⟨lb, hlb⟩ := pick (Long b.data.toList)
  exact law_at F a b w hF aN aE aT sT hg h0 h1 la lb hla hlb

end Go.Proofs.Qxb6612715aFmt
