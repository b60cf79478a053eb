/-
  THE WALK OF (*strings.singleStringReplacer).Replace (75).
-/
import Derived.Test.Qxb6614432aGrow
import Derived.Deep.DeepCutAuto
namespace Go.Proofs.Qxb6614432a
open Go.RowKit

/-- what the loop has chopped off: the text up to i, and what stands for it -/
inductive Chop (p v s : List UInt8) (safe : Prop) : Nat → List UInt8 → Prop
  | start : Chop p v s safe 0 []
  | step {i m : Nat} {l : List UInt8} : Chop p v s safe i l → OccAt p (s.drop i) m → (safe → ∀ k, k < m → ¬ OccAt p (s.drop i) k) → Chop p v s safe (i + (m + p.length)) (l ++ (s.drop i).take m ++ v)

def RepSays (p v s : List UInt8) (safe : Prop) (out : List UInt8) : Prop :=
  ∃ i l, Chop p v s safe i l ∧ i ≤ s.length ∧ out = l ++ s.drop i ∧ (safe → ∀ k, ¬ OccAt p (s.drop i) k)

theorem Chop.le {p v s : List UInt8} {safe : Prop} (hv : v.length ≤ p.length) {i : Nat} {l : List UInt8} (h : Chop p v s safe i l) : l.length ≤ i := by
  induction h with
  | start => exact Nat.le_refl _
  | step h1 h2 h3 ih =>
    rw [List.length_append, List.length_append, List.length_take]
    omega

structure SRep (w : World) (r f g : Nat) (p v : ByteArray) (bad : Nat → Int) (good : List Int) : Prop where
  blk : w.heap[r]? = some (.cells #[.pointer (some ⟨f, 0, none⟩), .string v] 86 (0, 0))
  fin : Finder w f g p bad good

theorem SRep.lt {w : World} {r f g : Nat} {p v : ByteArray} {bad : Nat → Int} {good : List Int} (h : SRep w r f g p v bad good) : r < w.heap.size := (Array.getElem?_eq_some_iff.1 h.blk).1
theorem SRep.below {w w' : World} {r f g : Nat} {p v : ByteArray} {bad : Nat → Int} {good : List Int} (h : SRep w r f g p v bad good) (hb : Below w.heap.size w w') : SRep w' r f g p v bad good :=
  ⟨(hb.block r h.lt).trans h.blk, h.fin.below hb⟩
theorem SRep.c0 {w : World} {r f g : Nat} {p v : ByteArray} {bad : Nat → Int} {good : List Int} (h : SRep w r f g p v bad good) : w.cell? ⟨r, 0, none⟩ = some (.pointer (some ⟨f, 0, none⟩)) := by rw [Lib.cell_of_heap h.blk]; rfl
theorem SRep.c1 {w : World} {r f g : Nat} {p v : ByteArray} {bad : Nat → Int} {good : List Int} (h : SRep w r f g p v bad good) : w.cell? ⟨r, 1, none⟩ = some (.string v) := by rw [Lib.cell_of_heap h.blk]; rfl

theorem builder_below {T e : TypeId} {B b : Nat} {p : Value} {bs : List Value} {w w' : World} (h : Lib.BuilderAt T e B b p bs w) (hb : Below w.heap.size w w') : Lib.BuilderAt T e B b p bs w' := by
  have hlt := h.lt
  obtain ⟨hB, v, hbk, hown, hne⟩ := h
  exact ⟨hB, v, (hb.block b hlt).trans hbk, hown.kept (row := none) ⟨hb.os, hb.tape, hb.output, hb.size, fun k hk _ => hb.block k hk⟩ (by cases hv : v.ownBlock with | none => exact Or.inl rfl | some x => exact Or.inr (fun e => by cases e)), hne⟩
theorem isBuilder_below {T e : TypeId} {B b : Nat} {bs : List Value} {w w' : World} (h : Lib.IsBuilder T e B b bs w) (hb : Below w.heap.size w w') : Lib.IsBuilder T e B b bs w' :=
  h.elim (fun a => Or.inl (builder_below a hb)) (fun a => Or.inr (builder_below a hb))
theorem below_undrew {n : Nat} {w w' : World} (h : Below n w.drew w') : Below n w w' := ⟨h.os, h.tape, h.output, h.size, h.block⟩
theorem extract_tail {s : ByteArray} {k : Nat} (hl : s.data.toList.length = s.size) : (s.extract k s.size).data.toList = s.data.toList.drop k := by
  rw [Lib.extract_data, List.take_of_length_le (by rw [List.length_drop]; omega)]

def NextPost (p t : List UInt8) (bad : Nat → Int) (good : List Int) (w : World) (e : Ending) (w' : World) : Prop := ∃ rr : Int, e = .returned (.int .i64 rr) ∧ NextSays p t bad good rr ∧ Below w.heap.size w w'

set_option maxRecDepth 100000 in
set_option maxHeartbeats 4000000 in
theorem single_any (p v s : ByteArray) (w : World) (r f g : Nat) (bad : Nat → Int) (good : List Int) (hp2 : 2 ≤ p.size) (hp : p.size ≤ 4096) (hv : v.size ≤ p.size) (hs : s.size ≤ 1048576)
    (hr : SRep w r f g p v bad good) (hbad : ∀ c, 0 ≤ bad c ∧ bad c ≤ p.size) (hgood : ∀ (j : Nat) (x : Int), good[j]? = some x → (p.size : Int) - j ≤ x ∧ x ≤ 2 * p.size) :
    Calls Try.prog 75 #[.pointer (some ⟨r, 0, none⟩), .string s] w fun e w' => ∃ o : ByteArray, e = .returned (.string o) ∧ RepSays p.data.toList v.data.toList s.data.toList (Safe p.data.toList bad good) o.data.toList ∧ Below w.heap.size w w' := by
  have HPL : Hid (p.data.toList.length = p.size) := (Lib.size_eq p).symm
  have HVL : Hid (v.data.toList.length = v.size) := (Lib.size_eq v).symm
  have HSL : Hid (s.data.toList.length = s.size) := (Lib.size_eq s).symm
  have HR : Hid (SRep w r f g p v bad good) := hr
  have HBad : Hid (∀ c, 0 ≤ bad c ∧ bad c ≤ p.size) := hbad
  have HGood : Hid (∀ (j : Nat) (x : Int), good[j]? = some x → (p.size : Int) - j ≤ x ∧ x ≤ 2 * p.size) := hgood
  clear hr hbad hgood
  have HIB : Hid (Lib.IsBuilder 131 5 w.heap.size w.heap.size [] (w.alloc (.cells #[.pointer none, .slice none 0 0] 131))) := Lib.fresh_isBuilder 131 5 w
  go_enter Try.func75, Try.ntmps75
  go_wp2
  go_loopw [6, 7] (fun i m wr => ∃ (k : Nat) (mt : Bool) (l : List UInt8), i = .int .i64 k ∧ m = .bool mt ∧ k ≤ s.size ∧ Chop p.data.toList v.data.toList s.data.toList (Safe p.data.toList bad good) k l ∧ (mt = false → k = 0 ∧ l = []) ∧ Lib.IsBuilder 131 5 w.heap.size w.heap.size (Lib.byteCells l) wr ∧ Below w.heap.size w wr) (fun i _ _ => s.size - (intOf i).toNat)
  case atStart => exact ⟨0, false, [], rfl, rfl, Nat.zero_le _, .start, fun _ => ⟨rfl, rfl⟩, HIB.out, (Below.refl _ _).alloc (Nat.le_refl _) _⟩
  case round =>
    clear HIB
    obtain ⟨k, mt, l, rfl, rfl, hk, hch, hmt, hib, hbel⟩ := hrel
    have HCh : Hid (Chop p.data.toList v.data.toList s.data.toList (Safe p.data.toList bad good) k l) := hch
    have HMt : Hid (mt = false → k = 0 ∧ l = []) := hmt
    have HIB : Hid (Lib.IsBuilder 131 5 w.heap.size w.heap.size (Lib.byteCells l) wr) := hib
    have HB : Hid (Below w.heap.size w wr) := hbel
    have HRr : Hid (SRep wr r f g p v bad good) := HR.out.below hbel
    clear hch hmt hib hbel
    have hc0 := HRr.out.c0
    have hkk : k ≤ s.size := hk
    have HN : Hid (∀ w', Below w.heap.size w w' → Calls Try.prog 77 #[.pointer (some ⟨f, 0, none⟩), .string (s.extract k s.size)] w' fun e w'' => ∃ rr : Int, e = .returned (.int .i64 rr) ∧ NextSays p.data.toList (s.extract k s.size).data.toList bad good rr ∧ Below w'.heap.size w' w'') :=
      fun w' hb' => next_any p (s.extract k s.size) w' f g bad good hp2 hp (by rw [ByteArray.size_extract]; omega) (HR.out.fin.below hb') HBad.out HGood.out
    have HNS : Hid (∀ w'', Below w.heap.size w w'' → Calls Try.prog 77 #[.pointer (some ⟨f, 0, none⟩), .string (s.extract k s.size)] w'' fun e w3 => NextPost p.data.toList (s.extract k s.size).data.toList bad good w'' e w3) := fun w'' hb'' => (HN.out w'' hb'')
    go_wp2
    go_region_with (go_at_call 77; refine Calls.mono (HNS.out _ HB.out.drew) ?_; rintro e w1 ⟨rr, rfl, hns, hb1⟩; have HS1 : Hid (NextSays p.data.toList (s.extract k s.size).data.toList bad good rr) := hns; have HB1 : Hid (Below wr.heap.size wr w1) := below_undrew hb1; clear hns hb1)
    all_goals
      have HB2 : Hid (Below w.heap.size w w1) := HB.out.trans (HB1.out.mono HB.out.size)
      have HIB1 : Hid (Lib.IsBuilder 131 5 w.heap.size w.heap.size (Lib.byteCells l) w1) := isBuilder_below HIB.out HB1.out
      have HSZ : Hid (w.heap.size ≤ w1.heap.size) := HB2.out.size
      have HR1 : Hid (SRep w1 r f g p v bad good) := HR.out.below HB2.out
      have hd0 := HR1.out.c0
      have hd1 := HR1.out.c1
      have hd2 := HR1.out.fin.pat
      have HLE : Hid (l.length ≤ k) := HCh.out.le (by rw [HPL.out, HVL.out]; exact hv)
      clear HB HB1 HIB HRr HN HNS hc0
      rcases HS1.out with ⟨rfl, hno⟩ | ⟨m, rfl, hocc, hfirst⟩
      · have HRS : Hid (RepSays p.data.toList v.data.toList s.data.toList (Safe p.data.toList bad good) (l ++ s.data.toList.drop k)) :=
          ⟨k, l, HCh.out, by rw [HSL.out]; exact hk, rfl, fun hsafe => by rw [← extract_tail HSL.out]; exact hno hsafe⟩
        clear hno HS1
        rcases mt with _ | _
        · have HZ : Hid (l ++ s.data.toList.drop k = s.data.toList) := by
            obtain ⟨e1, e2⟩ := HMt.out rfl
            show l ++ s.data.toList.drop k = s.data.toList
            rw [e1, e2]; rfl
          go_wp2
          go_ret
          exact ⟨s, rfl, by have h := HRS.out; rw [HZ.out] at h; exact h, HB2.out⟩
        · have HWS : Hid (Calls Try.prog 79 #[.pointer (some ⟨w.heap.size, 0, none⟩), .string (s.extract k s.size)] w1 fun e w' => e = .returned (.tuple #[.int .i64 (s.extract k s.size).size, .nilIface]) ∧ (Lib.BuilderAt 131 5 w.heap.size w.heap.size (.pointer (some ⟨w.heap.size, 0, none⟩)) (Lib.byteCells l ++ Lib.strCells (s.extract k s.size)) w' ∧ Below w.heap.size w1 w')) :=
            WriteString_any _ _ _ _ _ HIB1.out (by rw [Lib.byteCells_length, ByteArray.size_extract]; have := HLE.out; omega) HSZ.out
          go_wp2_with first
            | (go_at_call 79
               refine Calls.mono HWS.out ?_
               rintro e w2 ⟨rfl, hba, hb2⟩
               have HSt : Hid (Calls Try.prog 80 #[.pointer (some ⟨w.heap.size, 0, none⟩)] w2 fun e w' => e = .returned (.string ⟨(l ++ s.data.toList.drop k).toArray⟩) ∧ Below w.heap.size w2 w') :=
                 Try.Builder_String_any _ _ _ _ (Or.inr (by rw [Lib.byteCells_append, ← extract_tail HSL.out]; exact hba)) (HB2.out.trans hb2).size
               have HB3 : Hid (Below w.heap.size w w2) := HB2.out.trans hb2
               clear hba hb2)
            | (go_at_call 80
               refine Calls.mono HSt.out ?_
               rintro e w3 ⟨rfl, hb3⟩
               have HB4 : Hid (Below w.heap.size w w3) := HB3.out.trans hb3
               clear hb3)
          go_ret
          exact ⟨_, rfl, HRS.out, HB4.out⟩
      · have hmp : k + m + p.size ≤ s.size := by
          have h1 := hocc.fits (by rw [HPL.out]; omega)
          rw [extract_tail HSL.out, List.length_drop, HPL.out, HSL.out] at h1
          omega
        have HCh1 : Hid (Chop p.data.toList v.data.toList s.data.toList (Safe p.data.toList bad good) (k + (m + p.size)) (l ++ (s.data.toList.drop k).take m ++ v.data.toList)) := by
          have h1 := extract_tail (k := k) HSL.out
          rw [h1] at hocc hfirst
          have h2 := HCh.out.step hocc hfirst
          rw [HPL.out] at h2
          exact h2
        clear hocc hfirst HS1
        have HG : Hid (Calls Try.prog 78 #[.pointer (some ⟨w.heap.size, 0, none⟩), .int .i64 ((m : Int) + (v.size : Int))] w1 fun e w' => e = .returned (.tuple #[]) ∧ (Lib.BuilderAt 131 5 w.heap.size w.heap.size (.pointer (some ⟨w.heap.size, 0, none⟩)) (Lib.byteCells l) w' ∧ Below w.heap.size w1 w')) := by
          have e : ((m + v.size : Nat) : Int) = (m : Int) + (v.size : Int) := by omega
          have h := Grow_any w.heap.size w.heap.size (m + v.size) l w1 HIB1.out HSZ.out (by omega) (by have := HLE.out; omega)
          rw [e] at h
          exact h
        go_wp2_with first
          | (go_at_call 78
             refine Calls.mono HG.out ?_
             rintro e w2 ⟨rfl, hba, hb2⟩
             have HBA : Hid (Lib.BuilderAt 131 5 w.heap.size w.heap.size (.pointer (some ⟨w.heap.size, 0, none⟩)) (Lib.byteCells l) w2) := hba
             have HB3 : Hid (Below w.heap.size w w2) := HB2.out.trans hb2
             have HR2 : Hid (SRep w2 r f g p v bad good) := HR.out.below HB3.out
             have hx0 := HR2.out.c0
             have hx1 := HR2.out.c1
             have hx2 := HR2.out.fin.pat
             clear hba hb2 HG)
        have HW1 : Hid (Calls Try.prog 79 #[.pointer (some ⟨w.heap.size, 0, none⟩), .string (s.extract k (k + m))] w2 fun e w' => e = .returned (.tuple #[.int .i64 (s.extract k (k + m)).size, .nilIface]) ∧ (Lib.BuilderAt 131 5 w.heap.size w.heap.size (.pointer (some ⟨w.heap.size, 0, none⟩)) (Lib.byteCells l ++ Lib.strCells (s.extract k (k + m))) w' ∧ Below w.heap.size w2 w')) :=
          WriteString_any _ _ _ _ _ (Or.inr HBA.out) (by rw [Lib.byteCells_length, ByteArray.size_extract]; have := HLE.out; omega) HB3.out.size
        go_wp2_with (go_at_call 79
                     refine Calls.mono HW1.out ?_
                     rintro e w3 ⟨rfl, hba, hb2⟩
                     have HBA1 : Hid (Lib.BuilderAt 131 5 w.heap.size w.heap.size (.pointer (some ⟨w.heap.size, 0, none⟩)) (Lib.byteCells (l ++ (s.data.toList.drop k).take m)) w3) := by
                       have e : (s.extract k (k + m)).data.toList = (s.data.toList.drop k).take m := by rw [Lib.extract_data, Nat.add_sub_cancel_left]
                       show Lib.BuilderAt _ _ _ _ _ _ _
                       rw [Lib.byteCells_append, ← e]; exact hba
                     have HB4 : Hid (Below w.heap.size w w3) := HB3.out.trans hb2
                     have HR3 : Hid (SRep w3 r f g p v bad good) := HR.out.below HB4.out
                     have hy0 := HR3.out.c0
                     have hy1 := HR3.out.c1
                     have hy2 := HR3.out.fin.pat
                     clear hba hb2 HW1)
        have HW2 : Hid (Calls Try.prog 79 #[.pointer (some ⟨w.heap.size, 0, none⟩), .string v] w3 fun e w' => e = .returned (.tuple #[.int .i64 v.size, .nilIface]) ∧ (Lib.BuilderAt 131 5 w.heap.size w.heap.size (.pointer (some ⟨w.heap.size, 0, none⟩)) (Lib.byteCells (l ++ (s.data.toList.drop k).take m) ++ Lib.strCells v) w' ∧ Below w.heap.size w3 w')) :=
          WriteString_any _ _ _ _ _ (Or.inr HBA1.out) (by rw [Lib.byteCells_length, List.length_append, List.length_take]; have := HLE.out; omega) HB4.out.size
        go_wp2_with (go_at_call 79
                     refine Calls.mono HW2.out ?_
                     rintro e w4 ⟨rfl, hba, hb2⟩
                     have HBA2 : Hid (Lib.BuilderAt 131 5 w.heap.size w.heap.size (.pointer (some ⟨w.heap.size, 0, none⟩)) (Lib.byteCells (l ++ (s.data.toList.drop k).take m ++ v.data.toList)) w4) := by
                       show Lib.BuilderAt _ _ _ _ _ _ _
                       rw [Lib.byteCells_append]; exact hba
                     have HB5 : Hid (Below w.heap.size w w4) := HB4.out.trans hb2
                     have HR4 : Hid (SRep w4 r f g p v bad good) := HR.out.below HB5.out
                     have hz0 := HR4.out.c0
                     have hz2 := HR4.out.fin.pat
                     clear hba hb2 HW2)
        go_roundw
        case rel => exact ⟨k + (m + p.size), true, _, by go_num, rfl, by omega, HCh1.out, (fun e => by cases e), Or.inr HBA2.out, HB5.out⟩
        case measure => simp [intOf]; omega

end Go.Proofs.Qxb6614432a
