/-
  (*strings.Builder).Grow (78) ON A BUILDER THAT HAS BEEN WRITTEN: it holds what it held.
-/
import Derived.Test.Qxb6614432aNext
import Derived.Laws.CopyOwn
import Derived.Lib.BufferWrite
namespace Go.Proofs.Qxb6614432a
open Go.RowKit

theorem Try.size5 : (Try.prog.info? 5).map (·.size) = some 1 := by kernel_rfl

theorem take_splice (cur bs : List Value) : (splice cur 0 bs).take bs.length = bs := by
  unfold splice
  simp

theorem grow_src {w : World} {g n : Nat} {cur cs : Array Value} {xs : List Value} (hgk : w.heap[g]? = some (.cells cur 5 (0, 0))) (htk : cur.toList.take n = xs) (hg : g < w.heap.size) :
    ∀ j v, xs[j]? = some v → ((w.alloc (.cells cs 5)).drew.drew.drew).cell? ((⟨g, 0, none⟩ : Addr).add j) = some v := by
  intro j v hj
  have h1 : (w.alloc (.cells cs 5)).heap[g]? = _ := (Lib.alloc_old w _ g hg).trans hgk
  have ea : (⟨g, 0, none⟩ : Addr).add j = ⟨g, j, none⟩ := by rw [Addr.add_lit, Nat.zero_add]
  show (w.alloc (.cells cs 5)).cell? _ = _
  rw [ea, Lib.cell_of_heap h1]
  rw [← htk, List.getElem?_take] at hj
  by_cases hjn : j < n
  · simpa [hjn] using hj
  · simp [hjn] at hj

set_option maxHeartbeats 2000000 in
set_option maxRecDepth 100000 in
theorem grow_used (B b n g cap : Nat) (cur : Array Value) (l : List UInt8) (w : World) (hB : B ≤ b) (hBw : B ≤ w.heap.size)
    (hbk : w.heap[b]? = some (.cells #[.pointer (some ⟨b, 0, none⟩), .slice (some ⟨g, 0, none⟩) l.length cap] 131 (0, 0)))
    (hgk : w.heap[g]? = some (.cells cur 5 (0, 0))) (hlc : l.length ≤ cap) (hcs : cur.size = cap) (htk : cur.toList.take l.length = Lib.byteCells l) (hn : n ≤ 8388608) (hc : cap ≤ 8388608) :
    Calls Try.prog 82 #[.pointer (some ⟨b, 0, none⟩), .int .i64 n] w fun e w' => e = .returned (.tuple #[]) ∧ (Lib.BuilderAt 131 5 B b (.pointer (some ⟨b, 0, none⟩)) (Lib.byteCells l) w' ∧ Below B w w') := by
  have hltb : b < w.heap.size := (Array.getElem?_eq_some_iff.1 hbk).1
  have hltg : g < w.heap.size := (Array.getElem?_eq_some_iff.1 hgk).1
  obtain ⟨cs, hrun, hle, hmax⟩ := Lib.run_makeNoZero (P := Try.prog) w.drew #[3] 75 5 Try.underlying75 (2 * cap + n) (by omega)
  have hmax' := hmax (by unfold maxLen; omega)
  have ecast : ((2 * cap + n : Nat) : Int) = 2 * (cap : Int) + (n : Int) := by omega
  have hcall : (callFunc 84 #[.int .i64 (2 * (cap : Int) + (n : Int))]).run Try.prog w.drew = .ok (.value (.slice (some ⟨w.drew.heap.size, 0, none⟩) (2 * cap + n) cs.size)) (w.drew.drew.drew.alloc (.cells cs 5)) := by
    rw [← ecast, run_callFunc_extern Try.func84 (by kernel_rfl) (by kernel_rfl) (by kernel_rfl) (e := Extern.BytealgMakeNoZero.makeNoZero #[3] #[75]) (by kernel_rfl), hrun]
    rfl
  have c1 : w.cell? ⟨b, 1, none⟩ = some (.slice (some ⟨g, 0, none⟩) l.length cap) := by rw [Lib.cell_of_heap hbk]; rfl
  have hb2 : (w.alloc (.cells cs 5)).heap[b]? = _ := (Lib.alloc_old w _ b hltb).trans hbk
  have c2 : (w.alloc (.cells cs 5)).cell? ⟨b, 1, none⟩ = some (.slice (some ⟨g, 0, none⟩) l.length cap) := by rw [Lib.cell_of_heap hb2]; rfl
  have hlcs : l.length ≤ cs.size := by omega
  have HBK : Hid (w.heap[b]? = some (.cells #[.pointer (some ⟨b, 0, none⟩), .slice (some ⟨g, 0, none⟩) l.length cap] 131 (0, 0))) := hbk
  have HGK : Hid (w.heap[g]? = some (.cells cur 5 (0, 0))) := hgk
  have HTK : Hid (cur.toList.take l.length = Lib.byteCells l) := htk
  have HLL : Hid ((Lib.byteCells l).length = l.length) := Lib.byteCells_length l
  have HM : Hid (cs.size ≤ maxLen) := hmax'
  clear hbk hgk htk hmax hmax' hrun hb2 ecast
  have A1 : Hid ((w.alloc (.cells cs 5)).drew.drew.drew.heap[w.heap.size]? = some (.cells cs.toList.toArray 5 (0, 0))) := by
    show (w.alloc (.cells cs 5)).heap[w.heap.size]? = _
    rw [Array.toArray_toList]; exact heap_alloc_new w _
  have A2 : Hid ((Lib.byteCells l).length = l.length.min l.length) := by
    show (Lib.byteCells l).length = l.length.min l.length
    rw [HLL.out]; exact (Nat.min_self _).symm
  have A3 : Hid (∀ j v, (Lib.byteCells l)[j]? = some v → ((w.alloc (.cells cs 5)).drew.drew.drew).cell? ((⟨g, 0, none⟩ : Addr).add j) = some v) := grow_src HGK.out HTK.out hltg
  have A4 : Hid (0 + (Lib.byteCells l).length ≤ cs.toList.length) := by
    show 0 + (Lib.byteCells l).length ≤ cs.toList.length
    have e1 := HLL.out
    have e2 : cs.toList.length = cs.size := Array.length_toList
    rw [e1, e2, Nat.zero_add]; exact hlcs
  have A5 : Hid (Below w.heap.size w (w.alloc (.cells cs 5)).drew.drew.drew) := ((Below.refl _ w).alloc (Nat.le_refl _) _).drew.drew.drew
  have A6 : Hid (∀ v ∈ Lib.byteCells l, v.oneCell' = true) := Lib.byteCells_one l
  go_enter Try.func82, Try.ntmps82
  go_wp2
  go_region
  all_goals
    go_wp2_with
      (refine wpList_copy_splice rfl (.tmp 20) (.tmp 24) 75 75 rfl 5 Try.underlying75 Try.size5 _ _ _ _ _ _ rfl rfl w.heap.size 0 cs.toList 5 A1.out (Lib.byteCells l) A2.out (fun _ => ⟨rfl, _, rfl, A3.out⟩) A4.out A6.out w.heap.size w A5.out (Nat.le_refl _) ?_; intro w3 hblk3 hb3
       have hb : w3.heap[b]? = _ := (hb3.block b hltb).trans HBK.out
       have c3 : w3.cell? ⟨b, 1, none⟩ = some (.slice (some ⟨g, 0, none⟩) l.length cap) := by rw [Lib.cell_of_heap hb]; rfl
       have f3 : w3.frozen? ⟨b, 1, none⟩ = false := Lib.frozen_of_heap hb 1
       have HW : Hid (Lib.BuilderAt 131 5 B b (.pointer (some ⟨b, 0, none⟩)) (Lib.byteCells l) (w3.setCell ⟨b, 1, none⟩ (.slice (some ⟨w.heap.size, 0, none⟩) l.length cs.size)) ∧ Below B w (w3.setCell ⟨b, 1, none⟩ (.slice (some ⟨w.heap.size, 0, none⟩) l.length cs.size))) := by
         refine ⟨Lib.BuilderAt.put hB hb ⟨by rw [HLL.out]; omega, Or.inr ⟨w.heap.size, cs.size, _, by rw [HLL.out], hBw, hblk3.out, by rw [HLL.out]; exact hlcs, HM.out, ?_, ?_⟩⟩ (by decide), (hb3.mono hBw).setCell (p := ⟨b, 1, none⟩) hB _⟩
         · rw [List.size_toArray, length_splice _ _ _ A4.out, Array.length_toList]; omega
         · rw [List.toList_toArray, Nat.mul_one, take_splice]
       clear hb hb3 hblk3)
    go_end0
    exact ⟨rfl, HW.out⟩

theorem builder_drewN {T e : TypeId} {B b : Nat} {p : Value} {bs : List Value} {w : World} (h : Lib.BuilderAt T e B b p bs w) (n : Nat) : Lib.BuilderAt T e B b p bs (w.drewN n) := by
  obtain ⟨hB, v, hb, hown, hne⟩ := h
  exact ⟨hB, v, hb, hown, hne⟩

/-- copyCheck, by the laying of Grow's closure, which holds it. -/
theorem copyCheck_any (B b : Nat) (bs : List Value) (w : World) (h : Lib.IsBuilder 131 5 B b bs w) :
    Calls Try.prog 81 #[.pointer (some ⟨b, 0, none⟩)] w fun e w' => e = .returned (.tuple #[]) ∧ (Lib.BuilderAt 131 5 B b (.pointer (some ⟨b, 0, none⟩)) bs w' ∧ Below B w w') :=
  Any.Builder_copyCheck { Try.lays165 with } Try.Builder_Extra_165.toX72 B b bs w h

set_option maxHeartbeats 2000000 in
set_option maxRecDepth 100000 in
theorem Grow_any (B b n : Nat) (l : List UInt8) (w : World) (h : Lib.IsBuilder 131 5 B b (Lib.byteCells l) w) (hBw : B ≤ w.heap.size) (hn : n ≤ 4194304) (hl : l.length ≤ 4194304) :
    Calls Try.prog 78 #[.pointer (some ⟨b, 0, none⟩), .int .i64 n] w fun e w' => e = .returned (.tuple #[]) ∧ (Lib.BuilderAt 131 5 B b (.pointer (some ⟨b, 0, none⟩)) (Lib.byteCells l) w' ∧ Below B w w') := by
  have HC : Hid (Calls Try.prog 81 #[.pointer (some ⟨b, 0, none⟩)] w fun e w' => e = .returned (.tuple #[]) ∧ (Lib.BuilderAt 131 5 B b (.pointer (some ⟨b, 0, none⟩)) (Lib.byteCells l) w' ∧ Below B w w')) := copyCheck_any B b (Lib.byteCells l) w h
  have HLL : Hid ((Lib.byteCells l).length = l.length) := Lib.byteCells_length l
  clear h
  go_enter Try.func78, Try.ntmps78
  go_wp2_with (go_at_call 81; refine Calls.mono HC.out ?_; rintro e w1 ⟨rfl, hU, hb1⟩; have HU : Hid (Lib.BuilderAt 131 5 B b (.pointer (some ⟨b, 0, none⟩)) (Lib.byteCells l) w1) := hU; have HB1 : Hid (Below B w w1) := hb1; clear hU hb1)
  clear HC
  have hBw1 : B ≤ w1.heap.size := Nat.le_trans hBw HB1.out.size
  obtain ⟨hB, v, hb, hown, hne⟩ := HU.out
  have c1 : w1.cell? ⟨b, 1, none⟩ = some v := by rw [Lib.cell_of_heap hb]; rfl
  have HBK : Hid (w1.heap[b]? = some (.cells #[.pointer (some ⟨b, 0, none⟩), v] 131 (0, 0))) := hb
  clear hb hne
  rcases hown.2 with ⟨rfl, h0⟩ | ⟨g, cap, cur, rfl, hBg, hg, hnc, hcm, hcs, htk⟩
  · have hl0 : l = [] := List.eq_nil_of_length_eq_zero (by rw [← Lib.byteCells_length l]; exact h0)
    have HL0 : Hid (l = []) := hl0
    clear hown h0 hl0
    by_cases hn0 : 0 < n
    · have HG : Hid (∀ nq, Calls Try.prog 82 #[.pointer (some ⟨b, 0, none⟩), .int .i64 n] (w1.drewN nq) fun e w' => e = .returned (.tuple #[]) ∧ (Lib.BuilderAt 131 5 B b (.pointer (some ⟨b, 0, none⟩)) [] w' ∧ Below B (w1.drewN nq) w')) := fun nq => Try.Builder_grow_fresh B b n (w1.drewN nq) hB HBK.out hBw1 (by omega)
      go_quiet (fail)
      go_wp2_with (go_at_call 82; refine Calls.mono (HG.out _) ?_; rintro e w2 ⟨rfl, h1, h2⟩)
      go_end0
      refine ⟨rfl, ?_, (below_drewN HB1.out _).trans h2⟩
      rw [HL0.out]; exact h1
    · go_quiet (fail)
      go_wp2
      go_end0
      exact ⟨rfl, builder_drewN HU.out _, below_drewN HB1.out _⟩
  · rw [HLL.out] at hnc hown c1 HBK
    rw [HLL.out] at htk
    by_cases hfit : (cap : Int) - l.length < n
    · have HG : Hid (∀ nq, Calls Try.prog 82 #[.pointer (some ⟨b, 0, none⟩), .int .i64 n] (w1.drewN nq) fun e w' => e = .returned (.tuple #[]) ∧ (Lib.BuilderAt 131 5 B b (.pointer (some ⟨b, 0, none⟩)) (Lib.byteCells l) w' ∧ Below B (w1.drewN nq) w')) :=
        fun nq => grow_used B b n g cap cur l (w1.drewN nq) hB hBw1 HBK.out hg hnc (by omega) (by rw [Nat.mul_one] at htk; exact htk) (by omega) (by omega)
      clear hown htk hg
      go_quiet (fail)
      go_wp2_with (go_at_call 82; refine Calls.mono (HG.out _) ?_; rintro e w2 ⟨rfl, h1, h2⟩)
      go_end0
      exact ⟨rfl, h1, (below_drewN HB1.out _).trans h2⟩
    · clear hown htk hg
      have hcm' : cap ≤ 9223372036854775807 := by unfold maxLen at hcm; omega
      clear hcm
      go_quiet (fail)
      go_wp2
      go_end0
      exact ⟨rfl, builder_drewN HU.out _, below_drewN HB1.out _⟩

set_option maxHeartbeats 2000000 in
set_option maxRecDepth 100000 in
theorem WriteString_any (B b : Nat) (bs : List Value) (s : ByteArray) (w : World) (h : Lib.IsBuilder 131 5 B b bs w) (hlen : bs.length + s.size ≤ 140737488355328) (hBw : B ≤ w.heap.size) :
    Calls Try.prog 79 #[.pointer (some ⟨b, 0, none⟩), .string s] w fun e w' => e = .returned (.tuple #[.int .i64 s.size, .nilIface]) ∧ (Lib.BuilderAt 131 5 B b (.pointer (some ⟨b, 0, none⟩)) (bs ++ Lib.strCells s) w' ∧ Below B w w') := by
  obtain ⟨i5, hi, hz0, hz1, hz2⟩ := info_parts Try.Builder_Extra_165.infoByte
  have HC : Hid (Calls Try.prog 81 #[.pointer (some ⟨b, 0, none⟩)] w fun e w' => e = .returned (.tuple #[]) ∧ (Lib.BuilderAt 131 5 B b (.pointer (some ⟨b, 0, none⟩)) bs w' ∧ Below B w w')) := copyCheck_any B b bs w h
  clear h
  go_enter Try.func79, Try.ntmps79
  go_wp2_with first
   | (go_at_call 81
      refine Calls.mono HC.out ?_
      rintro e w1 ⟨rfl, ⟨hB, v, hbk, hown, hne⟩, hb1⟩
      have c1 : w1.cell? ⟨b, 1, none⟩ = some v := by rw [Lib.cell_of_heap hbk]; rfl
      have HBK : Hid (w1.heap[b]? = some (.cells #[.pointer (some ⟨b, 0, none⟩), v] 131 (0, 0))) := hbk
      have HO : Hid (w1.ownsRow B 5 1 v bs.length bs) := hown
      have HN : Hid (v.ownBlock ≠ some b) := hne
      have HB1 : Hid (Below B w w1) := hb1
      clear hbk hown hne hb1 HC)
   | (at_builtin
      refine Lib.wpList_append_own_string _ rfl _ _ 75 9 rfl B 5 i5 Try.underlying75 Try.underlying9 hi hz0 hz1 hz2 _ _ _ rfl HO.out s rfl (by unfold maxLen; omega) hlen (Nat.le_trans hBw HB1.out.size) ?_
      intro v' w2 hown' hgrow _
      have hlt : b < w1.heap.size := (Array.getElem?_eq_some_iff.1 HBK.out).1
      have hb2 : w2.heap[b]? = some (.cells #[.pointer (some ⟨b, 0, none⟩), v] 131 (0, 0)) := by
        rw [hgrow.block b hlt (fun e => HN.out e.symm)]
        exact HBK.out
      have d1 : w2.cell? ⟨b, 1, none⟩ = some v := by rw [Lib.cell_of_heap hb2]; rfl
      have f1 : w2.frozen? ⟨b, 1, none⟩ = false := Lib.frozen_of_heap hb2 1
      have hb3 : Below B w w2 := HB1.out.grown hgrow (Nat.le_trans hBw HB1.out.size) (fun k hk => (HO.out.lt k hk).1)
      have HR : Hid (Lib.BuilderAt 131 5 B b (.pointer (some ⟨b, 0, none⟩)) (bs ++ Lib.strCells s) (w2.setCell ⟨b, 1, none⟩ v') ∧ Below B w (w2.setCell ⟨b, 1, none⟩ v')) :=
        ⟨Lib.BuilderAt.put (T := 131) (e := 5) hB hb2 (bs' := bs ++ Lib.strCells s) (by rw [List.length_append, Lib.strCells_length]; exact hown') (by decide), hb3.setCell (p := ⟨b, 1, none⟩) hB _⟩
      obtain ⟨ao, n', cap, rfl⟩ : ∃ ao n' cap, v' = .slice ao n' cap := by
        rcases hown'.2 with ⟨hv, _⟩ | ⟨g, cap, cur, hv, _⟩
        · exact ⟨_, _, _, hv⟩
        · exact ⟨_, _, _, hv⟩
      clear hown' hgrow hb2 hb3)
  go_ret2
  exact ⟨rfl, HR.out⟩

end Go.Proofs.Qxb6614432a
