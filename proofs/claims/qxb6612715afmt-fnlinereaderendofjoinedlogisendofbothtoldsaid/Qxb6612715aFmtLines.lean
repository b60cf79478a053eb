/-
  ZZnewLineReader (11), ZZscanLine (12), readToEnd (6), hasLongLine (9), zzBytes (10).
-/
import Derived.Test.Qxb6612715aFmtScan
import Derived.Test.Qxb6612715aFmtEnd
namespace Go.Proofs.Qxb6612715aFmt
open Go.RowKit

/-- the three blocks of a new line reader -/
noncomputable def newWorld (w : World) (t : ByteArray) : World :=
  ((w.alloc (.cells #[.string t, .int .i64 0, .int .i64 (-1)] 55)).alloc (.cells #[.iface 40 (.pointer (some ⟨w.heap.size, 0, none⟩)), .func (.func 22) #[] #[], .int .i64 65536, .slice none 0 0, .slice none 0 0, .int .i64 0, .int .i64 0, .nilIface, .int .i64 0, .bool false, .bool false] 53)).alloc
    (.cells #[.pointer (some ⟨w.heap.size + 1, 0, none⟩), .int .i64 0, .slice none 0 0, .bool false, .bool false, .bool false] 38)

set_option maxRecDepth 100000 in
set_option maxHeartbeats 2000000 in
theorem newLine_any (t : ByteArray) (w : World) :
    Calls Tryf.prog 11 #[.string t, .int .i64 0] w fun e w' => e = .returned (.pointer (some ⟨w.heap.size + 2, 0, none⟩)) ∧ w' = newWorld w t := by
  go_enter Tryf.func11, Tryf.ntmps11
  go_wp2
  go_ret
  exact ⟨rfl, rfl⟩

theorem newWorld_size (w : World) (t : ByteArray) : (newWorld w t).heap.size = w.heap.size + 3 := by simp [newWorld]
theorem newWorld_rd (w : World) (t : ByteArray) : RdBlk (newWorld w t) w.heap.size t ((0 : Nat) : Int) (-1) := by
  show (newWorld w t).heap[w.heap.size]? = _
  unfold newWorld
  rw [Lib.alloc_old _ _ _ (by simp; omega), Lib.alloc_old _ _ _ (by simp)]
  exact heap_alloc_new w _
theorem newWorld_sc (w : World) (t : ByteArray) : ScBlk (newWorld w t) (w.heap.size + 1) (.iface 40 (.pointer (some ⟨w.heap.size, 0, none⟩))) (.slice none 0 0) (.slice none 0 0) ((0 : Nat) : Int) ((0 : Nat) : Int) .nilIface 0 false false := by
  show (newWorld w t).heap[w.heap.size + 1]? = _
  unfold newWorld
  rw [Lib.alloc_old _ _ _ (by simp)]
  have h := heap_alloc_new (w.alloc (.cells #[.string t, .int .i64 0, .int .i64 (-1)] 55)) (.cells #[.iface 40 (.pointer (some ⟨w.heap.size, 0, none⟩)), .func (.func 22) #[] #[], .int .i64 65536, .slice none 0 0, .slice none 0 0, .int .i64 0, .int .i64 0, .nilIface, .int .i64 0, .bool false, .bool false] 53)
  have e : (w.alloc (.cells #[.string t, .int .i64 0, .int .i64 (-1)] 55)).heap.size = w.heap.size + 1 := by simp
  rw [e] at h
  exact h
theorem newWorld_lr (w : World) (t : ByteArray) : (newWorld w t).heap[w.heap.size + 2]? = some (.cells #[.pointer (some ⟨w.heap.size + 1, 0, none⟩), .int .i64 0, .slice none 0 0, .bool false, .bool false, .bool false] 38 (0, 0)) := by
  have h := heap_alloc_new ((w.alloc (.cells #[.string t, .int .i64 0, .int .i64 (-1)] 55)).alloc (.cells #[.iface 40 (.pointer (some ⟨w.heap.size, 0, none⟩)), .func (.func 22) #[] #[], .int .i64 65536, .slice none 0 0, .slice none 0 0, .int .i64 0, .int .i64 0, .nilIface, .int .i64 0, .bool false, .bool false] 53)) (.cells #[.pointer (some ⟨w.heap.size + 1, 0, none⟩), .int .i64 0, .slice none 0 0, .bool false, .bool false, .bool false] 38)
  have e : ((w.alloc (.cells #[.string t, .int .i64 0, .int .i64 (-1)] 55)).alloc (.cells #[.iface 40 (.pointer (some ⟨w.heap.size, 0, none⟩)), .func (.func 22) #[] #[], .int .i64 65536, .slice none 0 0, .slice none 0 0, .int .i64 0, .int .i64 0, .nilIface, .int .i64 0, .bool false, .bool false] 53)).heap.size = w.heap.size + 2 := by simp
  rw [e] at h
  exact h
theorem newWorld_below (w : World) (t : ByteArray) : Below w.heap.size w (newWorld w t) := by
  unfold newWorld
  exact (((Below.refl w.heap.size w).alloc (Nat.le_refl _) _).alloc (by simp) _).alloc (by simp; omega) _

theorem newWorld_head (w : World) (t : ByteArray) (aE : Addr) : Head1 (newWorld w t) w.heap.size (w.heap.size + 1) w.heap.size t aE 0 (newWorld w t) := by
  refine ⟨0, 0, 0, 0, .slice none 0 0, .slice none 0 0, .nilIface, 0, -1, false, ⟨⟨newWorld_sc w t, newWorld_rd w t, Or.inl ⟨rfl, rfl⟩, Nat.le_refl _, Nat.zero_le _, by omega, Nat.le_refl _, Or.inl rfl, ⟨by omega, by omega⟩, ⟨by omega, by omega⟩⟩, Or.inl rfl, NoWin.zero _, LS.zero _, Nat.le_refl _, ⟨rfl, rfl, rfl, Nat.le_refl _, fun _ _ => rfl, rfl, by rw [newWorld_size]; omega⟩⟩⟩

/-- the line reader's two cells, kept -/
theorem kept_lr {w w' : World} {t : ByteArray} (h : Kept w.heap.size (newWorld w t) w') : w'.cell? ⟨w.heap.size + 2, 0, none⟩ = some (.pointer (some ⟨w.heap.size + 1, 0, none⟩)) ∧ w'.cell? ⟨w.heap.size + 2, 1, none⟩ = some (.int .i64 0) := by
  have h1 := h.l.trans (newWorld_lr w t)
  exact ⟨by rw [Lib.cell_of_heap h1]; rfl, by rw [Lib.cell_of_heap h1]; rfl⟩
theorem kept_below {w w' : World} {t : ByteArray} (h : Kept w.heap.size (newWorld w t) w') : Below w.heap.size w w' := by
  have hb := newWorld_below w t
  exact ⟨h.os.trans hb.os, h.tape.trans hb.tape, h.output.trans hb.output, Nat.le_trans hb.size h.size, fun k hk => (h.block k hk).trans (hb.block k hk)⟩

set_option maxRecDepth 100000 in
set_option maxHeartbeats 2000000 in
theorem scanLine_any (w w1 : World) (t : ByteArray) (aN aE aT : Addr) (sT : ByteArray) (c0 : Nat) (ht : t.size ≤ 2097152) (hg : Glob w aN aE aT sT) (h : Head1 (newWorld w t) w.heap.size (w.heap.size + 1) w.heap.size t aE c0 w1) :
    Calls Tryf.prog 12 #[.pointer (some ⟨w.heap.size + 2, 0, none⟩)] w1 fun e w' => ∃ b, e = .returned (.bool b) ∧ ScanPost (newWorld w t) w.heap.size (w.heap.size + 1) w.heap.size t aE aT c0 b w' := by
  have hgn := hg.below (newWorld_below w t)
  have HS : Hid (Calls Tryf.prog 17 #[.pointer (some ⟨w.heap.size + 1, 0, none⟩)] w1 fun e w' => ∃ b, e = .returned (.bool b) ∧ ScanPost (newWorld w t) w.heap.size (w.heap.size + 1) w.heap.size t aE aT c0 b w') :=
    scan_any (newWorld w t) w1 w.heap.size (w.heap.size + 1) w.heap.size t aE aT c0 ht hg.lt hgn.g1 hgn.g2 h
  obtain ⟨c, e, N, st, tk, bv, er, em, pr, sc, hc⟩ := h
  have hl0 := (kept_lr hc.bel).1
  clear hc hgn hg
  go_enter Tryf.func12, Tryf.ntmps12
  go_wp2_with (go_at_call 17
               refine Calls.mono HS.out ?_
               rintro e1 w2 ⟨b, rfl, hp⟩
               have HP : Hid (ScanPost (newWorld w t) w.heap.size (w.heap.size + 1) w.heap.size t aE aT c0 b w2) := hp
               clear hp)
  go_ret
  exact ⟨b, rfl, HP.out⟩

def EndPost (w : World) (t : ByteArray) (aE aT : Addr) (e : Ending) (w' : World) : Prop :=
  ∃ lb sb, e = .returned (.pointer (some ⟨lb, 0, none⟩)) ∧ Below w.heap.size w w' ∧ ((LR w' lb sb aE ∧ ¬ Long t.data.toList) ∨ (LR w' lb sb aT ∧ Long t.data.toList))

set_option maxRecDepth 100000 in
set_option maxHeartbeats 2000000 in
theorem readToEnd_any (w : World) (t : ByteArray) (aN aE aT : Addr) (sT : ByteArray) (ht : t.size ≤ 2097152) (hg : Glob w aN aE aT sT) :
    Calls Tryf.prog 6 #[.string t, .int .i64 0] w fun e w' => EndPost w t aE aT e w' := by
  have HG : Hid (Glob w aN aE aT sT) := hg
  clear hg
  have HN : Hid (Calls Tryf.prog 11 #[.string t, .int .i64 0] w fun e w' => e = .returned (.pointer (some ⟨w.heap.size + 2, 0, none⟩)) ∧ w' = newWorld w t) := newLine_any t w
  go_enter Tryf.func6, Tryf.ntmps6
  go_wp2_with (go_at_call 11
               refine Calls.mono HN.out ?_
               rintro e w' ⟨rfl, hw'⟩
               rw [hw']
               clear hw' w')
  go_loopw [6] (fun i wr => ∃ k : Nat, i = .int .i64 k ∧ Head1 (newWorld w t) w.heap.size (w.heap.size + 1) w.heap.size t aE k wr) (fun i _ => t.size + 1 - (intOf i).toNat)
  case atStart => exact ⟨0, rfl, newWorld_head w t aE⟩
  case round =>
    obtain ⟨k, rfl, hh⟩ := hrel
    have hkt : k ≤ t.size := by
      obtain ⟨c, e, N, st, tk, bv, er, em, pr, sc, hc⟩ := hh
      have h1 := hc.le
      have h2 := hc.s.ce
      have h3 := hc.s.et
      omega
    have HS : Hid (Calls Tryf.prog 12 #[.pointer (some ⟨w.heap.size + 2, 0, none⟩)] wr fun e w' => ∃ b, e = .returned (.bool b) ∧ ScanPost (newWorld w t) w.heap.size (w.heap.size + 1) w.heap.size t aE aT k b w') := scanLine_any w wr t aN aE aT sT k ht HG.out hh
    have hdk : decide ((k : Int) ≤ (t.size : Int)) = true := by apply decide_eq_true; omega
    clear hh HN
    go_wp2_with (go_at_call 12
                 refine Calls.mono HS.out ?_
                 rintro e1 w2 ⟨b, rfl, hp⟩
                 have HP : Hid (ScanPost (newWorld w t) w.heap.size (w.heap.size + 1) w.heap.size t aE aT k b w2) := hp
                 clear hp HS)
    · rename_i hb
      subst hb
      go_roundw
      case rel =>
        rcases HP.out with ⟨_, h⟩ | ⟨h, _⟩
        · exact ⟨k + 1, by go_num, h⟩
        · cases h
      case measure => simp [intOf]; omega
    · rename_i hb
      subst hb
      go_ret
      rcases HP.out with ⟨h, _⟩ | ⟨_, hk, h⟩
      · cases h
      · obtain ⟨l0, l1⟩ := kept_lr hk
        refine ⟨w.heap.size + 2, w.heap.size + 1, rfl, kept_below hk, ?_⟩
        rcases h with ⟨h1, h2⟩ | ⟨h1, h2⟩
        · exact Or.inl ⟨⟨l0, l1, h1⟩, h2⟩
        · exact Or.inr ⟨⟨l0, l1, h1⟩, h2⟩

theorem byte_list (s : ByteArray) {i : Nat} (h : i < s.size) : s.data.toList[i]? = some s[i] := by
  rw [List.getElem?_eq_getElem (by rw [← Lib.size_eq]; exact h)]; rfl

def LongSays (t : ByteArray) (e : Ending) : Prop := ∃ b : Bool, e = .returned (.bool b) ∧ (b = true ↔ Long t.data.toList)

set_option maxRecDepth 100000 in
set_option maxHeartbeats 2000000 in
theorem longLine_any (t : ByteArray) (w : World) (ht : t.size ≤ 2097152) :
    Calls Tryf.prog 9 #[.string t] w fun e w' => LongSays t e ∧ w' = w := by
  have HL : Hid (t.data.toList.length = t.size) := (Lib.size_eq t).symm
  go_enter Tryf.func9, Tryf.ntmps9
  go_wp2
  go_loop [3, 4] (fun r i => ∃ k r' : Nat, i = .int .i64 k ∧ r = .int .i64 r' ∧ k ≤ t.size ∧ RunAt t.data.toList k r' ∧ NoWin t.data.toList k) (fun _ i => t.size - (intOf i).toNat)
  case atStart => exact ⟨0, 0, rfl, rfl, Nat.zero_le _, RunAt.zero _, NoWin.zero _⟩
  case round =>
    obtain ⟨k, r, rfl, rfl, hk, hra, hnw⟩ := hrel
    have HR : Hid (RunAt t.data.toList k r) := hra
    have HN : Hid (NoWin t.data.toList k) := hnw
    have hr6 : r < 65536 := hra.2.2.2
    clear hra hnw
    by_cases hkt : k < t.size
    · have HB : Hid (t.data.toList[k]? = some t[k]) := byte_list t hkt
      by_cases hx : t[k] = 10
      · have hx1 : ((t[k].toNat : Int) == 10) = true := by rw [hx]; rfl
        have HX : Hid (t.data.toList[k]? = some 10) := by have h := HB.out; rw [hx] at h; exact h
        clear hx
        go_wp2
        go_round
        case rel => exact ⟨k + 1, 0, by go_num, rfl, by omega, HR.out.feed HX.out, RunAt.noWin_feed HN.out HX.out⟩
        case measure => simp [intOf]; omega
      · have hx1 : ((t[k].toNat : Int) == 10) = false := by
          rw [beq_eq_false_iff_ne]
          intro h
          apply hx
          apply UInt8.toNat_inj.1
          have : t[k].toNat = 10 := by omega
          rw [this]; rfl
        have HX : Hid (t.data.toList[k]? ≠ some 10) := by
          show _ ≠ _
          rw [HB.out]; intro h; exact hx (Option.some.inj h)
        clear hx
        by_cases hlong : 65536 ≤ r + 1
        · have hd : decide ((65536 : Int) ≤ (r : Int) + 1) = true := by apply decide_eq_true; omega
          go_wp2
          go_ret
          exact ⟨⟨true, rfl, fun _ => HR.out.long (by rw [HL.out]; exact hkt) HX.out hlong, fun _ => rfl⟩, rfl⟩
        · have hd : decide ((65536 : Int) ≤ (r : Int) + 1) = false := by apply decide_eq_false; omega
          go_wp2
          go_round
          case rel => exact ⟨k + 1, r + 1, by go_num, by go_num, by omega, HR.out.more HX.out (by omega), HR.out.noWin_more HN.out (by omega)⟩
          case measure => simp [intOf]; omega
    · have HE : Hid (¬ Long t.data.toList) := by
        have h := HN.out
        rw [show k = t.data.toList.length from by rw [HL.out]; omega] at h
        exact h.short
      go_wp2
      go_ret
      exact ⟨⟨false, rfl, fun h => (by cases h), fun h => absurd h HE.out⟩, rfl⟩

set_option maxRecDepth 100000 in
set_option maxHeartbeats 2000000 in
theorem bytes_any (a b : ByteArray) (w : World) (ha : a.size ≤ 9223372036854775807) (hb : b.size ≤ 9223372036854775807) :
    Calls Tryf.prog 10 #[.string a, .string b] w fun e w' => (∃ b : Bool, e = .returned (.bool b)) ∧ w' = w := by
  go_enter Tryf.func10, Tryf.ntmps10
  go_wp2
  all_goals
    go_ret
    exact ⟨⟨_, rfl⟩, rfl⟩

end Go.Proofs.Qxb6612715aFmt
