/-
  THE GENERIC ROAD: trieNode.add (39), makeGenericReplacer (33).
-/
import Derived.Test.Qxb6614432aGenA
namespace Go.Proofs.Qxb6614432a
open Go.RowKit

set_option maxRecDepth 100000 in
set_option maxHeartbeats 2000000 in
theorem add_empty (r : Nat) (tb : Value) (w : World) (h : GenBlk w r 0 tb) :
    Calls Try.prog 39 #[.pointer (some ⟨r, 0, none⟩), .string ⟨#[]⟩, .string ⟨#[]⟩, .int .i64 2, .pointer (some ⟨r, 0, none⟩)] w fun e w' => e = .returned (.tuple #[]) ∧ w' = (w.setCell ⟨r, 0, none⟩ (.string ⟨#[]⟩)).setCell ⟨r, 1, none⟩ (.int .i64 2) := by
  have hc1 := h.c1
  have hc0 := h.c0
  have hf0 := h.fz 0
  have hd1 := h.set0.c1
  have hg1 := h.set0.fz 1
  clear h
  go_enter Try.func39, Try.ntmps39
  go_wp2
  refine bodyPost_ret (results_none rfl _ _ _) rfl ?_
  exact ⟨rfl, rfl⟩

/-- 256 bytes, all 0 -/
def zeroTab : Array Value := Array.replicate 256 (.int .u8 0)
theorem zeroTab_len : zeroTab.toList.length = 256 := by
  unfold zeroTab
  rw [Array.length_toList, Array.size_replicate]
theorem zeroTab_at {k : Nat} (hk : k < 256) : zeroTab[k]? = some (.int .u8 0) := by
  unfold zeroTab
  rw [Array.getElem?_replicate, if_pos hk]
theorem GenBlk.load {w : World} {r : Nat} {pr : Int} {tb : Value} (h : GenBlk w r pr tb) : (Instr.loadAt 72 (.pointer (some ⟨r, 6, none⟩))).run Try.prog w = .ok (.agg zeroTab) w := by
  have h1 := run_loadCells_list (P := Try.prog) (w := w) ⟨r, 6, none⟩ zeroTab.toList (fun j v hv => by
    have hj : j < 256 := by
      have := (List.getElem?_eq_some_iff.1 hv).1
      rwa [zeroTab_len] at this
    rw [Addr.add_lit, h.cm hj]
    rw [Array.getElem?_toList, zeroTab_at hj] at hv
    exact hv)
  rw [zeroTab_len, Array.toArray_toList] at h1
  simp only [Instr.loadAt, Instr.sureAddr, Sem.run_bind, Sem.run_pure, Result.andThen]
  simp only [loadVar, Sem.run_bind, Try.isAgg72, Try.sizeOf72, Result.andThen, if_true, h1, Sem.run_pure]

theorem zeroTab_index {k : Nat} (hk : k < 256) (w : World) : (Instr.index 72 (.agg zeroTab) (.int .i64 (k : Int))).run Try.prog w = .ok (.int .u8 0) w := by
  have h0 : (0 : Int) ≤ (k : Int) ∧ (k : Int) < 256 := ⟨by omega, by omega⟩
  have hz := zeroTab_at hk
  have hs : zeroTab.size = 256 := by rw [← Array.length_toList]; exact zeroTab_len
  have hk2 : k < zeroTab.size := by omega
  have hz2 : zeroTab[k] = .int .u8 0 := by rw [Array.getElem?_eq_getElem hk2] at hz; exact Option.some.inj hz
  unfold Instr.index
  simp [asIntOf, run_underlying Try.underlying72, h0, part, Try.isAgg5, Try.sizeOf5, hz2, hk2]
  intro h
  omega

/-- A LOAD OF A WHOLE ARRAY, for the walk. -/
theorem wpList_loadArr {P : Program} {w : World} {ops : Array Oper} {rest : List Oper} {o : Oper} {a : Act} {Q : Exit → Act → World → Prop} (hgd : o.guard = none) (x : Operand) (t : TypeId) (ho : o.op = .load t x) (v u : Value) (hx : a.eval x = u)
    (hrun : (Instr.loadAt t u).run P w = .ok v w) (h : wpList P ops Q rest (a.put o.dst v) w) : wpList P ops Q (o :: rest) a w := by
  refine wpList_plain hgd fun K hK => ?_
  unfold Oper.wp execOp
  simp only [ho, hx, Sem.run_bind, Sem.run_pure, hrun, Result.andThen_ok]
  exact hK _ _ h

theorem Try.info87 : (Try.prog.info? 87).map (fun i => (i.zero, i.size, i.bytes)) = some (some (.pointer none), 1, 8) := by kernel_rfl

def GenPost (w : World) (e : Ending) (w' : World) : Prop := ∃ r tb, e = .returned (.pointer (some ⟨r, 0, none⟩)) ∧ w.heap.size ≤ r ∧ (∃ a, tb = .slice (some a) 0 0) ∧ GenBlk w' r 2 tb ∧ Below w.heap.size w w'

set_option maxRecDepth 100000 in
set_option maxHeartbeats 4000000 in
theorem makeGeneric_any (c cap : Nat) (w : World) (hc : Pair w c ⟨#[]⟩ ⟨#[]⟩) :
    Calls Try.prog 33 #[.slice (some ⟨c, 0, none⟩) 2 cap] w fun e w' => GenPost w e w' := by
  have HC : Hid (Pair w c ⟨#[]⟩ ⟨#[]⟩) := hc
  have hcl : c < w.heap.size := World.block_lt_of_cell? _ _ hc.1
  have HG0 : Hid (GenBlk (w.alloc (.cells Try.zeroCells92 92)) w.heap.size 0 (.slice none 0 0)) := gen_start w
  have HB0 : Hid (Below w.heap.size w (w.alloc (.cells Try.zeroCells92 92))) := (Below.refl _ _).alloc (Nat.le_refl _) _
  obtain ⟨w1, hw1⟩ : ∃ w1, w1 = w.alloc (.cells Try.zeroCells92 92) := ⟨_, rfl⟩
  have hq0 : (w.alloc (.cells Try.zeroCells92 92)).cell? ⟨c, 0, none⟩ = some (.string ⟨#[]⟩) := (HB0.out.cell (p := ⟨c, 0, none⟩) hcl).trans hc.1
  clear hc hw1
  go_enter Try.func33, Try.ntmps33
  go_wp2
  go_loop [4] (fun i => i = .int .i64 0 ∨ i = .int .i64 2) (fun i => (2 - intOf i).toNat)
  case atStart => exact Or.inl rfl
  case round =>
    rcases hrel with rfl | rfl
    · go_wp2
      go_loop [6] (fun i => i = .int .i64 0) (fun _ => 0)
      case atStart => rfl
      case round =>
        subst hrel
        go_wp2
        go_round
        case rel => exact Or.inr rfl
        case measure => simp [intOf]
    · have hld := HG0.out.load
      have HLD : Hid ((Instr.loadAt 72 (.pointer (some ⟨w.heap.size, 6, none⟩))).run Try.prog (w.alloc (.cells Try.zeroCells92 92)) = .ok (.agg zeroTab) (w.alloc (.cells Try.zeroCells92 92))) := hld
      clear hld
      go_wp2_with (refine wpList_loadArr rfl (.tmp 39) 72 rfl _ _ rfl HLD.out ?_)
      go_loopw [41] (fun i wr => ∃ k : Nat, i = .int .i64 k ∧ k ≤ 256 ∧ GenBlk wr w.heap.size 0 (.slice none 0 0) ∧ Below w.heap.size w wr) (fun i _ => 256 - (intOf i).toNat)
      case atStart => exact ⟨0, rfl, Nat.zero_le _, HG0.out, HB0.out⟩
      case round =>
        clear HG0 HB0 hq0 HLD
        obtain ⟨k, rfl, hk, hgb, hbel⟩ := hrel
        have HG : Hid (GenBlk wr w.heap.size 0 (.slice none 0 0)) := hgb
        have HB : Hid (Below w.heap.size w wr) := hbel
        clear hgb hbel
        by_cases hlk : k < 256
        · have hz := zeroTab_index hlk wr
          have hc5 := HG.out.c5
          have hf5 := HG.out.fz 5
          have HG1 : Hid (GenBlk (wr.setCell ⟨w.heap.size, 5, none⟩ (.int .i64 0)) w.heap.size 0 (.slice none 0 0)) := HG.out.set5
          have HB1 : Hid (Below w.heap.size w (wr.setCell ⟨w.heap.size, 5, none⟩ (.int .i64 0))) := HB.out.setCell (p := ⟨w.heap.size, 5, none⟩) (Nat.le_refl _) _
          clear HG HB
          go_wp2
          go_roundw
          case rel => exact ⟨k + 1, by go_num, by omega, HG1.out, HB1.out⟩
          case measure => simp [intOf]; omega
        · have HLD : Hid ((Instr.loadAt 72 (.pointer (some ⟨w.heap.size, 6, none⟩))).run Try.prog wr = .ok (.agg zeroTab) wr) := HG.out.load
          go_wp2_with (refine wpList_loadArr rfl (.tmp 56) 72 rfl _ _ rfl HLD.out ?_)
          clear HLD
          go_loopw [58] (fun i wr => ∃ k : Nat, i = .int .i64 k ∧ k ≤ 256 ∧ GenBlk wr w.heap.size 0 (.slice none 0 0) ∧ Below w.heap.size w wr) (fun i _ => 256 - (intOf i).toNat)
          case atStart => exact ⟨0, rfl, Nat.zero_le _, HG.out, HB.out⟩
          case round =>
            clear HG HB hk hlk
            obtain ⟨k, rfl, hk, hgb, hbel⟩ := hrel
            have HG : Hid (GenBlk wr w.heap.size 0 (.slice none 0 0)) := hgb
            have HB : Hid (Below w.heap.size w wr) := hbel
            clear hgb hbel
            by_cases hlk : k < 256
            · have hz := zeroTab_index hlk wr
              have hc5 := HG.out.c5
              have hcm := HG.out.cm hlk
              have hfm := HG.out.fz (6 + k)
              have HG1 : Hid (GenBlk (wr.setCell ⟨w.heap.size, 6 + k, none⟩ (.int .u8 0)) w.heap.size 0 (.slice none 0 0)) := HG.out.setm hlk
              have HB1 : Hid (Below w.heap.size w (wr.setCell ⟨w.heap.size, 6 + k, none⟩ (.int .u8 0))) := HB.out.setCell (p := ⟨w.heap.size, 6 + k, none⟩) (Nat.le_refl _) _
              clear HG HB
              go_wp2
              go_region
              all_goals
                go_wp2
                go_roundw
                case rel => exact ⟨k + 1, by go_num, by omega, HG1.out.same rfl, HB1.out.drew⟩
                case measure => simp [intOf]; omega
            · have hc5 := HG.out.c5
              obtain ⟨i87, hi, hz0, hz1, hz2⟩ := info_parts Try.info87
              go_wp2_with (at_make
                           refine wpList_make_full _ rfl _ _ 88 rfl wr.heap.size 87 i87 (.pointer none) 1 Try.underlying88 hi hz0 hz1 .i64 .i64 _ _ 0 rfl rfl rfl rfl (by rw [hz2]; omega) (by unfold maxLen; omega) (Nat.le_refl _) ?_
                           intro w2 hown hgrow
                           have h2 : GenBlk w2 w.heap.size 0 (.slice none 0 0) := HG.out.same (hgrow.block _ HG.out.lt (fun e => by cases e))
                           have hc4 := h2.c4
                           have hf4 := h2.fz 4
                           have HB2 : Hid (Below w.heap.size w (w2.setCell ⟨w.heap.size, 4, none⟩ (.slice (some ⟨wr.heap.size, 0, none⟩) 0 0))) := (HB.out.grown hgrow HB.out.size (fun k hk => by cases hk)).setCell (p := ⟨w.heap.size, 4, none⟩) (Nat.le_refl _) _
                           have HG2 : Hid (GenBlk (w2.setCell ⟨w.heap.size, 4, none⟩ (.slice (some ⟨wr.heap.size, 0, none⟩) 0 0)) w.heap.size 0 (.slice (some ⟨wr.heap.size, 0, none⟩) 0 0)) := h2.set4 _
                           clear hown hgrow h2)
              obtain ⟨tb, htb⟩ : ∃ tb, tb = Value.slice (some ⟨wr.heap.size, 0, none⟩) 0 0 := ⟨_, rfl⟩
              have HTB : Hid (∃ a, tb = .slice (some a) 0 0) := ⟨_, htb⟩
              have HG3 : Hid (GenBlk (w2.setCell ⟨w.heap.size, 4, none⟩ (.slice (some ⟨wr.heap.size, 0, none⟩) 0 0)) w.heap.size 0 tb) := by rw [htb]; exact HG2.out
              clear hk hlk hi hz0 hz1 hz2 HG HB hc5 hc4 hf4 HG2 htb
              go_loopw [12] (fun i wx => ((i = .int .i64 0 ∧ GenBlk wx w.heap.size 0 tb) ∨ (i = .int .i64 2 ∧ GenBlk wx w.heap.size 2 tb)) ∧ Below w.heap.size w wx) (fun i _ => (2 - intOf i).toNat)
              case atStart => exact ⟨Or.inl ⟨rfl, HG3.out⟩, HB2.out⟩
              case round =>
                clear HG3 HB2
                obtain ⟨hi, hbel⟩ := hrel
                have HB : Hid (Below w.heap.size w wr) := hbel
                rcases hi with ⟨rfl, hg⟩ | ⟨rfl, hg⟩
                · have hq0 : wr.cell? ⟨c, 0, none⟩ = some (.string ⟨#[]⟩) := (hbel.cell (p := ⟨c, 0, none⟩) hcl).trans HC.out.1
                  have hq1 : wr.cell? ⟨c, 1, none⟩ = some (.string ⟨#[]⟩) := (hbel.cell (p := ⟨c, 1, none⟩) hcl).trans HC.out.2
                  have HA : Hid (Calls Try.prog 39 #[.pointer (some ⟨w.heap.size, 0, none⟩), .string ⟨#[]⟩, .string ⟨#[]⟩, .int .i64 2, .pointer (some ⟨w.heap.size, 0, none⟩)] wr.drew fun e w' => e = .returned (.tuple #[]) ∧ w' = (wr.drew.setCell ⟨w.heap.size, 0, none⟩ (.string ⟨#[]⟩)).setCell ⟨w.heap.size, 1, none⟩ (.int .i64 2)) := add_empty _ tb wr.drew (hg.same rfl)
                  have HE : Hid (GenBlk ((wr.drew.setCell ⟨w.heap.size, 0, none⟩ (.string ⟨#[]⟩)).setCell ⟨w.heap.size, 1, none⟩ (.int .i64 2)) w.heap.size 2 tb ∧ Below w.heap.size w ((wr.drew.setCell ⟨w.heap.size, 0, none⟩ (.string ⟨#[]⟩)).setCell ⟨w.heap.size, 1, none⟩ (.int .i64 2))) :=
                    ⟨((hg.same (w' := wr.drew) rfl).set0).set1 2, (hbel.drew.setCell (p := ⟨w.heap.size, 0, none⟩) (Nat.le_refl _) _).setCell (p := ⟨w.heap.size, 1, none⟩) (Nat.le_refl _) _⟩
                  clear hg hbel
                  go_wp2
                  go_region_with (go_at_call 39; refine Calls.mono HA.out ?_; rintro e w5 ⟨rfl, hw5⟩; have HE5 : Hid (GenBlk w5 w.heap.size 2 tb ∧ Below w.heap.size w w5) := (by rw [hw5]; exact HE.out); clear hw5)
                  all_goals
                    go_wp2
                    go_roundw
                    case rel => exact ⟨Or.inr ⟨rfl, HE5.out.1⟩, HE5.out.2⟩
                    case measure => simp [intOf]
                · have HE : Hid (GenPost w (.returned (.pointer (some ⟨w.heap.size, 0, none⟩))) wr) := ⟨_, tb, rfl, Nat.le_refl _, HTB.out, hg, hbel⟩
                  clear hg hbel
                  go_wp2
                  go_ret
                  exact HE.out

end Go.Proofs.Qxb6614432a
