/-
  THE BYTE ROAD: build (27).
-/
import Derived.Test.Qxb6614432aByteA
import Derived.Deep.WholeRow
namespace Go.Proofs.Qxb6614432a
open Go.RowKit

def KB (w : World) (val : Value) (F : List Nat) : Prop := ∃ r, val = .iface 74 (.pointer (some ⟨r, 0, none⟩)) ∧ F = [r] ∧ ByteTab w r (fun c => c)
theorem KB.kind : Kind KB where
  same := by
    rintro w w' val F ⟨r, h1, rfl, h3⟩ h
    exact ⟨r, h1, rfl, h3.same (h r (by simp))⟩
  lt := by
    rintro w val F ⟨r, h1, rfl, h3⟩ k hk
    simp at hk
    subst hk
    exact h3.lt
  val := by
    rintro w val F ⟨r, h1, h2, h3⟩
    exact ⟨_, _, h1⟩

theorem zero73 : Try.zeroCells73 = Array.replicate 256 (.int .u8 0) := by kernel_rfl
def idTo (k : Nat) : Nat → Int := fun c => if c < k then (c : Int) else 0
theorem tab_start (w : World) : ByteTab (w.alloc (.cells Try.zeroCells73 73)) w.heap.size (idTo 0) := by
  refine ⟨_, heap_alloc_new w _, by rw [zero73]; simp, fun c hc => ?_⟩
  rw [zero73]
  simp [idTo, hc]
theorem idTo_step (k : Nat) : ∀ x, x < 256 → (if x = k then (k : Int) else idTo k x) = idTo (k + 1) x := by
  intro x _
  unfold idTo
  by_cases h : x = k
  · subst h; simp
  · by_cases h2 : x < k
    · simp [h, h2]; omega
    · have : ¬ x < k + 1 := by omega
      simp [h, h2, this]

set_option maxRecDepth 100000 in
set_option maxHeartbeats 2000000 in
theorem build_byte (p : ByteArray) (b c cap : Nat) (w : World) (d s : Int) (rv : Value) (h1 : p.size = 1) (hb : RepBlk w b d s rv (.slice (some ⟨c, 0, none⟩) 2 cap)) (hc : Pair w c p p) :
    Calls Try.prog 27 #[.pointer (some ⟨b, 0, none⟩)] w fun e w' => BuildPost KB w e w' := by
  have hc4 := hb.c4
  have hp0 := hc.1
  have hp1 := hc.2
  have HC : Hid (Pair w c p p) := hc
  clear hb hc
  go_enter Try.func27, Try.ntmps27
  go_wp2
  go_loop [4, 5] (fun a i => a = .bool true ∧ (i = .int .i64 0 ∨ i = .int .i64 2)) (fun _ i => (2 - intOf i).toNat)
  case atStart => exact ⟨rfl, Or.inl rfl⟩
  case round =>
    obtain ⟨rfl, rfl | rfl⟩ := hrel
    · go_wp2
      go_round
      case rel => exact ⟨rfl, Or.inr rfl⟩
      case measure => simp [intOf]
    · have hst := run_storeCells_new (P := Try.prog) w 73 Try.zeroCells73 Try.zeroCells73 (by kernel_rfl) rfl (by kernel_rfl)
      have HT0 : Hid (ByteTab (w.alloc (.cells Try.zeroCells73 73)) w.heap.size (idTo 0)) := tab_start w
      have HB0 : Hid (Below w.heap.size w (w.alloc (.cells Try.zeroCells73 73))) := (Below.refl _ _).alloc (Nat.le_refl _) _
      go_wp2
      go_loopw [61] (fun i wr => ∃ k : Nat, i = .int .i64 k ∧ k ≤ 256 ∧ ByteTab wr w.heap.size (idTo k) ∧ Below w.heap.size w wr) (fun i _ => 256 - (intOf i).toNat)
      case atStart => exact ⟨0, rfl, Nat.zero_le _, HT0.out, HB0.out⟩
      case round =>
        clear HT0 HB0 hst
        obtain ⟨k, rfl, hk, hft, hbel⟩ := hrel
        have HT : Hid (ByteTab wr w.heap.size (idTo k)) := hft
        have HB : Hid (Below w.heap.size w wr) := hbel
        clear hft hbel
        by_cases hlk : k < 256
        · have hcc := HT.out.cell hlk
          have hz := HT.out.fz k
          have HT1 : Hid (ByteTab (wr.setCell ⟨w.heap.size, k, none⟩ (.int .u8 k)) w.heap.size (idTo (k + 1))) := HT.out.set _ (idTo_step k)
          have HB1 : Hid (Below w.heap.size w (wr.setCell ⟨w.heap.size, k, none⟩ (.int .u8 k))) := HB.out.setCell (p := ⟨w.heap.size, k, none⟩) (Nat.le_refl _) _
          clear HT HB
          go_wp2
          go_roundw
          case rel => exact ⟨k + 1, by go_num, by omega, HT1.out, HB1.out⟩
          case measure => simp [intOf]; omega
        · have HT1 : Hid (ByteTab wr w.heap.size (fun c => c)) := by
            obtain ⟨cs, g1, g2, g3⟩ := HT.out
            refine ⟨cs, g1, g2, fun c hc => ?_⟩
            rw [g3 c hc]
            unfold idTo
            rw [if_pos (by omega)]
          clear HT
          go_wp2
          go_loopw [8] (fun i wx => (i = .int .i64 0 ∨ i = .int .i64 (-2)) ∧ ByteTab wx w.heap.size (fun c => c) ∧ Below w.heap.size w wx) (fun i _ => (2 + intOf i).toNat)
          case atStart => exact ⟨Or.inl rfl, HT1.out, HB.out⟩
          case round =>
            clear HT1 HB
            obtain ⟨hi, hft, hbel⟩ := hrel
            have HT : Hid (ByteTab wr w.heap.size (fun c => c)) := hft
            have HB : Hid (Below w.heap.size w wr) := hbel
            have hcl : c < w.heap.size := World.block_lt_of_cell? _ _ HC.out.1
            have hq0 : wr.cell? ⟨c, 0, none⟩ = some (.string p) := (hbel.cell (p := ⟨c, 0, none⟩) hcl).trans HC.out.1
            have hq1 : wr.cell? ⟨c, 1, none⟩ = some (.string p) := (hbel.cell (p := ⟨c, 1, none⟩) hcl).trans HC.out.2
            clear hft hbel
            rcases hi with rfl | rfl
            · have hp00 : 0 < p.size := by omega
              have h256 : p[0].toNat < 256 := p[0].toNat_lt
              have hcc := HT.out.cell h256
              have hz := HT.out.fz p[0].toNat
              have HT2 : Hid (ByteTab (wr.setCell ⟨w.heap.size, p[0].toNat, none⟩ (.int .u8 p[0].toNat)) w.heap.size (fun c => c)) := HT.out.set _ (fun x _ => by by_cases e : x = p[0].toNat <;> simp [e])
              have HB2 : Hid (Below w.heap.size w (wr.setCell ⟨w.heap.size, p[0].toNat, none⟩ (.int .u8 p[0].toNat))) := HB.out.setCell (p := ⟨w.heap.size, p[0].toNat, none⟩) (Nat.le_refl _) _
              clear HT HB
              go_wp2
              go_roundw
              case rel => exact ⟨Or.inr rfl, HT2.out, HB2.out⟩
              case measure => simp [intOf]
            · have HE : Hid (BuildPost KB w (.returned (.iface 74 (.pointer (some ⟨w.heap.size, 0, none⟩)))) wr) :=
                ⟨_, _, [w.heap.size], rfl, ⟨_, rfl, rfl, HT.out⟩, fun k hk => by simp at hk; omega, HB.out⟩
              go_wp2
              go_ret
              exact HE.out

end Go.Proofs.Qxb6614432a
