/-
  THE REPLACER OF ONE PAIR WHOSE FIRST HAS AT LEAST TWO BYTES: makeSingleStringReplacer (32), build (27), Replace (19), NewReplacer (16).
-/
import Derived.Test.Qxb6614432aOnce
namespace Go.Proofs.Qxb6614432a
open Go.RowKit

abbrev badOf (p : ByteArray) : Nat → Int := badTo p.data.toList (p.size - 1)
abbrev goodOf (p : ByteArray) : List Int := gB p.data.toList (p.size - 1)
def KS (p v : ByteArray) (w : World) (val : Value) (F : List Nat) : Prop :=
  ∃ r f g, val = .iface 68 (.pointer (some ⟨r, 0, none⟩)) ∧ F = [r, f, g] ∧ SRep w r f g p v (badOf p) (goodOf p)

theorem KS.kind (p v : ByteArray) : Kind (KS p v) where
  same := by
    rintro w w' val F ⟨r, f, g, h1, rfl, h3⟩ h
    refine ⟨r, f, g, h1, rfl, ⟨(h r (by simp)).trans h3.blk, h3.fin.same (h f (by simp)) (h g (by simp))⟩⟩
  lt := by
    rintro w val F ⟨r, f, g, h1, rfl, h3⟩ k hk
    simp at hk
    rcases hk with rfl | rfl | rfl
    · exact h3.lt
    · exact h3.fin.ltF
    · exact h3.fin.ltG
  val := by
    rintro w val F ⟨r, f, g, h1, h2, h3⟩
    exact ⟨_, _, h1⟩

def FindPost (p : ByteArray) (w : World) (e : Ending) (w' : World) : Prop := ∃ f g, e = .returned (.pointer (some ⟨f, 0, none⟩)) ∧ w.heap.size ≤ f ∧ w.heap.size ≤ g ∧ Finder w' f g p (badOf p) (goodOf p) ∧ Below w.heap.size w w'
def MakePost (p v : ByteArray) (w : World) (e : Ending) (w' : World) : Prop := ∃ r f g, e = .returned (.pointer (some ⟨r, 0, none⟩)) ∧ w.heap.size ≤ r ∧ w.heap.size ≤ f ∧ w.heap.size ≤ g ∧ SRep w' r f g p v (badOf p) (goodOf p) ∧ Below w.heap.size w w'

set_option maxRecDepth 100000 in
set_option maxHeartbeats 2000000 in
theorem makeSingle_any (p v : ByteArray) (w : World) (h2 : 2 ≤ p.size) (hp : p.size ≤ 4096) :
    Calls Try.prog 32 #[.string p, .string v] w fun e w' => MakePost p v w e w' := by
  have HF : Hid (Calls Try.prog 38 #[.string p] w fun e w' => FindPost p w e w') := finder_any p w h2 hp
  go_enter Try.func32, Try.ntmps32
  go_wp2_with (go_at_call 38
               refine Calls.mono HF.out ?_
               rintro e w1 ⟨f, g, rfl, hf, hg, hfi, hb⟩
               have HFI : Hid (Finder w1 f g p (badOf p) (goodOf p)) := hfi
               have HB : Hid (Below w.heap.size w w1) := hb
               clear hfi hb HF)
  go_ret
  refine ⟨_, f, g, rfl, HB.out.size, hf, hg, ⟨heap_alloc_new w1 _, HFI.out.same (Lib.alloc_old w1 _ f HFI.out.ltF) (Lib.alloc_old w1 _ g HFI.out.ltG)⟩, HB.out.alloc HB.out.size _⟩

/-- the pairs, as NewReplacer has laid them -/
def Pair (w : World) (c : Nat) (p v : ByteArray) : Prop := w.cell? ⟨c, 0, none⟩ = some (.string p) ∧ w.cell? ⟨c, 1, none⟩ = some (.string v)

set_option maxRecDepth 100000 in
set_option maxHeartbeats 2000000 in
theorem build_single (p v : ByteArray) (b c cap : Nat) (w : World) (d s : Int) (rv : Value) (h2 : 2 ≤ p.size) (hp : p.size ≤ 4096) (hb : RepBlk w b d s rv (.slice (some ⟨c, 0, none⟩) 2 cap)) (hc : Pair w c p v) :
    Calls Try.prog 27 #[.pointer (some ⟨b, 0, none⟩)] w fun e w' => BuildPost (KS p v) w e w' := by
  have HM : Hid (Calls Try.prog 32 #[.string p, .string v] w.drew fun e w' => MakePost p v w.drew e w') := makeSingle_any p v w.drew h2 hp
  have hc4 := hb.c4
  have hp0 := hc.1
  have hp1 := hc.2
  have h2' : 1 < p.size := h2
  clear hb hc
  go_enter Try.func27, Try.ntmps27
  go_wp2
  go_region_with (go_at_call 32
                  refine Calls.mono HM.out ?_
                  rintro e w1 ⟨r, f, g, rfl, hr, hf, hg, hs, hbe⟩
                  have HE : Hid (BuildPost (KS p v) w (.returned (.iface 68 (.pointer (some ⟨r, 0, none⟩)))) w1) := by
                    refine ⟨_, _, [r, f, g], rfl, ⟨r, f, g, rfl, rfl, hs⟩, ?_, below_undrew hbe⟩
                    intro k hk
                    simp at hk
                    rcases hk with rfl | rfl | rfl
                    · exact hr
                    · exact hf
                    · exact hg
                  clear hr hf hg hs hbe)
  all_goals
    go_wp2
    go_ret
    exact HE.out

end Go.Proofs.Qxb6614432a
