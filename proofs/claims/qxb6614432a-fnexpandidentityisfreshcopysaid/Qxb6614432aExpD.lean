/-
  ZZexpand (9), on the road of one pair whose first has at least two bytes.
-/
import Derived.Test.Qxb6614432aExpC
namespace Go.Proofs.Qxb6614432a
open Go.RowKit

theorem ExpPost.mono {S : ByteArray → ByteArray → Prop} {w w0 w' : World} {en : Nat} {es : List ByteArray} {aa : Option Addr} {an : Nat} {xs : List ByteArray} {e : Ending} (h : ExpPost S w0 en es aa an xs e w') (hb : Below w.heap.size w w0) : ExpPost S w en es aa an xs e w' := by
  obtain ⟨x, v, ds, fs, h1, h2, h3, h4, h5, h6, h7⟩ := h
  have hs := hb.size
  refine ⟨x, v, ds, fs, h1, by omega, h3, h4, ?_, h6, hb.trans (h7.mono hs)⟩
  rcases h5 with a | ⟨y, yc, a1, a2, a3, a4⟩
  · exact Or.inl a
  · exact Or.inr ⟨y, yc, a1, a2, by omega, a4⟩

/-- the command as a literal lays it -/
theorem cmd_lit (w : World) (ea : Option Addr) (en ec : Nat) (es : List ByteArray) (aa : Option Addr) (an ac : Nat) (xs : List ByteArray) (x2 x3 x4 : Value) (he : SliceAt w ea en (strVals es)) (ha : SliceAt w aa an (strVals xs)) :
    Cmd (w.alloc (.cells #[.slice ea en ec, .slice aa an ac, x2, x3, x4] 37)) w.heap.size ea en ec es aa an ac xs := by
  have h : (w.alloc (.cells #[.slice ea en ec, .slice aa an ac, x2, x3, x4] 37)).heap[w.heap.size]? = _ := heap_alloc_new w _
  have hb : Below w.heap.size w (w.alloc (.cells #[.slice ea en ec, .slice aa an ac, x2, x3, x4] 37)) := (Below.refl _ _).alloc (Nat.le_refl _) _
  exact ⟨(Array.getElem?_eq_some_iff.1 h).1, by rw [Lib.cell_of_heap h]; rfl, by rw [Lib.cell_of_heap h]; rfl, he.below hb, ha.below hb⟩

set_option maxRecDepth 100000 in
set_option maxHeartbeats 4000000 in
theorem zzexpand_single (p v : ByteArray) (w : World) (ea : Option Addr) (en ec : Nat) (es : List ByteArray) (aa : Option Addr) (an ac : Nat) (xs : List ByteArray) (h2 : 2 ≤ p.size) (hp : p.size ≤ 4096) (hv : v.size ≤ p.size)
    (he : SliceAt w ea en (strVals es)) (ha : SliceAt w aa an (strVals xs)) (hen : en ≤ 1048576) (han : an ≤ 1048576) (hes : ∀ s ∈ es, s.size ≤ 1048576) (hxs : ∀ s ∈ xs, s.size ≤ 1048576) :
    Calls Try.prog 9 #[.slice ea en ec, .slice aa an ac, .string p, .string v] w fun e w' => ExpPost (Says p v) w en es aa an xs e w' := by
  have HE : Hid (SliceAt w ea en (strVals es)) := he
  have HA : Hid (SliceAt w aa an (strVals xs)) := ha
  have HES : Hid (∀ s ∈ es, s.size ≤ 1048576) := hes
  have HXS : Hid (∀ s ∈ xs, s.size ≤ 1048576) := hxs
  clear he ha hes hxs
  obtain ⟨wc, hwc⟩ : ∃ wc, wc = w.alloc (.cells #[.slice ea en ec, .slice aa an ac, .nilIface, .bool false, .int .i64 0] 37) := ⟨_, rfl⟩
  have HCM : Hid (Cmd wc w.heap.size ea en ec es aa an ac xs) := by rw [hwc]; exact cmd_lit w ea en ec es aa an ac xs _ _ _ HE.out HA.out
  have HBC : Hid (Below w.heap.size w wc) := by rw [hwc]; exact (Below.refl _ _).alloc (Nat.le_refl _) _
  have HSZ : Hid (wc.heap.size = w.heap.size + 1) := by rw [hwc]; show (w.alloc _).heap.size = _; simp
  have HN : Hid (Calls Try.prog 16 #[.slice (some ⟨w.heap.size + 1, 0, none⟩) 2 2] (wc.alloc (.cells #[.string p, .string v] 9)) fun e w' => NewPost p v (wc.alloc (.cells #[.string p, .string v] 9)) e w') := by
    have h := newReplacer_any p v wc.heap.size 2 _ (pair_lit wc p v)
    rw [HSZ.out] at h
    exact h
  have HAL : Hid (Below wc.heap.size wc (wc.alloc (.cells #[.string p, .string v] 9))) := (Below.refl _ _).alloc (Nat.le_refl _) _
  have HWC : Hid (wc = w.alloc (.cells #[.slice ea en ec, .slice aa an ac, .nilIface, .bool false, .int .i64 0] 37)) := hwc
  clear hwc
  go_enter Try.func9, Try.ntmps9
  go_wp2_with first
    | (go_at_call 16
       rw [← HWC.out]
       refine Calls.mono HN.out ?_
       rintro e w2 ⟨b, F, rfl, hb, hra, hge, hbe⟩
       have HB2 : Hid (Below wc.heap.size wc w2) := HAL.out.trans (hbe.mono HAL.out.size)
       have HEX : Hid (Calls Try.prog 15 #[.pointer (some ⟨w.heap.size, 0, none⟩), .pointer (some ⟨b, 0, none⟩)] w2 fun e w' => ExpPost (Says p v) wc en es aa an xs e w') :=
         expand_any (single_replaces p v b h2 hp hv) wc w2 w.heap.size ea en ec es aa an ac xs HCM.out HB2.out F hra (fun k hk => Nat.le_trans HAL.out.size (hge k hk)) hen han HES.out HXS.out
       clear hb hra hge hbe HN HAL)
    | (go_at_call 15
       refine Calls.mono HEX.out ?_
       rintro e w3 ⟨x, vv, ds, fs, rfl, hrest⟩
       have HF : Hid (ExpPost (Says p v) w en es aa an xs (.returned (.tuple #[.slice (some ⟨x, 0, none⟩) en en, vv])) w3) := ExpPost.mono ⟨x, vv, ds, fs, rfl, hrest⟩ HBC.out
       clear hrest HEX)
  go_ret2
  exact HF.out

end Go.Proofs.Qxb6614432a
