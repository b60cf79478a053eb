/-
  ZZexpand (9), at a pair of one word: every string comes back as it was.
-/
import Derived.Test.Qxb6614432aRoad
import Derived.Test.Qxb6614432aExpD
namespace Go.Proofs.Qxb6614432a
open Go.RowKit

def FreshPost (p v : ByteArray) (w : World) (e : Ending) (w' : World) : Prop := ∃ b F, e = .returned (.pointer (some ⟨b, 0, none⟩)) ∧ w.heap.size ≤ b ∧ Fresh w' b p v F ∧ (∀ k ∈ F, w.heap.size ≤ k) ∧ Below w.heap.size w w'

theorem Replaces.weaken {b : Nat} {R : World → List Nat → Prop} {S S' : ByteArray → ByteArray → Prop} (h : Replaces b R S) (hs : ∀ s o, S s o → S' s o) (hz : ∀ s o, S' s o → o.size ≤ s.size) : Replaces b R S' :=
  ⟨h.same, h.lt, h.mem, hz, fun w F s h1 h2 => (h.call w F s h1 h2).mono fun _ _ ⟨o, a, b, c, d⟩ => ⟨o, a, hs _ _ b, c, d⟩⟩

theorem chop_same {p s : List UInt8} {safe : Prop} {i : Nat} {l : List UInt8} (h : Chop p p s safe i l) : l = s.take i := by
  induction h with
  | start => rfl
  | @step i m l _ h2 _ ih =>
    rw [List.take_add, List.take_add, ih, List.append_assoc]
    congr 2
    apply List.ext_getElem?
    intro x
    by_cases hx : x < p.length
    · rw [List.getElem?_take, if_pos hx, List.getElem?_drop]; exact (h2 x hx).symm
    · rw [List.getElem?_eq_none (by omega), List.getElem?_eq_none (by rw [List.length_take]; omega)]
theorem says_same {p s o : ByteArray} (h : Says p p s o) : o = s := by
  obtain ⟨i, l, h1, _, h3, _⟩ := h
  rw [chop_same h1, List.take_append_drop] at h3
  apply ByteArray.ext
  apply Array.toList_inj.1
  exact h3

set_option maxRecDepth 100000 in
set_option maxHeartbeats 4000000 in
theorem zzexpand_of (S : ByteArray → ByteArray → Prop) (p v : ByteArray) (w : World) (ea : Option Addr) (en ec : Nat) (es : List ByteArray) (aa : Option Addr) (an ac : Nat) (xs : List ByteArray) (hR : ∀ b, ∃ R, Replaces b R S ∧ ∀ w F, Fresh w b p v F → R w F)
    (he : SliceAt w ea en (strVals es)) (ha : SliceAt w aa an (strVals xs)) (hen : en ≤ 1048576) (han : an ≤ 1048576) (hes : ∀ s ∈ es, s.size ≤ 1048576) (hxs : ∀ s ∈ xs, s.size ≤ 1048576) :
    Calls Try.prog 9 #[.slice ea en ec, .slice aa an ac, .string p, .string v] w fun e w' => ExpPost S w en es aa an xs e w' := by
  have HE : Hid (SliceAt w ea en (strVals es)) := he
  have HA : Hid (SliceAt w aa an (strVals xs)) := ha
  have HES : Hid (∀ s ∈ es, s.size ≤ 1048576) := hes
  have HXS : Hid (∀ s ∈ xs, s.size ≤ 1048576) := hxs
  have HR : Hid (∀ b, ∃ R, Replaces b R S ∧ ∀ w F, Fresh w b p v F → R w F) := hR
  clear he ha hes hxs hR
  obtain ⟨wc, hwc⟩ : ∃ wc, wc = w.alloc (.cells #[.slice ea en ec, .slice aa an ac, .nilIface, .bool false, .int .i64 0] 37) := ⟨_, rfl⟩
  have HCM : Hid (Cmd wc w.heap.size ea en ec es aa an ac xs) := by rw [hwc]; exact cmd_lit w ea en ec es aa an ac xs _ _ _ HE.out HA.out
  have HBC : Hid (Below w.heap.size w wc) := by rw [hwc]; exact (Below.refl _ _).alloc (Nat.le_refl _) _
  have HSZ : Hid (wc.heap.size = w.heap.size + 1) := by rw [hwc]; show (w.alloc _).heap.size = _; simp
  have HN : Hid (Calls Try.prog 16 #[.slice (some ⟨w.heap.size + 1, 0, none⟩) 2 2] (wc.alloc (.cells #[.string p, .string v] 9)) fun e w' => FreshPost p v (wc.alloc (.cells #[.string p, .string v] 9)) e w') := by
    have h := newReplacer_fresh p v wc.heap.size 2 _ (pair_lit wc p v)
    rw [HSZ.out] at h
    exact h
  have HAL : Hid (Below wc.heap.size wc (wc.alloc (.cells #[.string p, .string v] 9))) := (Below.refl _ _).alloc (Nat.le_refl _) _
  have HWC : Hid (wc = w.alloc (.cells #[.slice ea en ec, .slice aa an ac, .nilIface, .bool false, .int .i64 0] 37)) := hwc
  clear hwc
  go_enter Try.func9, Try.ntmps9
  go_wp2_with first
    | (go_at_call 16
       rw [← HWC.out]
       refine Calls.mono HN.out ?_
       rintro e w2 ⟨b, F, rfl, hb, hra, hge, hbe⟩
       obtain ⟨R, hRb, hRF⟩ := HR.out b
       have HB2 : Hid (Below wc.heap.size wc w2) := HAL.out.trans (hbe.mono HAL.out.size)
       have HEX : Hid (Calls Try.prog 15 #[.pointer (some ⟨w.heap.size, 0, none⟩), .pointer (some ⟨b, 0, none⟩)] w2 fun e w' => ExpPost S wc en es aa an xs e w') :=
         expand_any hRb wc w2 w.heap.size ea en ec es aa an ac xs HCM.out HB2.out F (hRF _ _ hra) (fun k hk => Nat.le_trans HAL.out.size (hge k hk)) hen han HES.out HXS.out
       clear hb hra hge hbe HN HAL hRb hRF)
    | (go_at_call 15
       refine Calls.mono HEX.out ?_
       rintro e w3 ⟨x, vv, ds, fs, rfl, hrest⟩
       have HF : Hid (ExpPost S w en es aa an xs (.returned (.tuple #[.slice (some ⟨x, 0, none⟩) en en, vv])) w3) := ExpPost.mono ⟨x, vv, ds, fs, rfl, hrest⟩ HBC.out
       clear hrest HEX)
  go_ret2
  exact HF.out

theorem same_road (p : ByteArray) (hp : p.size ≤ 4096) : ∀ b, ∃ R, Replaces b R (fun s o => o = s) ∧ ∀ w F, Fresh w b p p F → R w F := by
  intro b
  by_cases h2 : 2 ≤ p.size
  · exact ⟨_, (single_replaces p p b h2 hp (Nat.le_refl _)).weaken (fun _ _ h => says_same h) (fun _ _ h => by rw [h]; exact Nat.le_refl _), fun _ _ h => h.at⟩
  · by_cases h1 : p.size = 1
    · exact ⟨_, byte_replaces p b h1, fun _ _ h => Or.inl h⟩
    · have h0 : p = ⟨#[]⟩ := by
        apply ByteArray.ext
        apply Array.eq_empty_of_size_eq_zero
        show p.size = 0
        omega
      exact ⟨_, gen_replaces p b h0, fun _ _ h => Or.inl h⟩

theorem env_same {es ds : List ByteArray} {n : Nat} (hl : es.length = n) (hd : ds.length = n) (h : EnvDone (fun s o => o = s) es ds n) : ds = es := by
  apply List.ext_getElem? 
  intro i
  by_cases hi : i < n
  · obtain ⟨s, t, h1, h2, h3⟩ := h i hi
    rw [h1, h2]
    rcases h3 with ⟨_, rfl⟩ | ⟨q, _, hq, o, rfl, rfl⟩
    · rfl
    · congr 1
      apply ByteArray.ext
      apply Array.toList_inj.1
      simp
  · rw [List.getElem?_eq_none (by omega), List.getElem?_eq_none (by omega)]
theorem args_same {xs fs : List ByteArray} {n : Nat} (hl : xs.length = n) (hd : fs.length = n) (h : ArgsDone (fun s o => o = s) xs fs n) : fs = xs := by
  apply List.ext_getElem? 
  intro i
  by_cases hi : i < n
  · have hx : xs[i]? = some xs[i] := List.getElem?_eq_getElem (by omega)
    obtain ⟨t, h1, h2⟩ := h i _ hx
    rw [h1, hx]
    by_cases c : 1 ≤ i ∧ i < n
    · rw [if_pos c] at h2; rw [h2]
    · rw [if_neg c] at h2; rw [h2]
  · rw [List.getElem?_eq_none (by omega), List.getElem?_eq_none (by omega)]

/-- what ZZexpand hands back at old = new -/
def SamePair (w0 : World) (en : Nat) (es : List ByteArray) (aa : Option Addr) (an : Nat) (xs : List ByteArray) (e : Ending) (w' : World) : Prop :=
  ∃ (x : Nat) (v : Value), e = .returned (.tuple #[.slice (some ⟨x, 0, none⟩) en en, v]) ∧ w0.heap.size ≤ x ∧ RowHas w' x en es ∧ ArgsRow w' w0 aa an v xs x ∧ Below w0.heap.size w0 w'

theorem zzexpand_same (p : ByteArray) (w : World) (ea : Option Addr) (en ec : Nat) (es : List ByteArray) (aa : Option Addr) (an ac : Nat) (xs : List ByteArray) (hp : p.size ≤ 4096)
    (he : SliceAt w ea en (strVals es)) (ha : SliceAt w aa an (strVals xs)) (hen : en ≤ 1048576) (han : an ≤ 1048576) (hes : ∀ s ∈ es, s.size ≤ 1048576) (hxs : ∀ s ∈ xs, s.size ≤ 1048576) :
    Calls Try.prog 9 #[.slice ea en ec, .slice aa an ac, .string p, .string p] w fun e w' => SamePair w en es aa an xs e w' := by
  refine (zzexpand_of (fun s o => o = s) p p w ea en ec es aa an ac xs (same_road p hp) he ha hen han hes hxs).mono ?_
  rintro e w' ⟨x, v, ds, fs, h1, h2, h3, h4, h5, h6, h7⟩
  have hl : es.length = en := by have := he.len; simpa using this
  have hl2 : xs.length = an := by have := ha.len; simpa using this
  have e1 := env_same hl h3.1 h4
  subst e1
  have h8 : fs.length = an := by
    rcases h5 with ⟨_, _, h, h'⟩ | ⟨_, _, _, _, _, _, h⟩
    · rw [h, h']; rfl
    · exact h.1
  have e2 := args_same hl2 h8 h6
  subst e2
  exact ⟨x, v, h1, h2, h3, h5, h7⟩

end Go.Proofs.Qxb6614432a
