/-
  ZZexpand (9) and HasPattern (13), on the road of one pair whose first has at least two bytes.
-/
import Derived.Test.Qxb6614432aExpB
namespace Go.Proofs.Qxb6614432a
open Go.RowKit

def Says (p v s o : ByteArray) : Prop := RepSays p.data.toList v.data.toList s.data.toList (Safe p.data.toList (badOf p) (goodOf p)) o.data.toList

theorem RepSays.size {p v s out : List UInt8} {safe : Prop} (h : RepSays p v s safe out) (hv : v.length ≤ p.length) : out.length ≤ s.length := by
  obtain ⟨i, l, h1, h2, rfl, _⟩ := h
  have := h1.le hv
  rw [List.length_append, List.length_drop]
  omega

theorem single_replaces (p v : ByteArray) (b : Nat) (h2 : 2 ≤ p.size) (hp : p.size ≤ 4096) (hv : v.size ≤ p.size) : Replaces b (fun w F => RepAt w b p v F) (Says p v) where
  same := fun _ _ _ h hs => h.same hs
  lt := fun _ _ h => h.lt
  mem := by
    rintro w F (⟨c, cap, _, _, _, rfl⟩ | ⟨rv, F', _, _, _, rfl⟩) <;> simp
  size := by
    intro s o h
    have := RepSays.size h (by rw [← Lib.size_eq, ← Lib.size_eq]; exact hv)
    rwa [← Lib.size_eq, ← Lib.size_eq] at this
  call := fun w F s hs h => replace_any p v s b F w h2 hp hv hs h

theorem equal_any (w : World) (a1 a2 : Option Addr) (n c d : Nat) (xs ys : List ByteArray) (h1 : SliceAt w a1 n (strVals xs)) (h2 : SliceAt w a2 n (strVals ys)) (hn : n ≤ 1048576) :
    Calls Try.prog 17 #[.slice a1 n c, .slice a2 n d] w fun e w' => e = .returned (.bool (decide (xs = ys))) ∧ ∃ q, w' = w.drewN q := by
  have l1 := h1.len
  have l2 := h2.len
  by_cases h0 : n = 0
  · subst h0
    have e1 : xs = [] := List.eq_nil_of_length_eq_zero l1
    have e2 : ys = [] := List.eq_nil_of_length_eq_zero l2
    subst e1 e2
    refine (Try.slices_Equal_string_empty a1 a2 c 0 d w (by omega)).mono ?_
    rintro e w' ⟨rfl, rfl⟩
    exact ⟨rfl, 0, rfl⟩
  · obtain ⟨b1, o1, rfl, _, hc1⟩ := h1.2 (by omega)
    obtain ⟨b2, o2, rfl, _, hc2⟩ := h2.2 (by omega)
    refine (Try.slices_Equal_string b1 o1 n c b2 o2 n d xs ys w (by omega) (by omega) (by omega) (by omega) (fun j hj => ?_) (fun j hj => ?_)).mono ?_
    · rw [hc1 j (by omega)]; simp [List.getD_eq_getElem?_getD, hj]
    · rw [hc2 j (by omega)]; simp [List.getD_eq_getElem?_getD, hj]
    · rintro e w' ⟨rfl, h3⟩
      rw [List.take_of_length_le (by omega), List.take_of_length_le (by omega)]
      exact ⟨rfl, h3⟩

def NewPost (p v : ByteArray) (w : World) (e : Ending) (w' : World) : Prop := ∃ b F, e = .returned (.pointer (some ⟨b, 0, none⟩)) ∧ w.heap.size ≤ b ∧ RepAt w' b p v F ∧ (∀ k ∈ F, w.heap.size ≤ k) ∧ Below w.heap.size w w'
def HasPost (p : ByteArray) (w : World) (en : Nat) (es : List ByteArray) (an : Nat) (xs : List ByteArray) (e : Ending) (w' : World) : Prop :=
  ∃ ds fs, e = .returned (.bool (!decide (ds = es) || !decide (fs = xs))) ∧ ds.length = en ∧ EnvDone (Says p ⟨#[]⟩) es ds en ∧ fs.length = an ∧ ArgsDone (Says p ⟨#[]⟩) xs fs an ∧ Below w.heap.size w w'

theorem pair_lit (w : World) (p v : ByteArray) : Pair (w.alloc (.cells #[.string p, .string v] 9)) w.heap.size p v := by
  have h : (w.alloc (.cells #[.string p, .string v] 9)).heap[w.heap.size]? = _ := heap_alloc_new w _
  exact ⟨by rw [Lib.cell_of_heap h]; rfl, by rw [Lib.cell_of_heap h]; rfl⟩
theorem ArgsRow.slice {w' w0 : World} {aa : Option Addr} {an : Nat} {v : Value} {fs : List ByteArray} {x : Nat} (h : ArgsRow w' w0 aa an v fs x) : ∃ ya yc, v = .slice ya an yc ∧ SliceAt w' ya an (strVals fs) := by
  rcases h with ⟨_, rfl, rfl, rfl⟩ | ⟨y, yc, _, rfl, _, _, h⟩
  · exact ⟨none, 0, rfl, SliceAt.nil _⟩
  · exact ⟨_, yc, rfl, h.slice⟩

def word : ByteArray := ⟨#[80, 65, 84, 84, 69, 82, 78]⟩
theorem word_size : word.size = 7 := rfl

set_option maxRecDepth 100000 in
set_option maxHeartbeats 4000000 in
theorem hasPattern_any (w : World) (cb : Nat) (ea : Option Addr) (en ec : Nat) (es : List ByteArray) (aa : Option Addr) (an ac : Nat) (xs : List ByteArray)
    (hc : Cmd w cb ea en ec es aa an ac xs) (hen : en ≤ 1048576) (han : an ≤ 1048576) (hes : ∀ s ∈ es, s.size ≤ 1048576) (hxs : ∀ s ∈ xs, s.size ≤ 1048576) :
    Calls Try.prog 13 #[.pointer (some ⟨cb, 0, none⟩)] w fun e w' => HasPost word w en es an xs e w' := by
  have HC : Hid (Cmd w cb ea en ec es aa an ac xs) := hc
  have HES : Hid (∀ s ∈ es, s.size ≤ 1048576) := hes
  have HXS : Hid (∀ s ∈ xs, s.size ≤ 1048576) := hxs
  clear hc hes hxs
  have HN : Hid (Calls Try.prog 16 #[.slice (some ⟨w.heap.size, 0, none⟩) 2 2] (w.alloc (.cells #[.string ⟨#[80, 65, 84, 84, 69, 82, 78]⟩, .string ⟨#[]⟩] 9)) fun e w' => NewPost word ⟨#[]⟩ (w.alloc (.cells #[.string ⟨#[80, 65, 84, 84, 69, 82, 78]⟩, .string ⟨#[]⟩] 9)) e w') :=
    newReplacer_any word ⟨#[]⟩ w.heap.size 2 _ (pair_lit w _ _)
  have HAL : Hid (Below w.heap.size w (w.alloc (.cells #[.string ⟨#[80, 65, 84, 84, 69, 82, 78]⟩, .string ⟨#[]⟩] 9))) := (Below.refl _ _).alloc (Nat.le_refl _) _
  go_enter Try.func13, Try.ntmps13
  go_wp2_with first
    | (go_at_call 16
       refine Calls.mono HN.out ?_
       rintro e w2 ⟨b, F, rfl, hb, hra, hge, hbe⟩
       have HB2 : Hid (Below w.heap.size w w2) := HAL.out.trans (hbe.mono HAL.out.size)
       have HEX : Hid (Calls Try.prog 15 #[.pointer (some ⟨cb, 0, none⟩), .pointer (some ⟨b, 0, none⟩)] w2 fun e w' => ExpPost (Says word ⟨#[]⟩) w en es aa an xs e w') :=
         expand_any (single_replaces word ⟨#[]⟩ b (by rw [word_size]; omega) (by rw [word_size]; omega) (Nat.zero_le _)) w w2 cb ea en ec es aa an ac xs HC.out HB2.out F hra (fun k hk => Nat.le_trans HAL.out.size (hge k hk)) hen han HES.out HXS.out
       clear hb hra hge hbe HN HAL)
    | (go_at_call 15
       refine Calls.mono HEX.out ?_
       rintro e w3 ⟨x, v, ds, fs, rfl, hx, hrx, hed, hargs, had, hb3⟩
       obtain ⟨ya, yc, rfl, hsl⟩ := hargs.slice
       have hc3 := HC.out.below hb3
       have hce := hc3.e
       have hca := hc3.a
       have HE1 : Hid (Calls Try.prog 17 #[.slice (some ⟨x, 0, none⟩) en en, .slice ea en ec] w3 fun e w' => e = .returned (.bool (decide (ds = es))) ∧ ∃ q', w' = w3.drewN q') := equal_any w3 _ _ en en ec ds es hrx.slice hc3.es hen
       have HE2 : Hid (∀ q, Calls Try.prog 17 #[.slice ya an yc, .slice aa an ac] (w3.drewN q) fun e w' => e = .returned (.bool (decide (fs = xs))) ∧ ∃ q', w' = (w3.drewN q).drewN q') := fun q => equal_any (w3.drewN q) _ _ an yc ac fs xs hsl hc3.as' han
       have HR : Hid (∀ q, HasPost word w en es an xs (.returned (.bool (!decide (ds = es) || !decide (fs = xs)))) (w3.drewN q)) := fun q => ⟨ds, fs, rfl, hrx.1, hed, hsl.len, had, below_drewN hb3 q⟩
       clear hx hrx hed hargs had hb3 hsl hc3 HEX)
  rcases hd1 : decide (ds = es) with _ | _
  · have HE1' : Hid (Calls Try.prog 17 #[.slice (some ⟨x, 0, none⟩) en en, .slice ea en ec] w3 fun e w' => e = .returned (.bool false) ∧ ∃ q', w' = w3.drewN q') := by
      have h := HE1.out
      rw [hd1] at h; exact h
    have HR' : Hid (∀ q, HasPost word w en es an xs (.returned (.bool true)) (w3.drewN q)) := by
      have h := HR.out
      rw [hd1] at h; exact h
    clear hd1 HE1 HR
    refine Calls.mono HE1'.out ?_
    rintro e w4 ⟨rfl, q, rfl⟩
    go_wp2
    go_ret
    exact HR'.out _
  · have HE1' : Hid (Calls Try.prog 17 #[.slice (some ⟨x, 0, none⟩) en en, .slice ea en ec] w3 fun e w' => e = .returned (.bool true) ∧ ∃ q', w' = w3.drewN q') := by
      have h := HE1.out
      rw [hd1] at h; exact h
    have HR' : Hid (∀ q, HasPost word w en es an xs (.returned (.bool (!decide (fs = xs)))) (w3.drewN q)) := by
      have h := HR.out
      rw [hd1] at h; exact h
    obtain ⟨b2, hb2⟩ : ∃ b2, decide (fs = xs) = b2 := ⟨_, rfl⟩
    rw [hb2] at HR' HE2
    clear hd1 HE1 HR hb2
    refine Calls.mono HE1'.out ?_
    rintro e w4 ⟨rfl, q, rfl⟩
    go_wp2_with (go_at_call 17; refine Calls.mono (HE2.out _) ?_; rintro e w5 ⟨rfl, q', rfl⟩)
    go_ret
    exact HR'.out _

end Go.Proofs.Qxb6614432a
