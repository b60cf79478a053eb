/-
  THE REPLACER ON WHATEVER ROAD: what lies behind NewReplacer (16), what behind the first Replace (19).
-/
import Derived.Test.Qxb6614432aGenF
import Derived.Test.Qxb6614432aByteB
namespace Go.Proofs.Qxb6614432a
open Go.RowKit

def Fresh (w : World) (b : Nat) (p v : ByteArray) (F : List Nat) : Prop :=
  ∃ c cap, RepBlk w b 0 0 .nilIface (.slice (some ⟨c, 0, none⟩) 2 cap) ∧ Pair w c p v ∧ c ≠ b ∧ F = [b, c]
def RepOn (K : World → Value → List Nat → Prop) (w : World) (b : Nat) (p v : ByteArray) (F : List Nat) : Prop :=
  Fresh w b p v F ∨ ∃ rv F', RepBlk w b 1 0 rv (.slice none 0 0) ∧ K w rv F' ∧ b ∉ F' ∧ F = b :: F'

theorem RepOn.same {K : World → Value → List Nat → Prop} (hK : Kind K) {w w' : World} {b : Nat} {p v : ByteArray} {F : List Nat} (h : RepOn K w b p v F) (hs : ∀ k ∈ F, w'.heap[k]? = w.heap[k]?) : RepOn K w' b p v F := by
  rcases h with ⟨c, cap, h1, h2, h3, rfl⟩ | ⟨rv, F', h1, h2, h3, rfl⟩
  · exact Or.inl ⟨c, cap, h1.same (hs b (by simp)), h2.same (hs c (by simp)), h3, rfl⟩
  · exact Or.inr ⟨rv, F', h1.same (hs b (by simp)), hK.same _ _ _ _ h2 (fun k hk => hs k (by simp [hk])), h3, rfl⟩
theorem RepOn.lt {K : World → Value → List Nat → Prop} (hK : Kind K) {w : World} {b : Nat} {p v : ByteArray} {F : List Nat} (h : RepOn K w b p v F) : ∀ k ∈ F, k < w.heap.size := by
  intro k hk
  rcases h with ⟨c, cap, h1, h2, h3, rfl⟩ | ⟨rv, F', h1, h2, h3, rfl⟩
  · simp at hk
    rcases hk with rfl | rfl
    · exact h1.lt
    · exact World.block_lt_of_cell? _ _ h2.1
  · rcases List.mem_cons.1 hk with rfl | hk
    · exact h1.lt
    · exact hK.lt _ _ _ h2 k hk
theorem RepOn.mem {K : World → Value → List Nat → Prop} {w : World} {b : Nat} {p v : ByteArray} {F : List Nat} (h : RepOn K w b p v F) : b ∈ F := by
  rcases h with ⟨c, cap, _, _, _, rfl⟩ | ⟨rv, F', _, _, _, rfl⟩ <;> simp
theorem Fresh.at {w : World} {b : Nat} {p v : ByteArray} {F : List Nat} (h : Fresh w b p v F) : RepAt w b p v F := Or.inl h

theorem byteReplace_below (s : ByteArray) (r : Nat) (w : World) (hs : s.size ≤ 1048576) (ht : ByteTab w r (fun c => c)) :
    Calls Try.prog 89 #[.pointer (some ⟨r, 0, none⟩), .string s] w fun e w' => e = .returned (.string s) ∧ Below w.heap.size w w' :=
  (byteReplace_same s r w hs ht).mono fun _ _ h => ⟨h.1, by rw [h.2]; exact Below.refl _ _⟩

def SamePost (K : World → Value → List Nat → Prop) (p s : ByteArray) (b : Nat) (F : List Nat) (w : World) (e : Ending) (w' : World) : Prop :=
  e = .returned (.string s) ∧ (∃ F', RepOn K w' b p p F' ∧ ∀ k ∈ F', k ∈ F ∨ w.heap.size ≤ k) ∧ w.grownBy w' (some b)

set_option maxRecDepth 100000 in
set_option maxHeartbeats 2000000 in
theorem newReplacer_fresh (p v : ByteArray) (c cap : Nat) (w : World) (hc : Pair w c p v) :
    Calls Try.prog 16 #[.slice (some ⟨c, 0, none⟩) 2 cap] w fun e w' => ∃ b F, e = .returned (.pointer (some ⟨b, 0, none⟩)) ∧ w.heap.size ≤ b ∧ Fresh w' b p v F ∧ (∀ k ∈ F, w.heap.size ≤ k) ∧ Below w.heap.size w w' := by
  obtain ⟨i9, hi, hz0, hz1, hz2⟩ := info_parts Try.info9
  have HNW : Hid (∀ (j : Nat) (u : Value), [Value.string p, Value.string v][j]? = some u → w.cell? ((⟨c, 0, none⟩ : Addr).add j) = some u) := by
    intro j u hj
    rw [Addr.add_lit, Nat.zero_add]
    match j, hj with
    | 0, hj => rw [← hj]; exact hc.1
    | 1, hj => rw [← hj]; exact hc.2
    | n + 2, hj => simp at hj
  have HON : Hid (∀ u ∈ [Value.string p, Value.string v], u.oneCell' = true) := by
    intro u hu
    simp at hu
    rcases hu with rfl | rfl <;> rfl
  clear hc
  go_enter Try.func16, Try.ntmps16
  go_wp2_with
    (at_builtin
     refine wpList_append_own _ rfl _ _ 22 rfl w.heap.size 9 i9 (.string ⟨#[]⟩) 1 16 Try.underlying22 hi hz0 hz1 hz2 rfl (by omega) _ 0 [] rfl (World.ownsRow_nil _ _ _ _) ⟨c, 0, none⟩ 2 cap [.string p, .string v] rfl rfl HNW.out HON.out (by unfold maxLen; omega) (by omega) (Nat.le_refl _) ?_
     intro v' w1 hown hgr hnil
     have HE : Hid (∃ c' cap', v' = .slice (some ⟨c', 0, none⟩) 2 cap' ∧ w.heap.size ≤ c' ∧ c' < w1.heap.size ∧ Pair w1 c' p v) := by
       rcases hown.2 with ⟨hv, h0⟩ | ⟨g, cp, cur, hv, hg, hh, h1, h2, h3, h4⟩
       · simp at h0
       · have hx : ∀ j, j < 2 → w1.cell? ⟨g, j, none⟩ = [Value.string p, Value.string v][j]? := fun j hj => by
           rw [Lib.cell_of_heap hh, ← Array.getElem?_toList]
           have h5 : cur.toList.take 2 = [Value.string p, Value.string v] := h4
           rw [← h5, List.getElem?_take, if_pos hj]
         exact ⟨g, cp, hv, hg, (Array.getElem?_eq_some_iff.1 hh).1, hx 0 (by omega), hx 1 (by omega)⟩
     have HB : Hid (Below w.heap.size w w1) := (Below.refl _ _).grown hgr (Nat.le_refl _) (fun k hk => by cases hk)
     clear hown hgr hnil
     obtain ⟨c', cap', rfl, hc1, hc2, hc3⟩ := HE.out
     have HP : Hid (Pair w1 c' p v) := hc3
     clear HE hc3)
  go_ret
  refine ⟨w1.heap.size, [w1.heap.size, c'], rfl, HB.out.size, ⟨c', cap', heap_alloc_new w1 _, HP.out.same (Lib.alloc_old w1 _ c' hc2), by omega, rfl⟩, fun k hk => ?_, HB.out.alloc HB.out.size _⟩
  simp at hk
  have := HB.out.size
  rcases hk with rfl | rfl <;> omega

set_option maxRecDepth 100000 in
set_option maxHeartbeats 2000000 in
theorem replace_byte (p s : ByteArray) (b : Nat) (F : List Nat) (w : World) (h1p : p.size = 1) (hs : s.size ≤ 1048576) (hr : RepOn KB w b p p F) :
    Calls Try.prog 19 #[.pointer (some ⟨b, 0, none⟩), .string s] w fun e w' => SamePost KB p s b F w e w' := by
  have hmf : ∀ (fn : Fn) (first cap : Array Value) (w : World), (Instr.makeFunc fn first cap).run Try.prog w = .ok (.func fn first cap) w := fun _ _ _ _ => rfl
  have hmr : ∀ (a : Addr) (w : World), (method 253 74 (.pointer (some a)) "Replace").run Try.prog w = .ok (89, .pointer (some a)) w := fun _ _ => by kernel_rfl
  rcases hr with ⟨c, cap, h1, hpair, h3, rfl⟩ | ⟨rv, F', h1, hks, h3, rfl⟩
  · have HD : Hid (Calls Try.prog 22 #[.pointer (some ⟨b, 0, none⟩), .func (.func 23) #[.pointer (some ⟨b, 0, none⟩)] #[]] w fun e w' => OncePost KB b 1 0 w e w') :=
      do_first KB.kind b _ w h1 (build_byte p b c cap _ 0 1 .nilIface h1p (h1.set1 1) (hpair.same (Below.heap_setCell _ _ _ _ h3)))
    have HBL : Hid (b < w.heap.size) := h1.lt
    clear h1 hpair
    go_enter Try.func19, Try.ntmps19
    go_wp2_with (go_at_call 22
                 refine Calls.mono HD.out ?_
                 rintro e w1 ⟨rv, F', rfl, hrb, ⟨r, rfl, rfl, hsr⟩, hge, hgr⟩
                 have hcc := hrb.c3
                 have HRB : Hid (RepBlk w1 b 1 0 (.iface 74 (.pointer (some ⟨r, 0, none⟩))) (.slice none 0 0)) := hrb
                 have HSR : Hid (ByteTab w1 r (fun c => c)) := hsr
                 have HGE : Hid (∀ k ∈ [r], w.heap.size ≤ k) := hge
                 have HGR : Hid (w.grownBy w1 (some b)) := hgr
                 clear hrb hsr hge hgr HD)
    go_wp2_with (go_at_call 89
                 refine Calls.mono (byteReplace_below s r w1 hs HSR.out) ?_
                 rintro e w2 ⟨rfl, hb2⟩
                 have HB2 : Hid (Below w1.heap.size w1 w2) := hb2
                 clear hb2)
    go_ret
    refine ⟨rfl, ⟨b :: [r], Or.inr ⟨_, [r], HRB.out.same (HB2.out.block b HRB.out.lt), ⟨r, rfl, rfl, HSR.out.same (HB2.out.block r HSR.out.lt)⟩, fun hm => ?_, rfl⟩, fun k hk => ?_⟩, HGR.out.trans (grown_below HB2.out _)⟩
    · have := HGE.out b hm; have := HBL.out; omega
    · rcases List.mem_cons.1 hk with rfl | hk
      · exact Or.inl (by simp)
      · exact Or.inr (HGE.out k hk)
  · have HRB : Hid (RepBlk w b 1 0 rv (.slice none 0 0)) := h1
    obtain ⟨r, rfl, rfl, hsr⟩ := hks
    have HSR : Hid (ByteTab w r (fun c => c)) := hsr
    have HNB : Hid (b ∉ [r]) := h3
    have hcc := h1.c3
    clear hsr h3 h1
    go_enter Try.func19, Try.ntmps19
    go_wp2_with first
      | (go_at_call 22
         refine (do_done b _ _ _ w HRB.out).mono ?_
         rintro e w' ⟨rfl, hw'⟩
         rw [hw']
         clear hw')
      | (go_at_call 89
         refine Calls.mono (byteReplace_below s r w hs HSR.out) ?_
         rintro e w2 ⟨rfl, hb2⟩
         have HB2 : Hid (Below w.heap.size w w2) := hb2
         clear hb2)
    go_ret
    exact ⟨rfl, ⟨b :: [r], Or.inr ⟨_, [r], HRB.out.same (HB2.out.block b HRB.out.lt), ⟨r, rfl, rfl, HSR.out.same (HB2.out.block r HSR.out.lt)⟩, HNB.out, rfl⟩, fun k hk => Or.inl hk⟩, grown_below HB2.out _⟩

set_option maxRecDepth 100000 in
set_option maxHeartbeats 2000000 in
theorem replace_gen (p s : ByteArray) (b : Nat) (F : List Nat) (w : World) (h0p : p = ⟨#[]⟩) (hs : s.size ≤ 1048576) (hr : RepOn KG w b p p F) :
    Calls Try.prog 19 #[.pointer (some ⟨b, 0, none⟩), .string s] w fun e w' => SamePost KG p s b F w e w' := by
  subst h0p
  have hmf : ∀ (fn : Fn) (first cap : Array Value) (w : World), (Instr.makeFunc fn first cap).run Try.prog w = .ok (.func fn first cap) w := fun _ _ _ _ => rfl
  have hmr : ∀ (a : Addr) (w : World), (method 253 70 (.pointer (some a)) "Replace").run Try.prog w = .ok (85, .pointer (some a)) w := fun _ _ => by kernel_rfl
  rcases hr with ⟨c, cap, h1, hpair, h3, rfl⟩ | ⟨rv, F', h1, hks, h3, rfl⟩
  · have HD : Hid (Calls Try.prog 22 #[.pointer (some ⟨b, 0, none⟩), .func (.func 23) #[.pointer (some ⟨b, 0, none⟩)] #[]] w fun e w' => OncePost KG b 1 0 w e w') :=
      do_first KG.kind b _ w h1 (build_generic b c cap _ 0 1 .nilIface (h1.set1 1) (hpair.same (Below.heap_setCell _ _ _ _ h3)))
    have HBL : Hid (b < w.heap.size) := h1.lt
    clear h1 hpair
    go_enter Try.func19, Try.ntmps19
    go_wp2_with (go_at_call 22
                 refine Calls.mono HD.out ?_
                 rintro e w1 ⟨rv, F', rfl, hrb, ⟨r, ag, rfl, rfl, hsr⟩, hge, hgr⟩
                 have hcc := hrb.c3
                 have HRB : Hid (RepBlk w1 b 1 0 (.iface 70 (.pointer (some ⟨r, 0, none⟩))) (.slice none 0 0)) := hrb
                 have HSR : Hid (GenBlk w1 r 2 (.slice (some ag) 0 0)) := hsr
                 have HGE : Hid (∀ k ∈ [r], w.heap.size ≤ k) := hge
                 have HGR : Hid (w.grownBy w1 (some b)) := hgr
                 clear hrb hsr hge hgr HD)
    go_wp2_with (go_at_call 85
                 refine Calls.mono (genReplace_any r ag s w1 hs HSR.out) ?_
                 rintro e w2 ⟨rfl, hb2⟩
                 have HB2 : Hid (Below w1.heap.size w1 w2) := hb2
                 clear hb2)
    go_ret
    refine ⟨rfl, ⟨b :: [r], Or.inr ⟨_, [r], HRB.out.same (HB2.out.block b HRB.out.lt), ⟨r, ag, rfl, rfl, HSR.out.same (HB2.out.block r HSR.out.lt)⟩, fun hm => ?_, rfl⟩, fun k hk => ?_⟩, HGR.out.trans (grown_below HB2.out _)⟩
    · have := HGE.out b hm; have := HBL.out; omega
    · rcases List.mem_cons.1 hk with rfl | hk
      · exact Or.inl (by simp)
      · exact Or.inr (HGE.out k hk)
  · have HRB : Hid (RepBlk w b 1 0 rv (.slice none 0 0)) := h1
    obtain ⟨r, ag, rfl, rfl, hsr⟩ := hks
    have HSR : Hid (GenBlk w r 2 (.slice (some ag) 0 0)) := hsr
    have HNB : Hid (b ∉ [r]) := h3
    have hcc := h1.c3
    clear hsr h3 h1
    go_enter Try.func19, Try.ntmps19
    go_wp2_with first
      | (go_at_call 22
         refine (do_done b _ _ _ w HRB.out).mono ?_
         rintro e w' ⟨rfl, hw'⟩
         rw [hw']
         clear hw')
      | (go_at_call 85
         refine Calls.mono (genReplace_any r ag s w hs HSR.out) ?_
         rintro e w2 ⟨rfl, hb2⟩
         have HB2 : Hid (Below w.heap.size w w2) := hb2
         clear hb2)
    go_ret
    exact ⟨rfl, ⟨b :: [r], Or.inr ⟨_, [r], HRB.out.same (HB2.out.block b HRB.out.lt), ⟨r, ag, rfl, rfl, HSR.out.same (HB2.out.block r HSR.out.lt)⟩, HNB.out, rfl⟩, fun k hk => Or.inl hk⟩, grown_below HB2.out _⟩

theorem byte_replaces (p : ByteArray) (b : Nat) (h1p : p.size = 1) : Replaces b (fun w F => RepOn KB w b p p F) (fun s o => o = s) where
  same := fun _ _ _ h hs => h.same KB.kind hs
  lt := fun _ _ h => h.lt KB.kind
  mem := fun _ _ h => h.mem
  size := fun _ _ h => by rw [h]; exact Nat.le_refl _
  call := fun w F s hs h => (replace_byte p s b F w h1p hs h).mono fun _ _ ⟨h1, h2, h3⟩ => ⟨s, h1, rfl, h2, h3⟩
theorem gen_replaces (p : ByteArray) (b : Nat) (h0p : p = ⟨#[]⟩) : Replaces b (fun w F => RepOn KG w b p p F) (fun s o => o = s) where
  same := fun _ _ _ h hs => h.same KG.kind hs
  lt := fun _ _ h => h.lt KG.kind
  mem := fun _ _ h => h.mem
  size := fun _ _ h => by rw [h]; exact Nat.le_refl _
  call := fun w F s hs h => (replace_gen p s b F w h0p hs h).mono fun _ _ ⟨h1, h2, h3⟩ => ⟨s, h1, rfl, h2, h3⟩

end Go.Proofs.Qxb6614432a
