/-
  (*strings.Replacer).Replace (19), NewReplacer (16), on the road of one pair whose first has at least two bytes.
-/
import Derived.Test.Qxb6614432aRepl
namespace Go.Proofs.Qxb6614432a
open Go.RowKit

def RepAt (w : World) (b : Nat) (p v : ByteArray) (F : List Nat) : Prop :=
  (∃ c cap, RepBlk w b 0 0 .nilIface (.slice (some ⟨c, 0, none⟩) 2 cap) ∧ Pair w c p v ∧ c ≠ b ∧ F = [b, c]) ∨
  (∃ rv F', RepBlk w b 1 0 rv (.slice none 0 0) ∧ KS p v w rv F' ∧ b ∉ F' ∧ F = b :: F')

theorem Pair.same {w w' : World} {c : Nat} {p v : ByteArray} (h : Pair w c p v) (e : w'.heap[c]? = w.heap[c]?) : Pair w' c p v :=
  ⟨(World.cell?_of_block (a := ⟨c, 0, none⟩) e).trans h.1, (World.cell?_of_block (a := ⟨c, 1, none⟩) e).trans h.2⟩
theorem RepAt.same {w w' : World} {b : Nat} {p v : ByteArray} {F : List Nat} (h : RepAt w b p v F) (hs : ∀ k ∈ F, w'.heap[k]? = w.heap[k]?) : RepAt w' b p v F := by
  rcases h with ⟨c, cap, h1, h2, h3, rfl⟩ | ⟨rv, F', h1, h2, h3, rfl⟩
  · exact Or.inl ⟨c, cap, h1.same (hs b (by simp)), h2.same (hs c (by simp)), h3, rfl⟩
  · exact Or.inr ⟨rv, F', h1.same (hs b (by simp)), (KS.kind p v).same _ _ _ _ h2 (fun k hk => hs k (by simp [hk])), h3, rfl⟩
theorem RepAt.lt {w : World} {b : Nat} {p v : ByteArray} {F : List Nat} (h : RepAt w b p v F) : ∀ k ∈ F, k < w.heap.size := by
  intro k hk
  rcases h with ⟨c, cap, h1, h2, h3, rfl⟩ | ⟨rv, F', h1, h2, h3, rfl⟩
  · simp at hk
    rcases hk with rfl | rfl
    · exact h1.lt
    · exact World.block_lt_of_cell? _ _ h2.1
  · rcases List.mem_cons.1 hk with rfl | hk
    · exact h1.lt
    · exact (KS.kind p v).lt _ _ _ h2 k hk

def ReplPost (p v s : ByteArray) (b : Nat) (F : List Nat) (w : World) (e : Ending) (w' : World) : Prop :=
  ∃ o : ByteArray, e = .returned (.string o) ∧ RepSays p.data.toList v.data.toList s.data.toList (Safe p.data.toList (badOf p) (goodOf p)) o.data.toList ∧
    (∃ F', RepAt w' b p v F' ∧ ∀ k ∈ F', k ∈ F ∨ w.heap.size ≤ k) ∧ w.grownBy w' (some b)

theorem badOf_bound (p : ByteArray) : ∀ c, 0 ≤ badOf p c ∧ badOf p c ≤ p.size := by
  intro c
  have hl : p.data.toList.length = p.size := (Lib.size_eq p).symm
  have := badTo_bound p.data.toList c (p.size - 1) (by omega)
  rwa [hl] at this
theorem goodOf_bound (p : ByteArray) (h2 : 2 ≤ p.size) : ∀ (j : Nat) (x : Int), (goodOf p)[j]? = some x → (p.size : Int) - j ≤ x ∧ x ≤ 2 * p.size := by
  intro j x hx
  have hl : p.data.toList.length = p.size := (Lib.size_eq p).symm
  have := gB_bound p.data.toList (by omega) (p.size - 1) (by omega) j x hx
  rwa [hl] at this

set_option maxRecDepth 100000 in
set_option maxHeartbeats 2000000 in
theorem replace_any (p v s : ByteArray) (b : Nat) (F : List Nat) (w : World) (h2 : 2 ≤ p.size) (hp : p.size ≤ 4096) (hv : v.size ≤ p.size) (hs : s.size ≤ 1048576) (hr : RepAt w b p v F) :
    Calls Try.prog 19 #[.pointer (some ⟨b, 0, none⟩), .string s] w fun e w' => ReplPost p v s b F w e w' := by
  have hmf : ∀ (fn : Fn) (first cap : Array Value) (w : World), (Instr.makeFunc fn first cap).run Try.prog w = .ok (.func fn first cap) w := fun _ _ _ _ => rfl
  have hmr : ∀ (a : Addr) (w : World), (method 253 68 (.pointer (some a)) "Replace").run Try.prog w = .ok (75, .pointer (some a)) w := fun _ _ => by kernel_rfl
  have HS : Hid (∀ (w1 : World) (r f g : Nat), SRep w1 r f g p v (badOf p) (goodOf p) → Calls Try.prog 75 #[.pointer (some ⟨r, 0, none⟩), .string s] w1 fun e w' => ∃ o : ByteArray, e = .returned (.string o) ∧ RepSays p.data.toList v.data.toList s.data.toList (Safe p.data.toList (badOf p) (goodOf p)) o.data.toList ∧ Below w1.heap.size w1 w') :=
    fun w1 r f g h => single_any p v s w1 r f g (badOf p) (goodOf p) h2 hp hv hs h (badOf_bound p) (goodOf_bound p h2)
  rcases hr with ⟨c, cap, h1, hpair, h3, rfl⟩ | ⟨rv, F', h1, hks, h3, rfl⟩
  · have HD : Hid (Calls Try.prog 22 #[.pointer (some ⟨b, 0, none⟩), .func (.func 23) #[.pointer (some ⟨b, 0, none⟩)] #[]] w fun e w' => OncePost (KS p v) b 1 0 w e w') :=
      do_first (KS.kind p v) b _ w h1 (build_single p v b c cap _ 0 1 .nilIface h2 hp (h1.set1 1) (hpair.same (Below.heap_setCell _ _ _ _ h3)))
    have HBL : Hid (b < w.heap.size) := h1.lt
    clear h1 hpair
    go_enter Try.func19, Try.ntmps19
    go_wp2_with (go_at_call 22
                 refine Calls.mono HD.out ?_
                 rintro e w1 ⟨rv, F', rfl, hrb, ⟨r, f, g, rfl, rfl, hsr⟩, hge, hgr⟩
                 have hcc := hrb.c3
                 have HRB : Hid (RepBlk w1 b 1 0 (.iface 68 (.pointer (some ⟨r, 0, none⟩))) (.slice none 0 0)) := hrb
                 have HSR : Hid (SRep w1 r f g p v (badOf p) (goodOf p)) := hsr
                 have HGE : Hid (∀ k ∈ [r, f, g], w.heap.size ≤ k) := hge
                 have HGR : Hid (w.grownBy w1 (some b)) := hgr
                 clear hrb hsr hge hgr HD)
    go_wp2_with (go_at_call 75
                 refine Calls.mono (HS.out w1 r f g HSR.out) ?_
                 rintro e w2 ⟨o, rfl, hrs, hb2⟩
                 have HRS : Hid (RepSays p.data.toList v.data.toList s.data.toList (Safe p.data.toList (badOf p) (goodOf p)) o.data.toList) := hrs
                 have HB2 : Hid (Below w1.heap.size w1 w2) := hb2
                 clear hrs hb2)
    go_ret
    refine ⟨o, rfl, HRS.out, ⟨b :: [r, f, g], Or.inr ⟨_, [r, f, g], HRB.out.same (HB2.out.block b HRB.out.lt), ⟨r, f, g, rfl, rfl, HSR.out.below HB2.out⟩, fun hm => ?_, rfl⟩, fun k hk => ?_⟩, HGR.out.trans (grown_below HB2.out _)⟩
    · have := HGE.out b hm; have := HBL.out; omega
    · rcases List.mem_cons.1 hk with rfl | hk
      · exact Or.inl (by simp)
      · exact Or.inr (HGE.out k hk)
  · have HRB : Hid (RepBlk w b 1 0 rv (.slice none 0 0)) := h1
    obtain ⟨r, f, g, rfl, rfl, hsr⟩ := hks
    have HSR : Hid (SRep w r f g p v (badOf p) (goodOf p)) := hsr
    have HNB : Hid (b ∉ [r, f, g]) := h3
    have hcc := h1.c3
    clear hsr h3 h1
    go_enter Try.func19, Try.ntmps19
    go_wp2_with first
      | (go_at_call 22
         refine (do_done b _ _ _ w HRB.out).mono ?_
         rintro e w' ⟨rfl, hw'⟩
         rw [hw']
         clear hw')
      | (go_at_call 75
         refine Calls.mono (HS.out w r f g HSR.out) ?_
         rintro e w2 ⟨o, rfl, hrs, hb2⟩
         have HRS : Hid (RepSays p.data.toList v.data.toList s.data.toList (Safe p.data.toList (badOf p) (goodOf p)) o.data.toList) := hrs
         have HB2 : Hid (Below w.heap.size w w2) := hb2
         clear hrs hb2)
    go_ret
    exact ⟨o, rfl, HRS.out, ⟨b :: [r, f, g], Or.inr ⟨_, [r, f, g], HRB.out.same (HB2.out.block b HRB.out.lt), ⟨r, f, g, rfl, rfl, HSR.out.below HB2.out⟩, HNB.out, rfl⟩, fun k hk => Or.inl hk⟩, grown_below HB2.out _⟩

theorem Try.info9 : (Try.prog.info? 9).map (fun i => (i.zero, i.size, i.bytes)) = some (some (.string ⟨#[]⟩), 1, 16) := by kernel_rfl

set_option maxRecDepth 100000 in
set_option maxHeartbeats 2000000 in
theorem newReplacer_any (p v : ByteArray) (c cap : Nat) (w : World) (hc : Pair w c p v) :
    Calls Try.prog 16 #[.slice (some ⟨c, 0, none⟩) 2 cap] w fun e w' => ∃ b F, e = .returned (.pointer (some ⟨b, 0, none⟩)) ∧ w.heap.size ≤ b ∧ RepAt w' b p v F ∧ (∀ k ∈ F, w.heap.size ≤ k) ∧ Below w.heap.size w w' := by
  obtain ⟨i9, hi, hz0, hz1, hz2⟩ := info_parts Try.info9
  have HNW : Hid (∀ (j : Nat) (u : Value), [Value.string p, Value.string v][j]? = some u → w.cell? ((⟨c, 0, none⟩ : Addr).add j) = some u) := by
    intro j u hj
    rw [Addr.add_lit, Nat.zero_add]
    match j, hj with
    | 0, hj => rw [← hj]; exact hc.1
    | 1, hj => rw [← hj]; exact hc.2
    | n + 2, hj => simp at hj
  have HON : Hid (∀ u ∈ [Value.string p, Value.string v], u.oneCell' = true) := by
    intro u hu
    simp at hu
    rcases hu with rfl | rfl <;> rfl
  clear hc
  go_enter Try.func16, Try.ntmps16
  go_wp2_with
    (at_builtin
     refine wpList_append_own _ rfl _ _ 22 rfl w.heap.size 9 i9 (.string ⟨#[]⟩) 1 16 Try.underlying22 hi hz0 hz1 hz2 rfl (by omega) _ 0 [] rfl (World.ownsRow_nil _ _ _ _) ⟨c, 0, none⟩ 2 cap [.string p, .string v] rfl rfl HNW.out HON.out (by unfold maxLen; omega) (by omega) (Nat.le_refl _) ?_
     intro v' w1 hown hgr hnil
     have HE : Hid (∃ c' cap', v' = .slice (some ⟨c', 0, none⟩) 2 cap' ∧ w.heap.size ≤ c' ∧ c' < w1.heap.size ∧ Pair w1 c' p v) := by
       rcases hown.2 with ⟨hv, h0⟩ | ⟨g, cp, cur, hv, hg, hh, h1, h2, h3, h4⟩
       · simp at h0
       · have hx : ∀ j, j < 2 → w1.cell? ⟨g, j, none⟩ = [Value.string p, Value.string v][j]? := fun j hj => by
           rw [Lib.cell_of_heap hh, ← Array.getElem?_toList]
           have h5 : cur.toList.take 2 = [Value.string p, Value.string v] := h4
           rw [← h5, List.getElem?_take, if_pos hj]
         exact ⟨g, cp, hv, hg, (Array.getElem?_eq_some_iff.1 hh).1, hx 0 (by omega), hx 1 (by omega)⟩
     have HB : Hid (Below w.heap.size w w1) := (Below.refl _ _).grown hgr (Nat.le_refl _) (fun k hk => by cases hk)
     clear hown hgr hnil
     obtain ⟨c', cap', rfl, hc1, hc2, hc3⟩ := HE.out
     have HP : Hid (Pair w1 c' p v) := hc3
     clear HE hc3)
  go_ret
  refine ⟨w1.heap.size, [w1.heap.size, c'], rfl, HB.out.size, Or.inl ⟨c', cap', heap_alloc_new w1 _, HP.out.same (Lib.alloc_old w1 _ c' hc2), by omega, rfl⟩, fun k hk => ?_, HB.out.alloc HB.out.size _⟩
  simp at hk
  have := HB.out.size
  rcases hk with rfl | rfl <;> omega

end Go.Proofs.Qxb6614432a
