/-
  THE WALK OF zzClean (18).
-/
import Derived.Test.Qxb6614385aFmtBase
import Derived.Test.Qxb6614385aFmtPlain
import Derived.Lib.AppendStr
import Derived.WalkSmall
namespace Go.Proofs.Qxb6614385aFmt
open Go.RowKit Go.Lib.Pa

theorem Tryf.info9 : (Tryf.prog.info? 9).map (fun i => (i.zero, i.size, i.bytes)) = some (some (.string ⟨#[]⟩), 1, 16) := by kernel_rfl
theorem Tryf.info5 : (Tryf.prog.info? 5).map (fun i => (i.zero, i.size, i.bytes)) = some (some (.int .u8 0), 1, 1) := by kernel_rfl

/-- The components as cells, the last on top. -/
def stackCells (st : List (List UInt8)) : List Value := st.reverse.map fun e => Value.string ⟨e.toArray⟩

theorem stackCells_cons (e : List UInt8) (st : List (List UInt8)) : stackCells (e :: st) = stackCells st ++ [.string ⟨e.toArray⟩] := by
  simp [stackCells]
theorem stackCells_length (st : List (List UInt8)) : (stackCells st).length = st.length := by simp [stackCells]

/-- The stack as it lies in block B. -/
def Stack (wr : World) (B cap : Nat) (st : List (List UInt8)) : Prop := wr.ownsRow B 9 1 (.slice (some ⟨B, 0, none⟩) st.length cap) st.length (stackCells st)

theorem Stack.top {wr : World} {B cap : Nat} {x : List UInt8} {st : List (List UInt8)} (h : Stack wr B cap (x :: st)) : wr.cell? ⟨B, st.length, none⟩ = some (.string ⟨x.toArray⟩) := by
  have := World.ownsRow.cellAt h st.length (by simp)
  rw [this, stackCells_cons, List.getElem?_append_right (by simp [stackCells_length])]
  simp [stackCells_length]

theorem Stack.pop {wr : World} {B cap : Nat} {x : List UInt8} {st : List (List UInt8)} (h : Stack wr B cap (x :: st)) : Stack wr B cap st := by
  unfold Stack at h ⊢
  rw [stackCells_cons] at h
  exact ownsRow_pop (by simp [stackCells_length]) h

/-- No slash from k up to j. -/
def NoSlash (s : ByteArray) (k j : Nat) : Prop := ∀ i, k ≤ i → i < j → ∃ x, s.data.toList[i]? = some x ∧ x ≠ 47
theorem NoSlash.start (s : ByteArray) (k : Nat) : NoSlash s k k := by intro i h1 h2; omega
theorem byte_at {s : ByteArray} {j : Nat} (h : j < s.size) : s.data.toList[j]? = some s[j] := by
  rw [List.getElem?_eq_getElem (by rw [← Lib.size_eq]; exact h)]; rfl
theorem byte_ne {x : UInt8} (h : ((x.toNat : Int) != 47) = true) : x ≠ 47 := by
  intro e; subst e; simp at h
theorem byte_eq {x : UInt8} (h : ((x.toNat : Int) != 47) = false) : x = 47 := by
  simp at h
  exact UInt8.toNat_inj.1 (by show x.toNat = 47; omega)
theorem NoSlash.succ {s : ByteArray} {k j : Nat} (h : NoSlash s k j) (hj : j < s.size) (hx : (((s[j]'hj).toNat : Int) != 47) = true) : NoSlash s k (j + 1) := by
  intro i h1 h2
  by_cases hi : i < j
  · exact h i h1 hi
  · have : i = j := by omega
    subst this
    exact ⟨_, byte_at hj, byte_ne hx⟩

/-- The loop's state at place k. -/
structure Good (ro : Bool) (s : ByteArray) (w wr : World) (k : Nat) (st : List (List UInt8)) : Prop where
  rem : Plain.Remains ro s.data.toList k st
  clean : Plain.Clear ro st
  len : st.length ≤ k
  stack : Stack wr w.heap.size (s.size + 1) st
  below : Below w.heap.size w wr
  small : ∀ e, e ∈ st → e.length ≤ 1048576

/-- The component from k up to j. -/
def comp (s : ByteArray) (k j : Nat) : List UInt8 := (s.data.toList.drop k).take (j - k)

theorem Good.remains {ro : Bool} {s : ByteArray} {w wr : World} {k j : Nat} {st : List (List UInt8)} (h : Good ro s w wr k st) (hk : k < s.size) (hkj : k ≤ j) (_hj : j ≤ s.size) (hn : NoSlash s k j)
    (hend : j = s.size ∨ s.data.toList[j]? = some 47) : Plain.Remains ro s.data.toList (j + 1) (cleanStep ro st (comp s k j)) := by
  have hl : s.data.toList.length = s.size := (Lib.size_eq s).symm
  have := Plain.Remains.step (m := j - k) h.rem (by omega) (fun i hi => hn (k + i) (by omega) (by omega)) (by
    have e : k + (j - k) = j := by omega
    rw [e, hl]; exact hend)
  have e : k + (j - k) = j := by omega
  rw [e] at this
  exact this

theorem Good.stay {ro : Bool} {s : ByteArray} {w wr : World} {k j : Nat} {st : List (List UInt8)} (h : Good ro s w wr k st) (hkj : k ≤ j) (hr : Plain.Remains ro s.data.toList (j + 1) st) : Good ro s w wr (j + 1) st :=
  ⟨hr, h.clean, by have := h.len; omega, h.stack, h.below, h.small⟩
theorem Good.pop {ro : Bool} {s : ByteArray} {w wr : World} {k j : Nat} {x : List UInt8} {st : List (List UInt8)} (h : Good ro s w wr k (x :: st)) (hkj : k ≤ j) (hr : Plain.Remains ro s.data.toList (j + 1) st) : Good ro s w wr (j + 1) st :=
  ⟨hr, h.clean.tail, by have := h.len; simp at this; omega, h.stack.pop, h.below, fun e he => h.small e (List.mem_cons_of_mem _ he)⟩
theorem Good.push {ro : Bool} {s : ByteArray} {w wr w1 : World} {o : Obj} {k j : Nat} {e : List UInt8} {st : List (List UInt8)} {c : ByteArray} (h : Good ro s w wr k st) (hkj : k ≤ j) (hr : Plain.Remains ro s.data.toList (j + 1) (e :: st)) (hcl : Plain.Clear ro (e :: st)) (he : e.length ≤ 1048576)
    (hc : c = ⟨e.toArray⟩) (hown : w1.ownsRow w.heap.size 9 1 (.slice (some ⟨w.heap.size, 0, none⟩) (st.length + 1) (s.size + 1)) (st.length + 1) (stackCells st ++ [.string c])) (hgr : (wr.alloc o).grownBy w1 (some w.heap.size)) : Good ro s w w1 (j + 1) (e :: st) := by
  refine ⟨hr, hcl, by have := h.len; simp; omega, ?_, ?_, ?_⟩
  · unfold Stack
    rw [stackCells_cons, ← hc]
    exact hown
  · have hb := h.below
    exact (hb.alloc hb.size o).grown hgr (by have := hb.size; simp; omega) (fun k hk => by cases hk; exact Nat.le_refl _)
  · intro x hx
    rcases List.mem_cons.1 hx with rfl | hx
    · exact he
    · exact h.small x hx

theorem comp_small {s : ByteArray} {k j : Nat} (hs : s.size ≤ 1048576) : (comp s k j).length ≤ 1048576 := by
  have hl : s.data.toList.length = s.size := (Lib.size_eq s).symm
  unfold comp
  rw [List.length_take, List.length_drop, hl]
  omega

/-! ### the buffer -/
def byteCells (bs : List UInt8) : List Value := bs.map fun b => Value.int .u8 b.toNat
theorem byteCells_length (bs : List UInt8) : (byteCells bs).length = bs.length := by simp [byteCells]
theorem byteCells_append (a b : List UInt8) : byteCells (a ++ b) = byteCells a ++ byteCells b := by simp [byteCells]
theorem byte_oneCell (x : Int) : ∀ u ∈ [Value.int .u8 x], u.oneCell' = true := by
  intro u hu; simp at hu; subst hu; rfl

/-- What has been written behind q components. -/
def out (ro : Bool) (st : List (List UInt8)) (q : Nat) : List UInt8 := (if ro then [47] else []) ++ ([47] : List UInt8).intercalate (st.reverse.take q)
theorem out_zero (ro : Bool) (st : List (List UInt8)) : out ro st 0 = if ro then [47] else [] := by simp [out]
theorem rev_at {st : List (List UInt8)} {q : Nat} (hq : q < st.length) : ∃ e, st.reverse[q]? = some e ∧ e ∈ st := by
  have h : q < st.reverse.length := by simpa using hq
  exact ⟨st.reverse[q], List.getElem?_eq_getElem h, List.mem_reverse.1 (List.getElem_mem h)⟩
theorem out_one {ro : Bool} {st : List (List UInt8)} {e : List UInt8} (he : st.reverse[0]? = some e) : out ro st (0 + 1) = out ro st 0 ++ e := by
  unfold out
  rw [List.take_add_one, he]
  simp [List.intercalate]
theorem out_succ {ro : Bool} {st : List (List UInt8)} {q : Nat} {e : List UInt8} (hq : 0 < q) (hl : q < st.length) (he : st.reverse[q]? = some e) : out ro st (q + 1) = out ro st q ++ [47] ++ e := by
  unfold out
  rw [List.take_add_one, he]
  show _ ++ ([47] : List UInt8).intercalate (st.reverse.take q ++ [e]) = _
  rw [inter_snoc e _ (by intro h; have := congrArg List.length h; rw [List.length_take, List.length_reverse, List.length_nil] at this; omega)]
  simp
theorem out_small {ro : Bool} {st : List (List UInt8)} (hs : ∀ e, e ∈ st → e.length ≤ 1048576) : ∀ q, q ≤ st.length → (out ro st q).length ≤ 1 + q * 1048577
  | 0, _ => by rw [out_zero]; split <;> simp
  | q + 1, hq => by
    obtain ⟨e, he, hm⟩ := rev_at (st := st) (q := q) (by omega)
    have ih := out_small (ro := ro) hs q (by omega)
    have h1 := hs e hm
    by_cases h0 : q = 0
    · subst h0
      rw [out_one he]; simp; omega
    · rw [out_succ (by omega) (by omega) he]; simp; omega

structure Buf (ro : Bool) (s : ByteArray) (w wr : World) (st : List (List UInt8)) (v : Value) (bs : List UInt8) : Prop where
  own : wr.ownsRow (w.heap.size + 1) 5 1 v bs.length (byteCells bs)
  stack : Stack wr w.heap.size (s.size + 1) st
  below : Below w.heap.size w wr
  room : w.heap.size + 1 ≤ wr.heap.size

theorem Stack.kept {wr w1 : World} {B cap : Nat} {st : List (List UInt8)} {row : Option Nat} (h : Stack wr B cap st) (hg : wr.grownBy w1 row) (hne : row ≠ some B) : Stack w1 B cap st :=
  World.ownsRow.kept h hg (Or.inr (fun e => hne (by rw [← e]; rfl)))
theorem Stack.alloc {wr : World} {B cap : Nat} {st : List (List UInt8)} (h : Stack wr B cap st) (o : Obj) : Stack (wr.alloc o) B cap st := World.ownsRow.alloc h o

theorem Buf.alloc {ro : Bool} {s : ByteArray} {w wr : World} {st : List (List UInt8)} {v : Value} {bs : List UInt8} (h : Buf ro s w wr st v bs) (o : Obj) : Buf ro s w (wr.alloc o) st v bs :=
  ⟨h.own.alloc o, h.stack.alloc o, h.below.alloc h.below.size o, by have := h.room; simp; omega⟩
theorem Buf.grow {ro : Bool} {s : ByteArray} {w wr w1 : World} {st : List (List UInt8)} {v v' : Value} {bs more : List UInt8} (h : Buf ro s w wr st v bs)
    (hown : w1.ownsRow (w.heap.size + 1) 5 1 v' (bs.length + more.length) (byteCells bs ++ byteCells more)) (hg : wr.grownBy w1 v.ownBlock) : Buf ro s w w1 st v' (bs ++ more) := by
  have hlt := h.own.lt
  refine ⟨?_, h.stack.kept hg ?_, h.below.grown hg h.below.size ?_, Nat.le_trans h.room hg.size⟩
  · rw [List.length_append, byteCells_append]; exact hown
  · intro e; have := (hlt _ e).1; omega
  · intro k hk; have := (hlt _ hk).1; omega
theorem Buf.shape {ro : Bool} {s : ByteArray} {w wr : World} {st : List (List UInt8)} {v : Value} {bs : List UInt8} (h : Buf ro s w wr st v bs) : ∃ a cap, v = .slice a bs.length cap ∧ (bs ≠ [] → ∃ g, a = some ⟨g, 0, none⟩ ∧ ∀ i, i < bs.length → wr.cell? ⟨g, i, none⟩ = (byteCells bs)[i]?) := by
  have hw := h.own
  rcases h.own.2 with ⟨rfl, h0⟩ | ⟨g, cap, cur, rfl, _⟩
  · refine ⟨none, 0, by rw [h0], fun hb => absurd (List.eq_nil_of_length_eq_zero h0) hb⟩
  · exact ⟨_, cap, rfl, fun _ => ⟨g, rfl, fun i hi => hw.cellAt i (by omega)⟩⟩

theorem conv_run {wr : World} {g cap : Nat} {bs : List UInt8} (hc : ∀ i, i < bs.length → wr.cell? ⟨g, i, none⟩ = (byteCells bs)[i]?) :
    (convert 50 9 (.slice (some ⟨g, 0, none⟩) bs.length cap)).run Tryf.prog wr = .ok (.string ⟨bs.toArray⟩) wr := by
  have := run_convert_bytes_arg (P := Tryf.prog) wr 50 5 Tryf.underlying50 Tryf.underlying5 g 0 bs.length cap (bs.map fun b => (b.toNat : Int)) (by simp) (fun i hi => by
    rw [Nat.zero_add, hc i hi]
    simp [byteCells, hi]) 9 Tryf.underlying9
  rw [this]
  congr 2
  have e : (bs.map fun b => (b.toNat : Int)).map (fun n => UInt8.ofNat n.toNat) = bs := by
    rw [List.map_map]
    conv => rhs; rw [← List.map_id bs]
    exact List.map_congr_left (fun b _ => by simp)
  simp only [strOfNums]
  rw [e]

/-- A cell of the stack's block behind an append to the buffer. -/
theorem cell_on {wr w2 : World} {o : Obj} {B q n : Nat} {v x : Value} {xs : List Value} (hc : wr.cell? ⟨B, q, none⟩ = some x) (hown : wr.ownsRow (B + 1) 5 1 v n xs) (hg : (wr.alloc o).grownBy w2 v.ownBlock) : w2.cell? ⟨B, q, none⟩ = some x := by
  have hlt : B < wr.heap.size := World.block_lt_of_cell? wr ⟨B, q, none⟩ hc
  have h1 : (wr.alloc o).cell? ⟨B, q, none⟩ = some x := by
    rw [World.cell?_of_block (w := wr) (Below.heap_alloc wr o B hlt)]; exact hc
  exact hg.cell h1 (fun e => by have := (hown.lt B e.symm).1; omega)

theorem cleanEls_out {s : ByteArray} {ro : Bool} {st : List (List UInt8)} (hne : 0 < s.size) (hro : ro = (s.data.toList.head? == some 47)) (h : (els s.data.toList).foldl (cleanStep ro) [] = st) :
    cleanEls s.data.toList = if out ro st st.length = [] then [46] else out ro st st.length := by
  have hl : s.data.toList ≠ [] := by intro e; have := congrArg List.length e; rw [← Lib.size_eq] at this; rw [List.length_nil] at this; omega
  have ht : st.reverse.take st.length = st.reverse := List.take_of_length_le (by simp)
  cases ro with
  | true =>
    rw [cleanEls_abs _ hl hro.symm, h]
    simp [out, ht]
  | false =>
    rw [cleanEls_rel _ hl hro.symm, h]
    simp [out, ht]

theorem comp_toList {s : ByteArray} {k j : Nat} : (s.extract k j).toList = comp s k j := Lib.extract_toList s k j
theorem comp_str {s : ByteArray} {k j : Nat} : s.extract k j = ⟨(comp s k j).toArray⟩ := Lib.extract_eq s k j

theorem str_oneCell (c : ByteArray) : ∀ u ∈ [Value.string c], u.oneCell' = true := by
  intro u hu; simp at hu; subst hu; rfl

set_option maxRecDepth 100000 in
set_option maxHeartbeats 4000000 in
theorem clean_any (s : ByteArray) (w : World) (hs : s.size ≤ 1048576) (hne : 0 < s.size) :
    Calls Tryf.prog 18 #[.string s] w fun e w' => e = .returned (.string ⟨(cleanEls s.data.toList).toArray⟩) ∧ Below w.heap.size w w' := by
  obtain ⟨ro, hro⟩ : ∃ ro : Bool, ro = (s.data.toList.head? == some 47) := ⟨_, rfl⟩
  have hro1 : (((s[0]'hne).toNat : Int) == 47) = ro := by
    rw [hro, List.head?_eq_getElem?, byte_at hne]
    by_cases h : s[0]'hne = 47
    · simp [h]
    · have h1 : ¬ (((s[0]'hne).toNat : Int) = 47) := fun e => h (UInt8.toNat_inj.1 (by show (s[0]'hne).toNat = 47; omega))
      rw [beq_eq_false_iff_ne.2 h1]
      exact (beq_eq_false_iff_ne.2 (fun e => h (Option.some.inj e))).symm
  have HRO : Hid (ro = (s.data.toList.head? == some 47)) := hro
  clear hro
  obtain ⟨i0, hi, hz0, hz1, hz2⟩ := info_parts Tryf.info9
  go_enter Tryf.func18, Tryf.ntmps18
  go_wp2_with (at_make; refine wpList_make_own _ rfl _ _ 22 rfl w.heap.size 9 i0 (.string ⟨#[]⟩) 1 Tryf.underlying22 hi hz0 hz1 .i64 .i64 _ (s.size + 1) rfl rfl (by omega) (by rw [hz2]; omega) (by unfold maxLen; omega) (Nat.le_refl _) ?_; intro w1 hown1 hgrow1)
  go_loopw [4, 5] (fun v i wr => ∃ (k : Nat) (st : List (List UInt8)), k ≤ s.size + 1 ∧ i = .int .i64 k ∧ v = .slice (some ⟨w.heap.size, 0, none⟩) st.length (s.size + 1) ∧ Good ro s w wr k st) (fun _ i _ => s.size + 1 - (intOf i).toNat)
  case atStart => exact ⟨0, [], Nat.zero_le _, rfl, rfl, Plain.Remains.start _ _, Plain.Clear.nil _, Nat.le_refl _, hown1, (Below.refl _ _).grown hgrow1 (Nat.le_refl _) (fun k hk => by cases hk), fun e he => by cases he⟩
  case round =>
    clear hown1 hgrow1
    obtain ⟨k, st, hk, rfl, rfl, hg⟩ := hrel
    have HG : Hid (Good ro s w wr k st) := hg
    clear hg
    by_cases hlt : k < s.size
    · go_wp2
      go_loop [6] (fun j => ∃ m : Nat, k ≤ m ∧ m ≤ s.size ∧ j = .int .i64 m ∧ NoSlash s k m) (fun j => s.size - (intOf j).toNat)
      case atStart => exact ⟨k, Nat.le_refl _, by omega, rfl, NoSlash.start _ _⟩
      case round =>
        obtain ⟨j, hkj, hj, rfl, hns⟩ := hrel
        have HN : Hid (NoSlash s k j) := hns
        clear hns
        by_cases hin : ∃ hjs : j < s.size, (((s[j]'hjs).toNat : Int) != 47) = true
        · obtain ⟨hjs, h47⟩ := hin
          have HR : Hid (NoSlash s k (j + 1)) := HN.out.succ hjs h47
          clear HN
          go_wp2
          go_round
          case rel => exact ⟨j + 1, by omega, by omega, by go_num, HR.out⟩
          case measure => simp [intOf]; omega
        have hout : (∃ hjs : j < s.size, (((s[j]'hjs).toNat : Int) != 47) = false) ∨ ¬ j < s.size := by
          by_cases hjs : j < s.size
          · left; refine ⟨hjs, ?_⟩
            rcases Bool.eq_false_or_eq_true (((s[j]'hjs).toNat : Int) != 47) with h | h
            · exact absurd ⟨hjs, h⟩ hin
            · exact h
          · exact Or.inr hjs
        clear hin
        have HREM : Hid (Plain.Remains ro s.data.toList (j + 1) (cleanStep ro st (comp s k j))) := by
          refine HG.out.remains hlt hkj hj HN.out ?_
          rcases hout with ⟨hjs, h47⟩ | hjs
          · right; rw [byte_at hjs, byte_eq h47]
          · left; omega
        have hst : st.length ≤ k := HG.out.len
        clear HN
        by_cases h1 : comp s k j = [] ∨ comp s k j = [46]
        · have HGOOD : Hid (Good ro s w wr (j + 1) st) := by
            refine HG.out.stay hkj ?_
            have := HREM.out
            rcases h1 with h | h
            · rwa [h, step_nil] at this
            · rwa [h, step_dot] at this
          clear HG HREM
          have hE : (s.extract k j).toList.isEmpty = true ∨ ((s.extract k j).toList.isEmpty = false ∧ ((s.extract k j).toList == [46]) = true) := by
            rw [comp_toList]
            rcases h1 with h | h <;> simp [h]
          clear h1
          rcases hE with hE | ⟨hE, hD⟩
          all_goals rcases hout with ⟨hjs, h47⟩ | hjs
          all_goals
            go_wp2
            go_roundw
            case rel => exact ⟨j + 1, st, by omega, by go_num, rfl, HGOOD.out⟩
            case measure => simp [intOf]; omega
        have hE : (s.extract k j).toList.isEmpty = false := by rw [comp_toList]; simpa using fun h => h1 (Or.inl h)
        have hD : ((s.extract k j).toList == [46]) = false := by rw [comp_toList]; simpa using fun h => h1 (Or.inr h)
        by_cases h2 : comp s k j = [46, 46]
        · have hDD : ((s.extract k j).toList == [46, 46]) = true := by rw [comp_toList, h2]; rfl
          have HREM2 : Hid (Plain.Remains ro s.data.toList (j + 1) (cleanStep ro st [46, 46])) := h2 ▸ HREM.out
          clear HREM h1 h2
          cases st with
          | nil =>
            cases ro with
            | true =>
              have HGOOD : Hid (Good true s w wr (j + 1) []) := by
                refine HG.out.stay hkj ?_
                exact HREM2.out
              clear HG HREM2
              rcases hout with ⟨hjs, h47⟩ | hjs
              all_goals
                go_wp2
                go_roundw
                case rel => exact ⟨j + 1, [], by omega, by go_num, rfl, HGOOD.out⟩
                case measure => simp [intOf]; omega
            | false =>
              have HOWN : Hid (wr.ownsRow w.heap.size 9 1 (.slice (some ⟨w.heap.size, 0, none⟩) 0 (s.size + 1)) 0 (stackCells [])) := HG.out.stack
              rcases hout with ⟨hjs, h47⟩ | hjs
              all_goals
                go_wp2_with (at_builtin; refine wpList_append_fits _ rfl (.tmp 76) (.tmp 77) 22 rfl w.heap.size 9 i0 1 Tryf.underlying22 hi hz1 w.heap.size 0 (s.size + 1) (stackCells []) rfl (HOWN.out.alloc _) ⟨wr.heap.size, 0, none⟩ 1 1 [.string ⟨#[46, 46]⟩] rfl rfl (cell_one_new _ _ _) (str_oneCell _) (by omega) ?_; intro w1 hown1 hgrow1)
                have HGOOD : Hid (Good false s w w1 (j + 1) [[46, 46]]) := HG.out.push hkj HREM2.out Plain.Clear.no (by decide) rfl hown1 hgrow1
                clear hown1 hgrow1
                go_wp2
                go_roundw
                case rel => exact ⟨j + 1, [[46, 46]], by omega, by go_num, rfl, HGOOD.out⟩
                case measure => simp [intOf]; omega
          | cons x r =>
            obtain ⟨sx, hsx⟩ : ∃ sx : ByteArray, sx = ⟨x.toArray⟩ := ⟨_, rfl⟩
            have hcell : wr.cell? ⟨w.heap.size, r.length, none⟩ = some (.string sx) := by rw [hsx]; exact HG.out.stack.top
            have hsxl : sx.toList = x := by rw [hsx, Lib.toList_data]
            have hrl : r.length + 1 ≤ k := by simpa using hst
            by_cases hx : x = [46, 46]
            · have ht : (sx.toList == [46, 46]) = true := by rw [hsxl, hx]; rfl
              have hro0 : ro = false := by
                cases ro with
                | false => rfl
                | true => exact absurd (hx ▸ List.mem_cons_self ..) (HG.out.clean rfl)
              subst hro0
              subst hx
              have HREM3 : Hid (Plain.Remains false s.data.toList (j + 1) ([46, 46] :: [46, 46] :: r)) := by
                have := HREM2.out
                rwa [Plain.step_up_push (fun x' r' h => by cases h; rfl)] at this
              have HOWN : Hid (wr.ownsRow w.heap.size 9 1 (.slice (some ⟨w.heap.size, 0, none⟩) (r.length + 1) (s.size + 1)) (r.length + 1) (stackCells ([46, 46] :: r))) := HG.out.stack
              clear HREM2 hsx hsxl
              rcases hout with ⟨hjs, h47⟩ | hjs
              all_goals
                go_wp2_with (at_builtin; refine wpList_append_fits _ rfl (.tmp 76) (.tmp 77) 22 rfl w.heap.size 9 i0 1 Tryf.underlying22 hi hz1 w.heap.size (r.length + 1) (s.size + 1) (stackCells ([46, 46] :: r)) rfl (HOWN.out.alloc _) ⟨wr.heap.size, 0, none⟩ 1 1 [.string ⟨#[46, 46]⟩] rfl rfl (cell_one_new _ _ _) (str_oneCell _) (by omega) ?_; intro w1 hown1 hgrow1)
                have HGOOD : Hid (Good false s w w1 (j + 1) ([46, 46] :: [46, 46] :: r)) := HG.out.push hkj HREM3.out Plain.Clear.no (by decide) rfl hown1 hgrow1
                clear hown1 hgrow1
                go_wp2
                go_roundw
                case rel => exact ⟨j + 1, [46, 46] :: [46, 46] :: r, by omega, by go_num, rfl, HGOOD.out⟩
                case measure => simp [intOf]; omega
            · have ht : (sx.toList == [46, 46]) = false := by rw [hsxl]; simpa using hx
              have HGOOD : Hid (Good ro s w wr (j + 1) r) := by
                refine HG.out.pop hkj ?_
                have := HREM2.out
                rwa [Plain.step_up_pop hx] at this
              clear HG HREM2 hsx hsxl hx
              rcases hout with ⟨hjs, h47⟩ | hjs
              all_goals
                go_wp2
                go_roundw
                case rel => exact ⟨j + 1, r, by omega, by go_num, rfl, HGOOD.out⟩
                case measure => simp [intOf]; omega
        · have hDD : ((s.extract k j).toList == [46, 46]) = false := by rw [comp_toList]; simpa using h2
          have HREM2 : Hid (Plain.Remains ro s.data.toList (j + 1) (comp s k j :: st)) := by
            have := HREM.out
            rwa [step_elem ro st _ (fun h => h1 (Or.inl h)) (fun h => h1 (Or.inr h)) h2] at this
          have HCL : Hid (Plain.Clear ro (comp s k j :: st)) := HG.out.clean.cons h2
          have HOWN : Hid (wr.ownsRow w.heap.size 9 1 (.slice (some ⟨w.heap.size, 0, none⟩) st.length (s.size + 1)) st.length (stackCells st)) := HG.out.stack
          clear HREM h1 h2
          rcases hout with ⟨hjs, h47⟩ | hjs
          all_goals
            go_wp2_with (at_builtin; refine wpList_append_fits _ rfl (.tmp 43) (.tmp 45) 22 rfl w.heap.size 9 i0 1 Tryf.underlying22 hi hz1 w.heap.size st.length (s.size + 1) (stackCells st) rfl (HOWN.out.alloc _) ⟨wr.heap.size, 0, none⟩ 1 1 [.string (s.extract k j)] rfl rfl (cell_one_new _ _ _) (str_oneCell _) (by omega) ?_; intro w1 hown1 hgrow1)
            have HGOOD : Hid (Good ro s w w1 (j + 1) (comp s k j :: st)) := HG.out.push hkj HREM2.out HCL.out (comp_small hs) comp_str hown1 hgrow1
            clear hown1 hgrow1
            go_wp2
            go_roundw
            case rel => exact ⟨j + 1, comp s k j :: st, by omega, by go_num, rfl, HGOOD.out⟩
            case measure => simp [intOf]; omega
    have HFIN : Hid (cleanEls s.data.toList = if out ro st st.length = [] then [46] else out ro st st.length) := cleanEls_out hne HRO.out (HG.out.rem.done (by rw [← Lib.size_eq]; omega))
    have hsl : st.length ≤ 1048577 := by have := HG.out.len; omega
    have HSM : Hid (∀ e, e ∈ st → e.length ≤ 1048576) := HG.out.small
    obtain ⟨i5, hi5, hy0, hy1, hy2⟩ := info_parts Tryf.info5
    clear hi hz0 hz1 hz2 HRO
    have hroom : w.heap.size + 1 ≤ wr.heap.size := (World.ownsRow.lt HG.out.stack _ rfl).2
    have HB0 : Hid (Stack wr w.heap.size (s.size + 1) st ∧ Below w.heap.size w wr) := ⟨HG.out.stack, HG.out.below⟩
    clear HG
    cases ro
    case false =>
      go_wp2_with (at_make; refine wpList_make_own _ rfl _ _ 50 rfl (w.heap.size + 1) 5 i5 (.int .u8 0) 1 Tryf.underlying50 hi5 hy0 hy1 .i64 .i64 _ (s.size + 1) rfl rfl (by omega) (by rw [hy2]; omega) (by unfold maxLen; omega) hroom ?_; intro w1 hown1 hgrow1)
      have HB : Hid (Buf false s w w1 st (.slice (some ⟨wr.heap.size, 0, none⟩) 0 (s.size + 1)) (out false st 0)) := by
        rw [out_zero]
        exact ⟨hown1, HB0.out.1.kept hgrow1 (by simp), HB0.out.2.grown hgrow1 HB0.out.2.size (fun k hk => by cases hk), Nat.le_trans hroom hgrow1.size⟩
      clear hown1 hgrow1 HB0
      go_loopw [8, 9] (fun b i wx => ∃ q : Nat, q ≤ st.length ∧ i = .int .i64 q ∧ Buf false s w wx st b (out false st q)) (fun _ i _ => st.length - (intOf i).toNat)
      case atStart => exact ⟨0, Nat.zero_le _, rfl, HB.out⟩
      case round =>
        clear HB
        obtain ⟨q, hq, rfl, hbuf⟩ := hrel
        have HB : Hid (Buf false s w wr st u8 (out false st q)) := hbuf
        clear hbuf
        have hlen : (out false st q).length ≤ 1 + q * 1048577 := out_small HSM.out q hq
        have hlen2 : (out false st q).length ≤ 4398046511104 := by
          have : q * 1048577 ≤ 1048577 * 1048577 := Nat.mul_le_mul_right _ (by omega)
          omega
        clear hlen
        by_cases hql : q < st.length
        · obtain ⟨e, he, hem⟩ := rev_at hql
          have hel : e.length ≤ 1048576 := HSM.out e hem
          obtain ⟨se, hse⟩ : ∃ se : ByteArray, se = ⟨e.toArray⟩ := ⟨_, rfl⟩
          have hsz : se.size ≤ 1048576 := by rw [hse, Lib.size_eq]; exact hel
          have hcell : wr.cell? ⟨w.heap.size, q, none⟩ = some (.string se) := by
            rw [World.ownsRow.cellAt HB.out.stack q (by omega)]
            rw [hse]
            rw [stackCells, List.getElem?_map, he]; rfl
          have HE : Hid (Lib.strCells se = byteCells e ∧ se.size = e.length) := by
            rw [hse]
            exact ⟨rfl, Lib.size_eq _⟩
          have HQ : Hid (st.reverse[q]? = some e) := he
          clear he hem hse hel
          have hroom2 : w.heap.size + 1 ≤ wr.heap.size := HB.out.room
          by_cases hq0 : q = 0
          · subst hq0
            go_wp2_with (at_builtin; refine Lib.wpList_append_own_string _ rfl (.tmp 100) (.tmp 104) 50 9 rfl (w.heap.size + 1) 5 i5 Tryf.underlying50 Tryf.underlying9 hi5 hy0 hy1 hy2 _ _ _ rfl HB.out.own se rfl (by unfold maxLen; omega) (by omega) hroom2 ?_; intro v3 w3 hown3 hgrow3 _)
            have HB2 : Hid (Buf false s w w3 st v3 (out false st (0 + 1))) := by
              have h := HE.out
              rw [h.1, h.2] at hown3
              have := HB.out.grow hown3 hgrow3
              rwa [← out_one HQ.out] at this
            clear hown3 hgrow3 HB
            go_wp2
            go_roundw
            case rel => exact ⟨0 + 1, by omega, by go_num, HB2.out⟩
            case measure => simp [intOf]; omega
          · go_wp2_with (first | (at_builtin; refine wpList_append_own _ rfl (.tmp 97) (.tmp 98) 50 rfl (w.heap.size + 1) 5 i5 (.int .u8 0) 1 1 Tryf.underlying50 hi5 hy0 hy1 hy2 rfl (by decide) _ _ _ rfl (HB.out.own.alloc _) ⟨wr.heap.size, 0, none⟩ 1 1 [.int .u8 47] rfl rfl (cell_one_new _ _ _) (byte_oneCell _) (by unfold maxLen; omega) (by omega) (by simp; omega) ?_; intro v2 w2 hown2 hgrow2 _; have HB1 : Hid (Buf false s w w2 st v2 (out false st q ++ [47])) := ((HB.out.alloc _).grow hown2 hgrow2); have hcell2 : w2.cell? ⟨w.heap.size, q, none⟩ = some (.string se) := cell_on hcell HB.out.own hgrow2; have hlen3 : (out false st q ++ [47]).length ≤ 4398046511105 := by (rw [List.length_append, List.length_singleton]; omega)) | (at_builtin; refine Lib.wpList_append_own_string _ rfl (.tmp 100) (.tmp 104) 50 9 rfl (w.heap.size + 1) 5 i5 Tryf.underlying50 Tryf.underlying9 hi5 hy0 hy1 hy2 _ _ _ rfl HB1.out.own se rfl (by unfold maxLen; omega) (by omega) HB1.out.room ?_; intro v3 w3 hown3 hgrow3 _))
            have HB2 : Hid (Buf false s w w3 st v3 (out false st (q + 1))) := by
              have h := HE.out
              rw [h.1, h.2] at hown3
              have := HB1.out.grow hown3 hgrow3
              rwa [← out_succ (by omega) hql HQ.out] at this
            clear hown3 hgrow3 HB hown2 hgrow2 HB1
            go_wp2
            go_roundw
            case rel => exact ⟨q + 1, by omega, by go_num, HB2.out⟩
            case measure => simp [intOf]; omega
        · have hqe : q = st.length := by omega
          subst hqe
          obtain ⟨bs, hbs⟩ : ∃ bs, bs = out false st st.length := ⟨_, rfl⟩
          rw [← hbs] at hlen2
          have HB3 : Hid (Buf false s w wr st u8 bs) := by rw [hbs]; exact HB.out
          have HF : Hid (cleanEls s.data.toList = if bs = [] then [46] else bs) := by rw [hbs]; exact HFIN.out
          have HBEL : Hid (Below w.heap.size w wr) := HB.out.below
          clear HB hbs HFIN
          obtain ⟨a, cap, rfl, hcs⟩ := HB3.out.shape
          clear HB3
          by_cases hb0 : bs = []
          · have hl0 : bs.length = 0 := by rw [hb0]; rfl
            have HF2 : Hid (cleanEls s.data.toList = [46]) := by have := HF.out; rwa [if_pos hb0] at this
            clear hcs HF
            generalize bs.length = N at *
            subst hl0
            go_wp2
            go_ret
            exact ⟨by rw [HF2.out]; rfl, HBEL.out⟩
          · obtain ⟨g, rfl, hcs2⟩ := hcs hb0
            have hconv := conv_run (cap := cap) hcs2
            have hl0 : (((bs.length : Nat) : Int) == 0) = false := by
              rw [beq_eq_false_iff_ne]
              intro h
              exact hb0 (List.eq_nil_of_length_eq_zero (by omega))
            have HF2 : Hid (cleanEls s.data.toList = bs) := by have := HF.out; rwa [if_neg hb0] at this
            clear hcs hcs2 HF hb0
            go_wp2
            go_ret
            exact ⟨by rw [HF2.out]; rfl, HBEL.out⟩
    case true =>
      go_wp2_with (first | (at_make; refine wpList_make_own _ rfl _ _ 50 rfl (w.heap.size + 1) 5 i5 (.int .u8 0) 1 Tryf.underlying50 hi5 hy0 hy1 .i64 .i64 _ (s.size + 1) rfl rfl (by omega) (by rw [hy2]; omega) (by unfold maxLen; omega) hroom ?_; intro w1 hown1 hgrow1) | (at_builtin; refine wpList_append_own _ rfl (.tmp 86) (.tmp 87) 50 rfl (w.heap.size + 1) 5 i5 (.int .u8 0) 1 1 Tryf.underlying50 hi5 hy0 hy1 hy2 rfl (by decide) _ 0 [] rfl (hown1.alloc _) ⟨w1.heap.size, 0, none⟩ 1 1 [.int .u8 47] rfl rfl (cell_one_new _ _ _) (byte_oneCell _) (by unfold maxLen; omega) (by omega) (by have := hgrow1.size; simp; omega) ?_; intro v2 w2 hown2 hgrow2 _))
      have HB : Hid (Buf true s w w2 st v2 (out true st 0)) := by
        rw [out_zero]
        have h0 : Buf true s w w1 st (.slice (some ⟨wr.heap.size, 0, none⟩) 0 (s.size + 1)) [] := ⟨hown1, HB0.out.1.kept hgrow1 (by simp), HB0.out.2.grown hgrow1 HB0.out.2.size (fun k hk => by cases hk), Nat.le_trans hroom hgrow1.size⟩
        exact (h0.alloc _).grow (more := [47]) hown2 hgrow2
      clear hown1 hgrow1 HB0 hown2 hgrow2
      go_loopw [8, 9] (fun b i wx => ∃ q : Nat, q ≤ st.length ∧ i = .int .i64 q ∧ Buf true s w wx st b (out true st q)) (fun _ i _ => st.length - (intOf i).toNat)
      case atStart => exact ⟨0, Nat.zero_le _, rfl, HB.out⟩
      case round =>
        clear HB
        obtain ⟨q, hq, rfl, hbuf⟩ := hrel
        have HB : Hid (Buf true s w wr st u8 (out true st q)) := hbuf
        clear hbuf
        have hlen : (out true st q).length ≤ 1 + q * 1048577 := out_small HSM.out q hq
        have hlen2 : (out true st q).length ≤ 4398046511104 := by
          have : q * 1048577 ≤ 1048577 * 1048577 := Nat.mul_le_mul_right _ (by omega)
          omega
        clear hlen
        by_cases hql : q < st.length
        · obtain ⟨e, he, hem⟩ := rev_at hql
          have hel : e.length ≤ 1048576 := HSM.out e hem
          obtain ⟨se, hse⟩ : ∃ se : ByteArray, se = ⟨e.toArray⟩ := ⟨_, rfl⟩
          have hsz : se.size ≤ 1048576 := by rw [hse, Lib.size_eq]; exact hel
          have hcell : wr.cell? ⟨w.heap.size, q, none⟩ = some (.string se) := by
            rw [World.ownsRow.cellAt HB.out.stack q (by omega)]
            rw [hse]
            rw [stackCells, List.getElem?_map, he]; rfl
          have HE : Hid (Lib.strCells se = byteCells e ∧ se.size = e.length) := by
            rw [hse]
            exact ⟨rfl, Lib.size_eq _⟩
          have HQ : Hid (st.reverse[q]? = some e) := he
          clear he hem hse hel
          have hroom2 : w.heap.size + 1 ≤ wr.heap.size := HB.out.room
          by_cases hq0 : q = 0
          · subst hq0
            go_wp2_with (at_builtin; refine Lib.wpList_append_own_string _ rfl (.tmp 100) (.tmp 104) 50 9 rfl (w.heap.size + 1) 5 i5 Tryf.underlying50 Tryf.underlying9 hi5 hy0 hy1 hy2 _ _ _ rfl HB.out.own se rfl (by unfold maxLen; omega) (by omega) hroom2 ?_; intro v3 w3 hown3 hgrow3 _)
            have HB2 : Hid (Buf true s w w3 st v3 (out true st (0 + 1))) := by
              have h := HE.out
              rw [h.1, h.2] at hown3
              have := HB.out.grow hown3 hgrow3
              rwa [← out_one HQ.out] at this
            clear hown3 hgrow3 HB
            go_wp2
            go_roundw
            case rel => exact ⟨0 + 1, by omega, by go_num, HB2.out⟩
            case measure => simp [intOf]; omega
          · go_wp2_with (first | (at_builtin; refine wpList_append_own _ rfl (.tmp 97) (.tmp 98) 50 rfl (w.heap.size + 1) 5 i5 (.int .u8 0) 1 1 Tryf.underlying50 hi5 hy0 hy1 hy2 rfl (by decide) _ _ _ rfl (HB.out.own.alloc _) ⟨wr.heap.size, 0, none⟩ 1 1 [.int .u8 47] rfl rfl (cell_one_new _ _ _) (byte_oneCell _) (by unfold maxLen; omega) (by omega) (by simp; omega) ?_; intro v2 w2 hown2 hgrow2 _; have HB1 : Hid (Buf true s w w2 st v2 (out true st q ++ [47])) := ((HB.out.alloc _).grow hown2 hgrow2); have hcell2 : w2.cell? ⟨w.heap.size, q, none⟩ = some (.string se) := cell_on hcell HB.out.own hgrow2; have hlen3 : (out true st q ++ [47]).length ≤ 4398046511105 := by (rw [List.length_append, List.length_singleton]; omega)) | (at_builtin; refine Lib.wpList_append_own_string _ rfl (.tmp 100) (.tmp 104) 50 9 rfl (w.heap.size + 1) 5 i5 Tryf.underlying50 Tryf.underlying9 hi5 hy0 hy1 hy2 _ _ _ rfl HB1.out.own se rfl (by unfold maxLen; omega) (by omega) HB1.out.room ?_; intro v3 w3 hown3 hgrow3 _))
            have HB2 : Hid (Buf true s w w3 st v3 (out true st (q + 1))) := by
              have h := HE.out
              rw [h.1, h.2] at hown3
              have := HB1.out.grow hown3 hgrow3
              rwa [← out_succ (by omega) hql HQ.out] at this
            clear hown3 hgrow3 HB hown2 hgrow2 HB1
            go_wp2
            go_roundw
            case rel => exact ⟨q + 1, by omega, by go_num, HB2.out⟩
            case measure => simp [intOf]; omega
        · have hqe : q = st.length := by omega
          subst hqe
          obtain ⟨bs, hbs⟩ : ∃ bs, bs = out true st st.length := ⟨_, rfl⟩
          rw [← hbs] at hlen2
          have HB3 : Hid (Buf true s w wr st u8 bs) := by rw [hbs]; exact HB.out
          have HF : Hid (cleanEls s.data.toList = if bs = [] then [46] else bs) := by rw [hbs]; exact HFIN.out
          have HBEL : Hid (Below w.heap.size w wr) := HB.out.below
          clear HB hbs HFIN
          obtain ⟨a, cap, rfl, hcs⟩ := HB3.out.shape
          clear HB3
          by_cases hb0 : bs = []
          · have hl0 : bs.length = 0 := by rw [hb0]; rfl
            have HF2 : Hid (cleanEls s.data.toList = [46]) := by have := HF.out; rwa [if_pos hb0] at this
            clear hcs HF
            generalize bs.length = N at *
            subst hl0
            go_wp2
            go_ret
            exact ⟨by rw [HF2.out]; rfl, HBEL.out⟩
          · obtain ⟨g, rfl, hcs2⟩ := hcs hb0
            have hconv := conv_run (cap := cap) hcs2
            have hl0 : (((bs.length : Nat) : Int) == 0) = false := by
              rw [beq_eq_false_iff_ne]
              intro h
              exact hb0 (List.eq_nil_of_length_eq_zero (by omega))
            have HF2 : Hid (cleanEls s.data.toList = bs) := by have := HF.out; rwa [if_neg hb0] at this
            clear hcs hcs2 HF hb0
            go_wp2
            go_ret
            exact ⟨by rw [HF2.out]; rfl, HBEL.out⟩

end Go.Proofs.Qxb6614385aFmt
