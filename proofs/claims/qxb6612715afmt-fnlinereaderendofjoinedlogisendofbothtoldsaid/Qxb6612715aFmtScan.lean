/-
  (*bufio.Scanner).Scan (17): the parts of its loop joined.
-/
import Derived.Test.Qxb6612715aFmtSegA
import Derived.Test.Qxb6612715aFmtSegB
import Derived.Test.Qxb6612715aFmtSegC
import Derived.Test.Qxb6612715aFmtSegD
import Derived.Test.Qxb6612715aFmtSegE
import Derived.Test.Qxb6612715aFmtSegF
import Derived.Test.Qxb6612715aFmtSeg2
import Derived.Test.Qxb6612715aFmtSeg3A
import Derived.Test.Qxb6612715aFmtSeg3B
import Derived.Test.Qxb6612715aFmtSeg3C
import Derived.Test.Qxb6612715aFmtSeg4A
import Derived.Test.Qxb6612715aFmtSeg4B
import Derived.Test.Qxb6612715aFmtSeg4C
import Derived.Test.Qxb6612715aFmtSeg5A
import Derived.Test.Qxb6612715aFmtSeg5B
namespace Go.Proofs.Qxb6612715aFmt
open Go.RowKit

theorem wp_then {P : Program} {c : Code} {K K' : Act → World → Prop} {Q : Exit → Act → World → Prop} {a : Act} {w : World} (h : c.wp P (Exit.then K Q) a w) (hk : ∀ a w, K a w → K' a w) : c.wp P (Exit.then K' Q) a w :=
  Code.wp_mono (fun e a w q => by cases e <;> first | exact hk _ _ q | exact q) h
theorem wp_out {P : Program} {c : Code} {K : Act → World → Prop} {Q : Exit → Act → World → Prop} {a : Act} {w : World} (h : c.wp P (Exit.then K Q) a w) (hk : ∀ a w, K a w → Q .normal a w) : c.wp P Q a w :=
  Code.wp_mono (fun e a w q => by cases e <;> first | exact hk _ _ q | exact q) h

/-- the loop's head -/
def Head1 (w0 : World) (B sb rb : Nat) (t : ByteArray) (aE : Addr) (c0 : Nat) (w : World) : Prop :=
  ∃ (c e N st : Nat) (tk bv er : Value) (em pr : Int) (sc : Bool), Core w0 w B sb rb t aE c0 c e N st tk bv er em pr sc

section
variable (w0 w : World) (B sb rb : Nat) (t : ByteArray) (aE aT : Addr) (c0 m : Nat) (Q0 : Exit → Act → World → Prop) (hret : ∀ a' w' b, Ret a' b → ScanPost w0 B sb rb t aE aT c0 b w' → Q0 .ret a' w') (a : Act) (hf : Frame sb a)

include hret hf
theorem part1 (h : Head1 w0 B sb rb t aE c0 w) (hm : (t.size - rdI w rb) + erN w sb = m) : Code.wp Tryf.prog seg1 (Exit.then (fun a' w' => Frame sb a' ∧ M1 w0 B sb rb t aE c0 m w') Q0) a w := by
  obtain ⟨c, e, N, st, tk, bv, er, em, pr, sc, hc⟩ := h
  have hr := rdI_of hc.s.rd
  have hce := hc.s.ce
  have hidx : ∀ l : List UInt8, (∃ q : Nat, Lib.indexByte l 10 = (q : Int)) ∨ Lib.indexByte l 10 = -1 := by
    intro l
    have := Lib.indexByte_ge l 10
    rcases h : Lib.indexByte l 10 with q | q
    · exact Or.inl ⟨q, rfl⟩
    · rw [h] at this; right; omega
  rcases hc.x with hx | ⟨hx, hxe⟩
  · subst hx
    have hn := erN_nil hc.s.sc'
    rw [hr, hn] at hm
    by_cases h0 : c = e
    · exact seg1_skip w0 w B sb rb t aE aT c0 m c e N st tk bv em pr sc hc h0 hm Q0 hret a hf
    · rcases hidx (t.extract c e).data.toList with ⟨q, hq⟩ | hq
      · exact seg1_line w0 w B sb rb t aE aT c0 m c e N st tk bv em pr sc hc q hq (by omega) Q0 hret a hf
      · exact seg1_none w0 w B sb rb t aE aT c0 m c e N st tk bv em pr sc hc (by omega) hq hm Q0 hret a hf
  · subst hx
    by_cases h0 : c = e
    · exact seg1_end w0 w B sb rb t aE aT c0 m c e N st tk bv em pr sc hc h0 Q0 hret a hf
    · rcases hidx (t.extract c e).data.toList with ⟨q, hq⟩ | hq
      · exact seg1_line_eof w0 w B sb rb t aE aT c0 m c e N st tk bv em pr sc hc q hq (by omega) Q0 hret a hf
      · exact seg1_last w0 w B sb rb t aE aT c0 m c e N st tk bv em pr sc hc hq (by omega) Q0 hret a hf
theorem part2 (h : M1 w0 B sb rb t aE c0 m w) : Code.wp Tryf.prog seg2 (Exit.then (fun a' w' => Frame sb a' ∧ M2 w0 B sb rb t aE c0 m w') Q0) a w := by
  obtain ⟨c, e, N, st, tk, bv, er, em, pr, sc, hc, ⟨rfl, h1, h2⟩ | ⟨rfl, h1⟩⟩ := h
  · exact seg2_nil w0 w B sb rb t aE aT c0 m c e N st tk bv em pr sc hc h1 h2 Q0 hret a hf
  · exact seg2_eof w0 w B sb rb t aE aT c0 m c e N st tk bv em pr sc hc h1 Q0 hret a hf
theorem part3 (h : M2 w0 B sb rb t aE c0 m w) : Code.wp Tryf.prog seg3 (Exit.then (fun a' w' => Frame sb a' ∧ M3 w0 B sb rb t aE c0 m w') Q0) a w := by
  obtain ⟨c, e, N, st, tk, bv, em, pr, sc, hc, h1, h2⟩ := h
  have hfit := hc.s.fit
  by_cases h0 : st = 0
  · exact seg3_zero w0 w B sb rb t aE aT c0 m c e N st tk bv em pr sc hc h1 h2 h0 Q0 hret a hf
  · by_cases hfull : st + (e - c) = N
    · exact seg3_full w0 w B sb rb t aE aT c0 m c e N st tk bv em pr sc hc h1 h2 (by omega) hfull Q0 hret a hf
    · by_cases hh : st ≤ N / 2
      · exact seg3_room w0 w B sb rb t aE aT c0 m c e N st tk bv em pr sc hc h1 h2 (by omega) (by omega) hh Q0 hret a hf
      · exact seg3_half w0 w B sb rb t aE aT c0 m c e N st tk bv em pr sc hc h1 h2 (by omega) (by omega) (by omega) Q0 hret a hf
theorem part4 (hB : 2 < B) (hg2 : w0.cell? ⟨2, 0, none⟩ = some (.iface 76 (.pointer (some aT)))) (h : M3 w0 B sb rb t aE c0 m w) : Code.wp Tryf.prog seg4 (Exit.then (fun a' w' => Frame sb a' ∧ M4 w0 B sb rb t aE c0 m w') Q0) a w := by
  obtain ⟨c, e, N, st, tk, bv, em, pr, sc, hc, h1, h2, h3⟩ := h
  have hfit := hc.s.fit
  have hn64 := hc.s.n64
  by_cases hroom : st + (e - c) < N
  · exact seg4_room w0 w B sb rb t aE aT c0 m c e N st tk bv em pr sc hc h2 hroom Q0 hret a hf
  · have hst : st = 0 := by omega
    by_cases hN : N = 65536
    · exact seg4_long w0 w B sb rb t aE aT c0 m c e N st tk bv em pr sc hc h1 hN hst (by omega) hB hg2 Q0 hret a hf
    · by_cases hN0 : N = 0
      · exact seg4_first w0 w B sb rb t aE aT c0 m c e N st tk bv em pr sc hc h2 hst (by omega) hN0 Q0 hret a hf
      · exact seg4_grow w0 w B sb rb t aE aT c0 m c e N st tk bv em pr sc hc h2 hst (by omega) (by omega) (by omega) _ rfl Q0 hret a hf
theorem part5 (hB : 2 < B) (hg1 : w0.cell? ⟨1, 0, none⟩ = some (.iface 76 (.pointer (some aE)))) (ht : t.size ≤ 2097152) (h : M4 w0 B sb rb t aE c0 m w) : Code.wp Tryf.prog seg5 (Exit.then (fun a' w' => Frame sb a' ∧ M5 w0 B sb rb t aE c0 m w') Q0) a w := by
  obtain ⟨c, e, N, st, tk, bv, em, pr, sc, hc, h2, h3⟩ := h
  have het := hc.s.et
  by_cases h0 : e = t.size
  · exact seg5_end w0 w B sb rb t aE aT c0 m c e N st tk bv em pr sc hc h2 h3 h0 hB hg1 Q0 hret a hf
  · exact seg5_some w0 w B sb rb t aE aT c0 m c e N st tk bv em pr sc hc h2 h3 (by omega) ht Q0 hret a hf

theorem scan_loop (hB : 2 < B) (hg1 : w0.cell? ⟨1, 0, none⟩ = some (.iface 76 (.pointer (some aE)))) (hg2 : w0.cell? ⟨2, 0, none⟩ = some (.iface 76 (.pointer (some aT)))) (ht : t.size ≤ 2097152) (h : Head1 w0 B sb rb t aE c0 w) : Code.wp Tryf.prog (Code.loop scanBody) Q0 a w := by
  refine wp_loop (fun a w => Frame sb a ∧ Head1 w0 B sb rb t aE c0 w) (fun _ w => (t.size - rdI w rb) + erN w sb) ⟨hf, h⟩ ?_
  rintro a w ⟨hf, h⟩
  rw [scanBody_is]
  refine wp_block ?_
  have hret' : ∀ a' w' b, Ret a' b → ScanPost w0 B sb rb t aE aT c0 b w' → Exit.inBlock 1 (Exit.then (fun a' w' => (Frame sb a' ∧ Head1 w0 B sb rb t aE c0 w') ∧ (t.size - rdI w' rb) + erN w' sb < (t.size - rdI w rb) + erN w sb) Q0) .ret a' w' := hret
  refine wp_seq (wp_then (part1 w0 w B sb rb t aE aT c0 _ _ hret' a hf h rfl) ?_)
  rintro a1 w1 ⟨hf1, h1⟩
  refine wp_seq (wp_then (part2 w0 w1 B sb rb t aE aT c0 _ _ hret' a1 hf1 h1) ?_)
  rintro a2 w2 ⟨hf2, h2⟩
  refine wp_seq (wp_then (part3 w0 w2 B sb rb t aE aT c0 _ _ hret' a2 hf2 h2) ?_)
  rintro a3 w3 ⟨hf3, h3⟩
  refine wp_seq (wp_then (part4 w0 w3 B sb rb t aE aT c0 _ _ hret' a3 hf3 hB hg2 h3) ?_)
  rintro a4 w4 ⟨hf4, h4⟩
  refine wp_out (part5 w0 w4 B sb rb t aE aT c0 _ _ hret' a4 hf4 hB hg1 ht h4) ?_
  rintro a5 w5 ⟨hf5, c, e, N, st, tk, bv, er, em, pr, sc, h5, h6⟩
  exact ⟨⟨hf5, c, e, N, st, tk, bv, er, em, pr, sc, h5⟩, h6⟩
end

set_option maxRecDepth 100000 in
set_option maxHeartbeats 8000000 in
theorem scan_any (w0 w : World) (B sb rb : Nat) (t : ByteArray) (aE aT : Addr) (c0 : Nat) (ht : t.size ≤ 2097152) (hB : 2 < B) (hg1 : w0.cell? ⟨1, 0, none⟩ = some (.iface 76 (.pointer (some aE)))) (hg2 : w0.cell? ⟨2, 0, none⟩ = some (.iface 76 (.pointer (some aT))))
    (h : Head1 w0 B sb rb t aE c0 w) :
    Calls Tryf.prog 17 #[.pointer (some ⟨sb, 0, none⟩)] w fun e w' => ∃ b, e = .returned (.bool b) ∧ ScanPost w0 B sb rb t aE aT c0 b w' := by
  obtain ⟨c, e, N, st, tk, bv, er, em, pr, sc, hst, her, hnw, hls, hc, hbel⟩ := h
  have hc10 := hst.sc'.c10
  have hc9 := hst.sc'.c9
  have hf9 := hst.sc'.fz 9
  have HH : Hid (Head1 w0 B sb rb t aE c0 (w.setCell ⟨sb, 9, none⟩ (.bool true))) :=
    ⟨c, e, N, st, tk, bv, er, em, pr, true, ⟨⟨hst.sc'.set9 true, hst.rd.same (Below.heap_setCell _ _ _ _ (fun e => sc_ne_rd hst.sc' hst.rd e.symm)), hst.buf.same (fun bb cur hr => Below.heap_setCell _ _ _ _ (fun e => sc_ne_row hst.sc' hr e.symm)), hst.ce, hst.et, hst.n64, hst.fit, hst.eof, hst.hs, hst.hr⟩, her, hnw, hls, hc, (only_set w sb 9 _).below hbel hst.hs⟩⟩
  clear hst her hnw hls hc hbel
  go_enter Tryf.func17, Tryf.ntmps17
  go_wp2_with fail
  refine scan_loop w0 _ B sb rb t aE aT c0 _ ?_ _ ⟨rfl, rfl, rfl⟩ hB hg1 hg2 ht HH.out
  intro a' w' b hr hp
  simp only [Exit.inBlock]
  refine bodyPost_ret (results_tmp rfl _ _ _) hr.d ?_
  exact ⟨b, by rw [hr.r], hp⟩

end Go.Proofs.Qxb6612715aFmt
