/-
  THE WALKS OF THE ENCODER: binary.AppendUvarint onto a slice that the call owns; number, txn, txns.
-/
import Derived.Test.Qxb6608741aMem
namespace Go.Proofs.Qxb6608741a
open Go Go.RowKit

theorem Try.info5 : (Try.prog.info? 5).map (fun i => (i.zero, i.size, i.bytes)) = some (some (.int .u8 0), 1, 1) := by kernel_rfl

set_option maxHeartbeats 1600000 in
set_option maxRecDepth 100000 in
theorem appendUvarint (B n x : Nat) (hx : x < 18446744073709551616) (sv : Value) (xs : List Value) (w : World) (hown : w.ownsRow B 5 1 sv n xs) (hBw : B ≤ w.heap.size) (hlim : n + 10 ≤ 140737488355328) :
    Calls Try.prog 48 #[sv, .int .u64 x] w fun e w' => ∃ v', e = .returned v' ∧ w'.ownsRow B 5 1 v' (n + (Lib.uvarint x).length) (xs ++ Lib.byteCells (Lib.uvarint x)) ∧ w.grownBy w' sv.ownBlock ∧ (v'.ownBlock = sv.ownBlock ∨ ∃ g, v'.ownBlock = some g ∧ w.heap.size ≤ g) := by
  obtain ⟨i0, hi, hz0, hz1, hz2⟩ := info_parts Try.info5
  have hlen := Lib.uvarint_length64 hx
  have hcv : ∀ {w1 : World} {v1 : Value}, Step w.heap.size w sv w1 v1 → w.grownBy w1 sv.ownBlock ∧ (v1.ownBlock = sv.ownBlock ∨ ∃ g, v1.ownBlock = some g ∧ w.heap.size ≤ g) := fun h =>
    ⟨⟨h.os, h.tape, h.output, h.size, fun k hk he => h.block k hk (by omega) (fun e => he e.symm)⟩, h.row⟩
  have CV := @hcv
  clear hcv
  go_enter Try.func48, Try.ntmps48
  go_wp2
  go_loopw [0, 1] (fun vb vx wr => ∃ (y : Nat) (pre : List UInt8), vx = .int .u64 y ∧ y ≤ x ∧ Lib.uvarint x = pre ++ Lib.uvarint y ∧ wr.ownsRow B 5 1 vb (n + pre.length) (xs ++ Lib.byteCells pre) ∧ Step w.heap.size w sv wr vb)
    (fun _ vx _ => (intOf vx).toNat)
  case atStart => exact ⟨x, [], rfl, Nat.le_refl _, rfl, by simpa [Lib.byteCells] using hown, Step.refl _ _ _⟩
  case round =>
    obtain ⟨y, pre, rfl, hy, hsplit, hown1, hst⟩ := hrel
    have HS : Hid (Lib.uvarint x = pre ++ Lib.uvarint y) := hsplit
    clear hsplit
    have hpl : pre.length + (Lib.uvarint y).length ≤ 10 := by
      have h2 := congrArg List.length HS.out
      rw [List.length_append] at h2
      omega
    have hyp := Lib.uvarint_pos y
    have hsz := hst.size
    by_cases h128 : 128 ≤ y
    · have hor : bits .or .u8 ((y : Int) % 256) 128 = ((y % 128 + 128 : Nat) : Int) := by
        rw [Lib.u8_or128_any _ (by omega) (by omega)]
        omega
      go_wp2_with (at_builtin; refine wpList_append_own_x _ rfl _ _ 22 rfl B 5 i0 (.int .u8 0) 1 1 Try.underlying22 hi hz0 hz1 hz2 rfl (by decide) _ _ _ rfl (hown1.alloc _) ⟨wr.heap.size, 0, none⟩ 1 1 [Value.int .u8 ((y % 128 + 128 : Nat) : Int)] rfl rfl ?c1 ?c2 (by decide) ?c3 ?c4 ?c5 ?_)
      case c1 =>
        intro j u hj
        match j, hj with
        | 0, hj => simp at hj; subst hj; simp [Addr.add]
      case c2 => intro u hu; simp at hu; subst hu; rfl
      case c3 => unfold maxLen; omega
      case c4 => omega
      case c5 => simp; omega
      intro v' w1 hown' hgrow hrow
      have hst1 : Step w.heap.size w sv w1 v' := (hst.alloc _).trans (Step.of_grown hgrow (by simpa using hrow))
      clear hgrow hrow
      go_wp2
      go_roundw
      case rel =>
        refine ⟨y / 128, pre ++ [(y % 128 + 128).toUInt8], by go_num, by omega, by rw [HS.out, Lib.uvarint_big h128]; simp, ?_, hst1⟩
        have ec : ((y % 128 + 128 : Nat) : Int) = (y : Int) % 128 + 128 := by omega
        rw [Lib.byteCells_snoc pre (by omega), List.length_append, List.length_singleton, ← Nat.add_assoc, ec]
        exact hown'
      case measure => simp [intOf]; omega
    · have hsm : Lib.uvarint y = [y.toUInt8] := Lib.uvarint_small (by omega)
      have HM : Hid (Lib.uvarint y = [y.toUInt8]) := hsm
      clear hsm
      go_wp2_with (at_builtin; refine wpList_append_own_x _ rfl _ _ 22 rfl B 5 i0 (.int .u8 0) 1 1 Try.underlying22 hi hz0 hz1 hz2 rfl (by decide) _ _ _ rfl (hown1.alloc _) ⟨wr.heap.size, 0, none⟩ 1 1 [Value.int .u8 (y : Int)] rfl rfl ?c1 ?c2 (by decide) ?c3 ?c4 ?c5 ?_)
      case c1 =>
        intro j u hj
        match j, hj with
        | 0, hj => simp at hj; subst hj; simp [Addr.add]
      case c2 => intro u hu; simp at hu; subst hu; rfl
      case c3 => unfold maxLen; omega
      case c4 => omega
      case c5 => simp; omega
      intro v' w1 hown' hgrow hrow
      have hst1 : Step w.heap.size w sv w1 v' := (hst.alloc _).trans (Step.of_grown hgrow (by simpa using hrow))
      clear hgrow hrow
      go_wp2
      go_ret
      refine ⟨v', rfl, ?_, CV hst1⟩
      rw [HS.out, HM.out, Lib.byteCells_snoc pre (by omega), List.length_append, List.length_singleton, ← Nat.add_assoc]
      exact hown'


set_option maxHeartbeats 400000 in
/-- (*encoder).number: the number's varint behind the frame. -/
theorem number (B eb x : Nat) (hx : x < 18446744073709551616) (bs : List UInt8) (v : Value) (w : World) (henc : Enc w B eb bs v) (hBw : B ≤ w.heap.size) (hlim : bs.length + 10 ≤ 140737488355328) :
    Calls Try.prog 40 #[.pointer (some ⟨eb, 0, none⟩), .int .u64 x] w fun e w' => e = .returned (.tuple #[]) ∧ ∃ v', Enc w' B eb (bs ++ Lib.uvarint x) v' ∧ Step eb w v w' v' := by
  have c0 := henc.cell0
  have f0 := henc.frozen0
  obtain ⟨ao, c, hv⟩ := henc.shape
  subst hv
  go_enter Try.func40, Try.ntmps40
  go_wp2_with fail
  refine (appendUvarint B bs.length x hx _ (Lib.byteCells bs) _ henc.own hBw hlim).mono ?_
  rintro e w1 ⟨v', rfl, hown, hgrow, hrow⟩
  obtain ⟨C, hC, _⟩ := henc.blk
  have hb1 : w1.heap[eb]? = w.heap[eb]? := hgrow.block eb henc.lt (fun e => henc.apart_self e.symm)
  have c1 : w1.cell? ⟨eb, 0, none⟩ = some (.slice ao bs.length c) := (World.cell?_of_block (a := ⟨eb, 0, none⟩) hb1).trans c0
  have f1 : w1.frozen? ⟨eb, 0, none⟩ = false := (World.frozen?_of_block (a := ⟨eb, 0, none⟩) hb1).trans f0
  have hap : v'.ownBlock ≠ some eb := own_apart hown (hb1.trans hC)
  have hst : Step eb w (.slice ao bs.length c) w1 v' := Step.of_grown hgrow hrow
  have hfin : Enc (w1.setCell ⟨eb, 0, none⟩ v') B eb (bs ++ Lib.uvarint x) v' := henc.stored hb1 (by rw [List.length_append, Lib.byteCells_append]; exact hown) hap
  have hst2 := hst.setCell 0 v'
  obtain ⟨ao', c', hv'⟩ := own_shape hown
  subst hv'
  clear hown hgrow hrow hC hap hst c0 f0 hb1 henc
  go_wp2
  go_end0
  exact ⟨rfl, _, hfin, hst2⟩

set_option maxHeartbeats 400000 in
/-- (*encoder).txn: the two numbers. -/
theorem txn (B eb x y : Nat) (hx : x < 18446744073709551616) (hy : y < 18446744073709551616) (bs : List UInt8) (v : Value) (w : World) (henc : Enc w B eb bs v) (hBw : B ≤ w.heap.size) (hlim : bs.length + 20 ≤ 140737488355328) :
    Calls Try.prog 47 #[.pointer (some ⟨eb, 0, none⟩), .agg #[.int .u64 x, .int .u64 y]] w fun e w' => e = .returned (.tuple #[]) ∧ ∃ v', Enc w' B eb (bs ++ Lib.uvarint x ++ Lib.uvarint y) v' ∧ Step eb w v w' v' := by
  go_enter Try.func47, Try.ntmps47
  go_wp2_with fail
  refine (number B eb x hx bs v _ (henc.alloc _) (by simp; omega) (by omega)).mono ?_
  rintro e w1 ⟨rfl, v1, henc1, hst1⟩
  have hkb : w1.heap[w.heap.size]? = (w.alloc (.cells #[.int .u64 x, .int .u64 y] 72)).heap[w.heap.size]? :=
    hst1.block _ (by simp) (by have := henc.lt; omega) (fun e => by have := (henc.own.lt _ e).2; omega)
  have k1 : w1.cell? ⟨w.heap.size, 1, none⟩ = some (.int .u64 y) := (World.cell?_of_block (a := ⟨w.heap.size, 1, none⟩) hkb).trans (by simp)
  have hl1 := Lib.uvarint_length64 hx
  have hs1 := hst1.size
  have hs2 : w.heap.size + 1 ≤ w1.heap.size := by simpa using hs1
  clear hkb hs1
  go_wp2_with fail
  refine (number B eb y hy (bs ++ Lib.uvarint x) v1 _ henc1 (by omega) (by rw [List.length_append]; omega)).mono ?_
  rintro e w2 ⟨rfl, v2, henc2, hst2⟩
  have hst : Step eb w v w2 v2 := ((Step.refl eb w v).alloc _).trans (hst1.trans hst2)
  go_wp2
  go_end0
  exact ⟨rfl, v2, henc2, hst⟩

end Go.Proofs.Qxb6608741a
