/-
  THE WALK OF (*encoder).txns, ZZtxns, ZZnewEncoder, ZZencoderFrame, ZZencoderSharedLen.
-/
import Derived.Test.Qxb6608741aEncW
namespace Go.Proofs.Qxb6608741a
open Go Go.RowKit

/-- The pairs' bytes: each coordinator and number, in order. -/
def encTx (l : List (Nat × Nat)) : List UInt8 := l.flatMap fun p => Lib.uvarint p.1 ++ Lib.uvarint p.2

theorem encTx_snoc (l : List (Nat × Nat)) (p : Nat × Nat) : encTx (l ++ [p]) = encTx l ++ Lib.uvarint p.1 ++ Lib.uvarint p.2 := by
  simp [encTx, List.flatMap_append]

theorem encTx_append (l m : List (Nat × Nat)) : encTx (l ++ m) = encTx l ++ encTx m := by simp [encTx, List.flatMap_append]

def Small (l : List (Nat × Nat)) : Prop := ∀ p ∈ l, p.1 < 18446744073709551616 ∧ p.2 < 18446744073709551616

theorem encTx_length (l : List (Nat × Nat)) (h : Small l) : (encTx l).length ≤ 20 * l.length := by
  induction l with
  | nil => simp [encTx]
  | cons p r ih =>
    have h1 := h p (by simp)
    have h2 := ih (fun q hq => h q (by simp [hq]))
    have e : encTx (p :: r) = Lib.uvarint p.1 ++ Lib.uvarint p.2 ++ encTx r := by simp [encTx]
    have a1 := Lib.uvarint_length64 h1.1
    have a2 := Lib.uvarint_length64 h1.2
    rw [e]
    simp only [List.length_append, List.length_cons]
    omega

theorem Small.take {l : List (Nat × Nat)} (h : Small l) (k : Nat) : Small (l.take k) := fun p hp => h p (List.mem_of_mem_take hp)

set_option maxHeartbeats 400000 in
/-- (*encoder).txns: the count, then each pair. -/
theorem txns (B eb n c : Nat) (ao : Option Addr) (bs : List UInt8) (l : List (Nat × Nat)) (v : Value) (w : World) (henc : Enc w B eb bs v) (hBw : B ≤ w.heap.size) (htx : Tx w ao n l) (hsm : Small l)
    (hap : ∀ a : Addr, ao = some a → a.block < w.heap.size ∧ a.block ≠ eb ∧ v.ownBlock ≠ some a.block) (hn : n ≤ 1048576) (hlim : bs.length + 20 * n + 30 ≤ 140737488355328) :
    Calls Try.prog 38 #[.pointer (some ⟨eb, 0, none⟩), .slice ao n c] w fun e w' => e = .returned (.tuple #[]) ∧ ∃ v', Enc w' B eb (bs ++ Lib.uvarint n ++ encTx l) v' ∧ Step eb w v w' v' := by
  have hl1 := Lib.uvarint_length64 (show n < 18446744073709551616 by omega)
  have hlen := htx.len
  have HL : Hid (l.length = n) := hlen
  clear hlen
  go_enter Try.func38, Try.ntmps38
  go_wp2_with fail
  refine (number B eb n (by omega) bs v _ henc hBw (by omega)).mono ?_
  rintro e w1 ⟨rfl, v1, henc1, hst1⟩
  go_wp2
  go_loopw [13] (fun i wr => ∃ (k : Nat) (vk : Value), k ≤ n ∧ i = .int .i64 k ∧ Enc wr B eb (bs ++ Lib.uvarint n ++ encTx (l.take k)) vk ∧ Step eb w v wr vk) (fun i _ => n - (intOf i).toNat)
  case atStart => exact ⟨0, v1, Nat.zero_le _, rfl, by simpa [encTx] using henc1, hst1⟩
  case round =>
    obtain ⟨k, vk, hk, rfl, hencK, hstK⟩ := hrel
    by_cases hlt : k < n
    · have hkl : k < l.length := by rw [HL.out]; exact hlt
      obtain ⟨b, off, hao, k1, k2⟩ := htx.cell k hkl
      obtain ⟨p1, p2, p3⟩ := hap _ hao
      have hbk := hstK.block b p1 p2 p3
      have q1 := (World.cell?_of_block (a := ⟨b, off + k * 2, none⟩) hbk).trans k1
      have q2 := (World.cell?_of_block (a := ⟨b, off + k * 2 + 1, none⟩) hbk).trans k2
      obtain ⟨s1, s2⟩ := hsm _ (List.getElem_mem hkl)
      subst hao
      clear k1 k2 hbk
      go_wp2_with fail
      have hel := encTx_length (l.take k) (hsm.take k)
      have htl : (l.take k).length ≤ k := List.length_take_le _ _
      have hsK := hstK.size
      refine (txn B eb _ _ s1 s2 (bs ++ Lib.uvarint n ++ encTx (l.take k)) vk _ (hencK.alloc _) (by simp; omega) (by simp only [List.length_append]; omega)).mono ?_
      rintro e w2 ⟨rfl, v2, henc2, hst2⟩
      have hst3 : Step eb w v w2 v2 := (hstK.alloc _).trans hst2
      have hE : Enc w2 B eb (bs ++ Lib.uvarint n ++ encTx (l.take (k + 1))) v2 := by
        rw [List.take_succ_eq_append_getElem hkl, encTx_snoc, ← List.append_assoc, ← List.append_assoc]
        exact henc2
      clear henc2 hst2 hencK hstK q1 q2
      go_wp2
      go_roundw
      case rel => exact ⟨k + 1, v2, by omega, by go_num, hE, hst3⟩
      case measure => simp [intOf]; omega
    · have hE : Enc wr B eb (bs ++ Lib.uvarint n ++ encTx l) vk := by
        rw [List.take_of_length_le (by rw [HL.out]; omega)] at hencK
        exact hencK
      clear hencK
      go_wp2
      go_end0
      exact ⟨rfl, vk, hE, hstK⟩

set_option maxHeartbeats 400000 in
theorem ZZtxns (B eb n c : Nat) (ao : Option Addr) (bs : List UInt8) (l : List (Nat × Nat)) (v : Value) (w : World) (henc : Enc w B eb bs v) (hBw : B ≤ w.heap.size) (htx : Tx w ao n l) (hsm : Small l)
    (hap : ∀ a : Addr, ao = some a → a.block < w.heap.size ∧ a.block ≠ eb ∧ v.ownBlock ≠ some a.block) (hn : n ≤ 1048576) (hlim : bs.length + 20 * n + 30 ≤ 140737488355328) :
    Calls Try.prog 11 #[.pointer (some ⟨eb, 0, none⟩), .slice ao n c] w fun e w' => e = .returned (.tuple #[]) ∧ ∃ v', Enc w' B eb (bs ++ Lib.uvarint n ++ encTx l) v' ∧ Step eb w v w' v' := by
  go_enter Try.func11, Try.ntmps11
  go_wp2_with fail
  refine (txns B eb n c ao bs l v w henc hBw htx hsm hap hn hlim).mono ?_
  rintro e w2 ⟨rfl, v2, henc2, hst2⟩
  clear henc htx hap
  go_wp2
  go_end0
  exact ⟨rfl, v2, henc2, hst2⟩

theorem Enc.below {w w' : World} {B eb : Nat} {bs : List UInt8} {v : Value} (h : Enc w B eb bs v) (hb : Below w.heap.size w w') : Enc w' B eb bs v :=
  h.of_blocks (hb.block _ h.lt) (fun g hg => hb.block _ (h.own.lt g hg).2)

theorem Tx.below {w w' : World} {ao : Option Addr} {n : Nat} {l : List (Nat × Nat)} {N : Nat} (h : Tx w ao n l) (hb : Below N w w') (hA : ∀ a : Addr, ao = some a → 0 < n → a.block < N) : Tx w' ao n l :=
  ⟨h.len, fun j hj => by
    obtain ⟨b, off, e, hc, hd⟩ := h.cell j hj
    have hp := hA ⟨b, off, none⟩ e (by have := h.len; omega)
    exact ⟨b, off, e, (hb.cell (p := ⟨b, off + j * 2, none⟩) hp).trans hc, (hb.cell (p := ⟨b, off + j * 2 + 1, none⟩) hp).trans hd⟩⟩

theorem Bs.below {w w' : World} {ao : Option Addr} {n : Nat} {l : List UInt8} {N : Nat} (h : Bs w ao n l) (hb : Below N w w') (hA : ∀ a : Addr, ao = some a → 0 < n → a.block < N) : Bs w' ao n l :=
  ⟨h.len, fun j hj => by
    obtain ⟨b, off, e, hc⟩ := h.cell j hj
    exact ⟨b, off, e, (hb.cell (p := ⟨b, off + j, none⟩) (hA ⟨b, off, none⟩ e (by have := h.len; omega))).trans hc⟩⟩

theorem Tx.step {w w' : World} {g n eb : Nat} {l : List (Nat × Nat)} {v v' : Value} (h : Tx w (some ⟨g, 0, none⟩) n l) (hs : Step eb w v w' v') (hg : g < w.heap.size) (he : g ≠ eb) (hv : v.ownBlock ≠ some g) : Tx w' (some ⟨g, 0, none⟩) n l :=
  h.kept (fun a ha => by
    have e := Option.some.inj ha
    subst e
    exact hs.block g hg he hv)

set_option maxHeartbeats 400000 in
theorem encFrame (B eb : Nat) (bs : List UInt8) (v : Value) (w : World) (henc : Enc w B eb bs v) :
    Calls Try.prog 14 #[.pointer (some ⟨eb, 0, none⟩)] w fun e w' => e = .returned v ∧ w = w' := by
  have c0 := henc.cell0
  obtain ⟨ao, c, hv⟩ := henc.shape
  subst hv
  clear henc
  go_enter Try.func14, Try.ntmps14
  go_wp2
  go_ret
  exact ⟨rfl, rfl⟩

set_option maxHeartbeats 400000 in
theorem encShared (B eb : Nat) (bs : List UInt8) (v : Value) (w : World) (henc : Enc w B eb bs v) :
    Calls Try.prog 13 #[.pointer (some ⟨eb, 0, none⟩)] w fun e w' => e = .returned (.int .i64 0) ∧ w = w' := by
  have c1 := henc.cell1
  clear henc
  go_enter Try.func13, Try.ntmps13
  go_wp2
  go_ret
  exact ⟨rfl, rfl⟩

/-- The encoder's zero value: its cells by name alone. -/
theorem zero70_cells : (Try.prog.info? 70).map (fun i => i.zero) = some (some (.agg (#[.slice none 0 0, .slice none 0 0] ++ Array.replicate 128 (.int .u8 0)))) := by kernel_rfl
theorem zero70 : ∃ Z : Array Value, 1 < Z.size ∧ Z[1]? = some (.slice none 0 0) ∧ ∀ w : World, (zeroValue 70).run Try.prog w = .ok (.agg Z) w := by
  refine ⟨#[.slice none 0 0, .slice none 0 0] ++ Array.replicate 128 (.int .u8 0), by simp, by simp, fun w => ?_⟩
  obtain ⟨i, hi, hz⟩ := Option.map_eq_some_iff.1 zero70_cells
  simp [zeroValue, typeInfo, hi, hz]

set_option maxHeartbeats 1000000 in
theorem newEnc (B : Nat) (bs : List UInt8) (v : Value) (w : World) (hown : w.ownsRow B 5 1 v bs.length (Lib.byteCells bs)) :
    Calls Try.prog 10 #[v] w fun e w' => e = .returned (.pointer (some ⟨w.heap.size, 0, none⟩)) ∧ Enc w' B w.heap.size bs v ∧ Below w.heap.size w w' := by
  obtain ⟨Z, hZ1, hZ2, hZ⟩ := zero70
  have hZ0 : (Z = #[]) = False := eq_false (fun e => by rw [e] at hZ1; simp at hZ1)
  obtain ⟨ao, c, hv⟩ := own_shape hown
  subst hv
  have hE : Enc (w.alloc (.cells (Z.setIfInBounds 0 (.slice ao bs.length c)) 70)) B w.heap.size bs (.slice ao bs.length c) :=
    ⟨⟨_, heap_alloc_new w _, by simpa using hZ1, by rw [Array.getElem?_setIfInBounds, if_pos rfl, if_pos (by omega)], by rw [Array.getElem?_setIfInBounds]; simpa using hZ2⟩, hown.alloc _⟩
  clear hown hZ2
  go_enter Try.func10, Try.ntmps10
  go_wp2
  go_ret
  exact ⟨rfl, hE, (Below.refl _ _).alloc (Nat.le_refl _) _⟩

end Go.Proofs.Qxb6608741a
