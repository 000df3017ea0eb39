/-
  THE WALKS OF THE READERS: readUvarint, readNumEqual, readTxnsEqual on bytes that bear what is asked; hasPrefix, sameBytes where they say yes.
-/
import Derived.Test.Qxb6608741aTxnsW
import Derived.Deep.QuietTactic
import Derived.BigQuiet
import Derived.Lib.VarintBits
namespace Go.Proofs.Qxb6608741a
open Go Go.RowKit

theorem ret3_eq {a a' b b' : Int} (h1 : a = a') (h2 : b = b') : Ending.returned (.tuple #[.int .u64 a, .int .i64 b, .bool true]) = .returned (.tuple #[.int .u64 a', .int .i64 b', .bool true]) := by rw [h1, h2]

theorem or_shift (acc y s : Nat) (h1 : acc < 2 ^ s) (h2 : acc + y * 2 ^ s < 18446744073709551616) : bits .or .u64 (acc : Int) (IntKind.u64.wrap ((y : Int) * 2 ^ s)) = ((acc + y * 2 ^ s : Nat) : Int) := by
  have e : ((y : Int) * 2 ^ s) = ((y * 2 ^ s : Nat) : Int) := by simp
  rw [e, u64_wrap_id _ (by omega) (by omega), bits_or_u64_nat _ _ (by omega) (by omega)]
  congr 1
  rw [Nat.or_comm, Nat.add_comm, ← Nat.shiftLeft_eq, Nat.shiftLeft_add_eq_or_of_lt h1]

theorem pow7_succ (k : Nat) : 2 ^ (7 * (k + 1)) = 2 ^ (7 * k) * 128 := by rw [Nat.mul_add, Nat.pow_add]

theorem last_small (x acc y k : Nat) (hx : x < 18446744073709551616) (h : x = acc + y * 2 ^ (7 * k)) (h9 : 9 ≤ k) (hk : k ≤ 9) : y ≤ 1 := by
  obtain rfl : k = 9 := by omega
  have : (2 : Nat) ^ (7 * 9) = 9223372036854775808 := by decide
  rw [this] at h
  omega

theorem more_before (x acc y k : Nat) (hx : x < 18446744073709551616) (h : x = acc + y * 2 ^ (7 * k)) (hy : 128 ≤ y) (hk : k ≤ 9) : k < 9 := by
  rcases Nat.lt_or_ge k 9 with h9 | h9
  · exact h9
  · have := last_small x acc y k hx h h9 hk
    omega

theorem step_x (x acc y k : Nat) (h : x = acc + y * 2 ^ (7 * k)) : x = acc + y % 128 * 2 ^ (7 * k) + y / 128 * 2 ^ (7 * (k + 1)) := by
  rw [pow7_succ, h]
  have e : y = y % 128 + y / 128 * 128 := by omega
  generalize 2 ^ (7 * k) = P
  have : y * P = y % 128 * P + y / 128 * (P * 128) := by
    calc y * P = (y % 128 + y / 128 * 128) * P := by rw [← e]
      _ = y % 128 * P + y / 128 * (P * 128) := by rw [Nat.add_mul, Nat.mul_assoc, Nat.mul_comm 128 P]
  omega

theorem step_acc (acc y k : Nat) (h : acc < 2 ^ (7 * k)) : acc + y % 128 * 2 ^ (7 * k) < 2 ^ (7 * (k + 1)) := by
  rw [pow7_succ]
  have hy : y % 128 ≤ 127 := by omega
  have : y % 128 * 2 ^ (7 * k) ≤ 127 * 2 ^ (7 * k) := Nat.mul_le_mul_right _ hy
  omega

set_option maxHeartbeats 1000000 in
set_option maxRecDepth 100000 in
theorem readUvarint (ao : Option Addr) (n c k0 x : Nat) (i : Int) (l pre post : List UInt8) (w : World) (hi : i = (k0 : Int)) (hb : Bs w ao n l) (hl : l = pre ++ Lib.uvarint x ++ post) (hpre : pre.length = k0) (hx : x < 18446744073709551616) (hn : n ≤ 140737488355328) :
    Calls Try.prog 17 #[.slice ao n c, .int .i64 i] w fun e w' => e = .returned (.tuple #[.int .u64 x, .int .i64 (k0 + (Lib.uvarint x).length : Nat), .bool true]) ∧ w = w' := by
  subst hi
  have HL : Hid (l = pre ++ Lib.uvarint x ++ post) := hl
  have HP : Hid (pre.length = k0) := hpre
  have HN : Hid (l.length = n) := hb.len
  have hlen := Lib.uvarint_length64 hx
  have hpos := Lib.uvarint_pos x
  have hkn : k0 + (Lib.uvarint x).length ≤ n := by
    have h1 := HN.out; have h2 := HP.out; rw [HL.out] at h1; simp only [List.length_append] at h1; omega
  clear hl hpre
  go_enter Try.func17, Try.ntmps17
  go_wp2
  go_loop [1, 7, 8, 9] (fun vi vx vs vk => ∃ (k y acc : Nat) (pfx : List UInt8), vi = .int .i64 ((k0 + k : Nat) : Int) ∧ vx = .int .u64 acc ∧ vs = .int .u64 ((7 * k : Nat) : Int) ∧ vk = .int .i64 k ∧ k ≤ 9 ∧ Hid (x = acc + y * 2 ^ (7 * k)) ∧ acc < 2 ^ (7 * k) ∧ Hid (Lib.uvarint x = pfx ++ Lib.uvarint y) ∧ Hid (pfx.length = k)) (fun _ _ _ vk => 10 - (intOf vk).toNat)
  case atStart => exact ⟨0, x, 0, [], rfl, rfl, rfl, rfl, by omega, show x = 0 + x * 2 ^ (7 * 0) by simp, by simp, show _ = [] ++ _ by simp, rfl⟩
  case round =>
    obtain ⟨k, y, acc, pfx, rfl, rfl, rfl, rfl, hk9, HX, hacc, HU, HF⟩ := hrel
    have hyp := Lib.uvarint_pos y
    have hkl : k + (Lib.uvarint y).length = (Lib.uvarint x).length := by
      have := HU.out; rw [this, List.length_append, HF.out]
    have HK : Hid (k + (Lib.uvarint y).length = (Lib.uvarint x).length) := hkl
    have hin : k0 + k < n := by omega
    have hin' : k0 + k < l.length := by rw [HN.out]; exact hin
    obtain ⟨b, off, hao, hc⟩ := hb.cell (k0 + k) hin'
    have hget : l[k0 + k]? = (Lib.uvarint y)[0]? := by
      rw [HL.out, HU.out]
      rw [List.append_assoc, List.getElem?_append_right (by rw [HP.out]; omega), HP.out]
      rw [List.append_assoc, List.getElem?_append_right (by rw [HF.out]; omega), HF.out]
      rw [List.getElem?_append_left (by omega)]
      congr 1
      omega
    subst hao
    clear hkl
    by_cases h128 : y < 128
    · have hval : l[k0 + k] = y.toUInt8 := by
        rw [List.getElem?_eq_getElem hin', Lib.uvarint_small h128] at hget
        simpa using hget
      rw [hval, Lib.toUInt8_toNat (by omega)] at hc
      clear hget hval
      have hor := or_shift acc y (7 * k) hacc (by rw [← HX.out]; exact hx)
      rw [← HX.out] at hor
      have HO : Hid (bits .or .u64 (acc : Int) (IntKind.u64.wrap ((y : Int) * 2 ^ (7 * k))) = (x : Int)) := hor
      have hone : k + 1 = (Lib.uvarint x).length := by
        have := HK.out; rw [Lib.uvarint_small h128] at this; simpa using this
      have H1 : Hid (k + 1 = (Lib.uvarint x).length) := hone
      clear hor hone
      by_cases h9 : 9 ≤ k
      · have hy1 := last_small x acc y k hx HX.out h9 hk9
        have e9 : ((k : Int) == 9) = true := beq_iff_eq.2 (by omega)
        go_wp2
        go_ret3
        exact ⟨ret3_eq HO.out (by have := H1.out; omega), rfl⟩
      · have e9 : ((k : Int) == 9) = false := beq_eq_false_iff_ne.2 (by omega)
        go_wp2
        go_ret3
        exact ⟨ret3_eq HO.out (by have := H1.out; omega), rfl⟩
    · have hk8 := more_before x acc y k hx HX.out (by omega) hk9
      have hval : l[k0 + k] = (y % 128 + 128).toUInt8 := by
        rw [List.getElem?_eq_getElem hin', Lib.uvarint_big (by omega)] at hget
        simpa using hget
      rw [hval, Lib.toUInt8_toNat (by omega)] at hc
      clear hget hval
      have HX2 : Hid (x = acc + y % 128 * 2 ^ (7 * k) + y / 128 * 2 ^ (7 * (k + 1))) := step_x x acc y k HX.out
      have HA2 := step_acc acc y k hacc
      have hlt : acc + y % 128 * 2 ^ (7 * k) < 18446744073709551616 := by have := HX2.out; omega
      have HU2 : Hid (Lib.uvarint x = (pfx ++ [(y % 128 + 128).toUInt8]) ++ Lib.uvarint (y / 128)) := by
        show Lib.uvarint x = _
        rw [HU.out, Lib.uvarint_big (show 128 ≤ y by omega)]
        simp
      have hm : y % 128 < 128 := Nat.mod_lt _ (by decide)
      obtain ⟨m, hmm⟩ : ∃ m, m = y % 128 := ⟨_, rfl⟩
      rw [← hmm] at hc HX2 HA2 hlt hm HU2
      have HM : Hid (m = y % 128) := hmm
      clear hmm
      have hor := or_shift acc m (7 * k) hacc hlt
      have hand : bits .and .u8 ((m : Int) + 128) 127 = (m : Int) := by
        rw [u8_and127 _ (by omega) (by omega)]; omega
      obtain ⟨acc2, hacc2⟩ : ∃ acc2, acc2 = acc + m * 2 ^ (7 * k) := ⟨_, rfl⟩
      rw [← hacc2] at hor HX2 HA2
      have HB : Hid (acc2 = acc + m * 2 ^ (7 * k)) := hacc2
      clear hacc2 hlt
      go_wp2
      go_round
      case rel => exact ⟨k + 1, y / 128, acc2, pfx ++ [(m + 128).toUInt8], by go_num, rfl, by go_num, by go_num, by omega, HX2, HA2, HU2, show _ = k + 1 by rw [List.length_append, HF.out]; rfl⟩
      case measure => simp [intOf]; omega

end Go.Proofs.Qxb6608741a
