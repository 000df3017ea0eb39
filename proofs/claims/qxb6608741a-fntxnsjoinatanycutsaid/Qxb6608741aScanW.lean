/-
  THE WALKS OF readNumEqual, readTxnsEqual, hasPrefix, sameBytes, where they say yes.
-/
import Derived.Test.Qxb6608741aReadW
namespace Go.Proofs.Qxb6608741a
open Go Go.RowKit

set_option maxHeartbeats 400000 in
theorem readNumEqual (ao : Option Addr) (n c k0 x : Nat) (i : Int) (l pre post : List UInt8) (w : World) (hi : i = (k0 : Int)) (hb : Bs w ao n l) (hl : l = pre ++ Lib.uvarint x ++ post) (hpre : pre.length = k0) (hx : x < 18446744073709551616) (hn : n ≤ 140737488355328) :
    Calls Try.prog 26 #[.slice ao n c, .int .i64 i, .int .u64 x] w fun e w' => e = .returned (.tuple #[.int .i64 (k0 + (Lib.uvarint x).length : Nat), .bool true]) ∧ w = w' := by
  subst hi
  have HL : Hid (l = pre ++ Lib.uvarint x ++ post) := hl
  have HP : Hid (pre.length = k0) := hpre
  clear hl hpre
  go_enter Try.func26, Try.ntmps26
  go_wp2_with fail
  refine (readUvarint ao n c k0 x _ l pre post _ rfl hb HL.out HP.out hx hn).mono ?_
  rintro e w1 ⟨rfl, rfl⟩
  go_wp2
  go_ret2
  exact ⟨rfl, rfl⟩

theorem ret2_eq {a a' : Int} (h1 : a = a') : Ending.returned (.tuple #[.int .i64 a, .bool true]) = .returned (.tuple #[.int .i64 a', .bool true]) := by rw [h1]

theorem split_at (t : List (Nat × Nat)) (k : Nat) (h : k < t.length) : encTx t = encTx (t.take k) ++ Lib.uvarint t[k].1 ++ Lib.uvarint t[k].2 ++ encTx (t.drop (k + 1)) := by
  have e : t = t.take k ++ [t[k]] ++ t.drop (k + 1) := by simp
  calc encTx t = encTx (t.take k ++ [t[k]] ++ t.drop (k + 1)) := congrArg encTx e
    _ = _ := by rw [encTx_append, encTx_snoc]

set_option maxHeartbeats 400000 in
theorem readTxnsEqual (ao bo : Option Addr) (n c m d k0 : Nat) (i : Int) (l pre post : List UInt8) (t : List (Nat × Nat)) (w : World) (hi : i = (k0 : Int)) (hb : Bs w ao n l) (ht : Tx w bo m t) (hsm : Small t) (hl : l = pre ++ Lib.uvarint m ++ encTx t ++ post) (hpre : pre.length = k0) (hn : n ≤ 140737488355328) (hm : m ≤ 1048576) :
    Calls Try.prog 16 #[.slice ao n c, .int .i64 i, .slice bo m d] w fun e w' => e = .returned (.tuple #[.int .i64 (k0 + (Lib.uvarint m).length + (encTx t).length : Nat), .bool true]) ∧ w = w' := by
  subst hi
  have HL : Hid (l = pre ++ Lib.uvarint m ++ encTx t ++ post) := hl
  have HP : Hid (pre.length = k0) := hpre
  have HT : Hid (t.length = m) := ht.len
  have hkn : k0 + (Lib.uvarint m).length + (encTx t).length ≤ n := by
    have h1 := hb.len; have h2 := HP.out; rw [HL.out] at h1; simp only [List.length_append] at h1; omega
  clear hl hpre
  go_enter Try.func16, Try.ntmps16
  go_wp2_with fail
  refine (readNumEqual ao n c k0 m _ l pre (encTx t ++ post) _ rfl hb (by rw [HL.out]; simp) HP.out (by omega) hn).mono ?_
  rintro e w1 ⟨rfl, rfl⟩
  go_wp2
  go_loop [8, 9, 10] (fun vj vo vk => ∃ (k q : Nat), vj = .int .i64 q ∧ vo = .bool true ∧ vk = .int .i64 k ∧ k ≤ m ∧ Hid (q = k0 + (Lib.uvarint m).length + (encTx (t.take k)).length)) (fun _ _ vk => m - (intOf vk).toNat)
  case atStart => exact ⟨0, k0 + (Lib.uvarint m).length, by go_num, rfl, rfl, Nat.zero_le _, show _ = _ by simp [encTx]⟩
  case round =>
    obtain ⟨k, q, rfl, rfl, rfl, hk, HQ⟩ := hrel
    by_cases hlt : k < m
    · have hkt : k < t.length := by rw [HT.out]; exact hlt
      obtain ⟨b, off, hbo, c1, c2⟩ := ht.cell k hkt
      obtain ⟨s1, s2⟩ := hsm _ (List.getElem_mem hkt)
      have HS : Hid (encTx t = encTx (t.take k) ++ Lib.uvarint t[k].1 ++ Lib.uvarint t[k].2 ++ encTx (t.drop (k + 1))) := split_at t k hkt
      have HT1 : Hid (encTx (t.take (k + 1)) = encTx (t.take k) ++ Lib.uvarint t[k].1 ++ Lib.uvarint t[k].2) := by
        show _ = _
        rw [List.take_succ_eq_append_getElem hkt, encTx_snoc]
      generalize t[k] = p at c1 c2 s1 s2 HS HT1
      obtain ⟨pa, pb⟩ := p
      dsimp only at c1 c2 s1 s2 HS HT1
      have hqn : q + (Lib.uvarint pa).length + (Lib.uvarint pb).length ≤ n := by
        have h1 := HQ.out; have h2 := congrArg List.length HS.out; simp only [List.length_append] at h2; omega
      subst hbo
      go_wp2_with fail
      refine (readNumEqual ao n c q pa _ l (pre ++ Lib.uvarint m ++ encTx (t.take k)) (Lib.uvarint pb ++ encTx (t.drop (k + 1)) ++ post) _ rfl hb (by rw [HL.out, HS.out]; simp) (by rw [HQ.out]; simp only [List.length_append, HP.out]) s1 hn).mono ?_
      rintro e w1 ⟨rfl, rfl⟩
      go_wp2_with fail
      refine (readNumEqual ao n c (q + (Lib.uvarint pa).length) pb _ l (pre ++ Lib.uvarint m ++ encTx (t.take k) ++ Lib.uvarint pa) (encTx (t.drop (k + 1)) ++ post) _ (by go_num) hb (by rw [HL.out, HS.out]; simp) (by rw [HQ.out]; simp only [List.length_append, HP.out]) s2 hn).mono ?_
      rintro e w1 ⟨rfl, rfl⟩
      go_wp2
      go_round
      case rel => exact ⟨k + 1, q + (Lib.uvarint pa).length + (Lib.uvarint pb).length, by go_num, rfl, by go_num, by omega, show _ = _ by rw [HT1.out, HQ.out]; simp only [List.length_append]; omega⟩
      case measure => simp [intOf]; omega
    · have HE : Hid (q = k0 + (Lib.uvarint m).length + (encTx t).length) := by
        show q = _
        rw [HQ.out, List.take_of_length_le (by rw [HT.out]; omega)]
      go_wp2
      go_ret2
      exact ⟨ret2_eq (by have := HE.out; omega), rfl⟩

set_option maxHeartbeats 400000 in
theorem hasPrefix (so po : Option Addr) (n c m d : Nat) (ls lp r : List UInt8) (w : World) (hs : Bs w so n ls) (hp : Bs w po m lp) (hl : ls = lp ++ r) (hn : n ≤ 140737488355328) :
    Calls Try.prog 15 #[.slice so n c, .slice po m d] w fun e w' => e = .returned (.bool true) ∧ ∃ q, w' = w.drewN q := by
  have HL : Hid (ls = lp ++ r) := hl
  have HM : Hid (lp.length = m) := hp.len
  have HN : Hid (ls.length = n) := hs.len
  clear hl
  have hmn : m ≤ n := by have h1 := HN.out; rw [HL.out, List.length_append, HM.out] at h1; omega
  go_enter Try.func15, Try.ntmps15
  go_wp2
  go_loopw [5] (fun vi wr => ∃ (k q : Nat), vi = .int .i64 k ∧ k ≤ m ∧ wr = w.drewN q) (fun vi _ => m - (intOf vi).toNat)
  case atStart => exact ⟨0, 0, rfl, Nat.zero_le _, rfl⟩
  case round =>
    obtain ⟨k, q, rfl, hk, rfl⟩ := hrel
    by_cases hlt : k < m
    · have hk1 : k < lp.length := by rw [HM.out]; exact hlt
      have hk2 : k < ls.length := by rw [HN.out]; omega
      obtain ⟨b1, o1, e1, c1⟩ := hs.cell k hk2
      obtain ⟨b2, o2, e2, c2⟩ := hp.cell k hk1
      have hv : ls[k] = lp[k] := by
        have : ls[k]? = lp[k]? := by rw [HL.out, List.getElem?_append_left hk1]
        rw [List.getElem?_eq_getElem hk2, List.getElem?_eq_getElem hk1] at this
        exact Option.some.inj this
      rw [hv] at c1
      generalize lp[k] = u at c1 c2
      clear hv
      have i1 : (k : Int) < (n : Int) := by omega
      have i2 : (k : Int) < (m : Int) := by omega
      subst e1 e2
      go_wp2
      go_quiet (fail)
      go_wp2
      go_roundw
      case rel => exact ⟨k + 1, _, by go_num, by omega, rfl⟩
      case measure => simp [intOf]; omega
    · go_wp2
      go_ret
      exact ⟨rfl, q, rfl⟩

set_option maxHeartbeats 400000 in
theorem sameBytes (so po : Option Addr) (n c d : Nat) (l : List UInt8) (w : World) (hs : Bs w so n l) (hp : Bs w po n l) (hn : n ≤ 140737488355328) :
    Calls Try.prog 18 #[.slice so n c, .slice po n d] w fun e w' => e = .returned (.bool true) ∧ ∃ q, w' = w.drewN q := by
  have HN : Hid (l.length = n) := hs.len
  go_enter Try.func18, Try.ntmps18
  go_wp2
  go_loopw [5] (fun vi wr => ∃ (k q : Nat), vi = .int .i64 k ∧ k ≤ n ∧ wr = w.drewN q) (fun vi _ => n - (intOf vi).toNat)
  case atStart => exact ⟨0, 0, rfl, Nat.zero_le _, rfl⟩
  case round =>
    obtain ⟨k, q, rfl, hk, rfl⟩ := hrel
    by_cases hlt : k < n
    · have hk1 : k < l.length := by rw [HN.out]; exact hlt
      obtain ⟨b1, o1, e1, c1⟩ := hs.cell k hk1
      obtain ⟨b2, o2, e2, c2⟩ := hp.cell k hk1
      generalize l[k] = u at c1 c2
      have i1 : (k : Int) < (n : Int) := by omega
      subst e1 e2
      go_wp2
      go_quiet (fail)
      go_wp2
      go_roundw
      case rel => exact ⟨k + 1, _, by go_num, by omega, rfl⟩
      case measure => simp [intOf]; omega
    · go_wp2
      go_ret
      exact ⟨rfl, q, rfl⟩

end Go.Proofs.Qxb6608741a
