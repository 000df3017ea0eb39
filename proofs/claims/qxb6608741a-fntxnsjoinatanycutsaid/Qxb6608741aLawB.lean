/-
  THE LAW's WALK, ITS LONG WAY.
-/
import Derived.Test.Qxb6608741aLawA
namespace Go.Proofs.Qxb6608741a
open Go Go.RowKit

theorem Try.info28 : (Try.prog.info? 28).map (fun i => (i.zero, i.size, i.bytes)) = some (some (.agg #[.int .u64 0, .int .u64 0]), 2, 16) := by kernel_rfl

/-- The pairs as cells. -/
def pairCells (t : List (Nat × Nat)) : List Value := t.flatMap fun p => [.int .u64 p.1, .int .u64 p.2]

theorem pairCells_snoc (t : List (Nat × Nat)) (p : Nat × Nat) : pairCells (t ++ [p]) = pairCells t ++ [.int .u64 p.1, .int .u64 p.2] := by simp [pairCells, List.flatMap_append]
theorem pairCells_get (t : List (Nat × Nat)) : ∀ (j : Nat) (h : j < t.length), (pairCells t)[j * 2]? = some (.int .u64 (t[j]).1) ∧ (pairCells t)[j * 2 + 1]? = some (.int .u64 (t[j]).2) := by
  induction t with
  | nil => intro j h; simp at h
  | cons p r ih =>
    intro j h
    cases j with
    | zero => exact ⟨rfl, rfl⟩
    | succ j =>
      have := ih j (by simpa using h)
      have e : pairCells (p :: r) = .int .u64 p.1 :: .int .u64 p.2 :: pairCells r := rfl
      rw [e, show (j + 1) * 2 = j * 2 + 1 + 1 by omega]
      simpa using this

theorem Tx.of_own {w : World} {B g n cap : Nat} {t : List (Nat × Nat)} (h : w.ownsRow B 28 2 (.slice (some ⟨g, 0, none⟩) n cap) n (pairCells t)) (hn : t.length = n) : Tx w (some ⟨g, 0, none⟩) n t := by
  refine ⟨hn, fun j hj => ?_⟩
  obtain ⟨a, b⟩ := pairCells_get t j hj
  refine ⟨g, 0, rfl, ?_, ?_⟩
  · rw [Nat.zero_add]; exact (h.cellAt (j * 2) (by omega)).trans a
  · rw [Nat.zero_add]; exact (h.cellAt (j * 2 + 1) (by omega)).trans b

theorem two_new (w : World) (x y : Value) (t : TypeId) : ∀ j u, [x, y][j]? = some u → (w.alloc (.cells #[x, y] t)).cell? ((⟨w.heap.size, 0, none⟩ : Addr).add j) = some u := by
  intro j u hj
  match j, hj with
  | 0, hj => simp at hj; subst hj; simp [Addr.add]
  | 1, hj => simp at hj; subst hj; simp [Addr.add]

theorem two_one (x y : Int) : ∀ u ∈ [Value.int .u64 x, Value.int .u64 y], u.oneCell' = true := by
  intro u hu; simp at hu; rcases hu with rfl | rfl <;> rfl

/-- An encoder that holds bytes: its frame's place. -/
theorem Enc.some_ {w : World} {B eb : Nat} {bs : List UInt8} {v : Value} (h : Enc w B eb bs v) (h0 : 0 < bs.length) : ∃ g cap N, v = .slice (some ⟨g, 0, none⟩) N cap ∧ N ≤ cap ∧ g < w.heap.size ∧ Bs w (some ⟨g, 0, none⟩) N bs := by
  rcases h.own.2 with ⟨_, h1⟩ | ⟨g, cap, cur, hv, _, hg, hle, _⟩
  · omega
  · have ho := h.own
    rw [hv] at ho
    exact ⟨g, cap, bs.length, hv, hle, (Array.getElem?_eq_some_iff.1 hg).1, Bs.of_own ho⟩

theorem Bs.drop {w : World} {g o N k : Nat} {a b : List UInt8} (h : Bs w (some ⟨g, o, none⟩) N (a ++ b)) (hk : a.length = k) : Bs w (some ⟨g, o + k, none⟩) (N - k) b := by
  refine ⟨by have := h.len; rw [List.length_append] at this; omega, fun j hj => ?_⟩
  obtain ⟨g', o', e, hc⟩ := h.cell (k + j) (by rw [List.length_append]; omega)
  have e := Option.some.inj e
  injection e with e1 e2 e3
  subst e1 e2
  refine ⟨g, o + k, rfl, ?_⟩
  have hx : (a ++ b)[k + j]'(by rw [List.length_append]; omega) = b[j] := by
    rw [List.getElem_append_right (by omega)]
    congr 1
    omega
  rw [Nat.add_assoc, hc, hx]

theorem hidE {p : Prop} (h : p) : Hid p := h

theorem Bs.drewN {w : World} {ao : Option Addr} {N : Nat} {l : List UInt8} (h : Bs w ao N l) (q : Nat) : Bs (w.drewN q) ao N l := h.kept (fun _ _ => rfl)
theorem Tx.drewN {w : World} {ao : Option Addr} {N : Nat} {l : List (Nat × Nat)} (h : Tx w ao N l) (q : Nat) : Tx (w.drewN q) ao N l := h.kept (fun _ _ => rfl)

theorem Bs.redrew {w : World} {ao : Option Addr} {N q : Nat} {l : List UInt8} (h : Bs (w.drewN q) ao N l) (q' : Nat) : Bs (w.drewN q') ao N l := h.kept (fun _ _ => rfl)

theorem Bs.sliced {w : World} {g o o' N u c : Nat} {l : List UInt8} (h : Bs w (some ⟨g, o', none⟩) (N - u) l) (hc : N ≤ c) (hg : g < w.heap.size) :
    ∃ A, (if c = u then some (⟨g, o, none⟩ : Addr) else some ⟨g, o', none⟩) = A ∧ Bs w A (N - u) l ∧ ∀ a : Addr, A = some a → a.block < w.heap.size := by
  refine ⟨_, rfl, ?_, ?_⟩
  · split
    · next e =>
      refine ⟨h.len, fun j hj => ?_⟩
      have := h.len
      omega
    · exact h
  · intro a ha
    split at ha
    · rw [← Option.some.inj ha]; exact hg
    · rw [← Option.some.inj ha]; exact hg

theorem join_at (A1 A2 A3 : Option Addr) (N n2 n3 d2 d3 B : Nat) (l1 l2 l3 : List UInt8) (w wx : World) (h1 : Bs wx A1 N l1) (h2 : Bs wx A2 n2 l2) (h3 : Bs wx A3 n3 l3) (hN : N = n2 + n3)
    (b1 : ∀ a : Addr, A1 = some a → a.block < wx.heap.size) (b2 : ∀ a : Addr, A2 = some a → a.block < wx.heap.size) (b3 : ∀ a : Addr, A3 = some a → a.block < wx.heap.size) (hbel : Below B w wx) (hB : B ≤ wx.heap.size) (hlim : N ≤ 140737488355328) :
    Calls Try.prog 19 #[.slice A2 n2 d2, .slice A3 n3 d3] wx fun e w' => ∃ g cap, e = .returned (.slice (some ⟨g, 0, none⟩) N cap) ∧ Bs w' (some ⟨g, 0, none⟩) N (l2 ++ l3) ∧ Bs w' A1 N l1 ∧ Below B w w' := by
  refine (joinBytes A2 A3 n2 d2 n3 d3 l2 l3 wx h2 h3 b2 b3 (by omega)).mono ?_
  rintro e w' ⟨g, cap, rfl, hown, hb⟩
  subst hN
  exact ⟨g, cap, rfl, Bs.of_own hown, h1.below hb (fun a ha _ => b1 a ha), hbel.trans (hb.mono hB)⟩

set_option maxRecDepth 100000 in
set_option maxHeartbeats 4000000 in
theorem law_small (ao bo co : Option Addr) (n c m d k e : Nat) (lp : List UInt8) (ta tb : List (Nat × Nat)) (w : World) (hn : n ≤ 262144) (hm : m ≤ 16384) (hk : k ≤ 16384)
    (hp : Bs w ao n lp) (hta : Tx w bo m ta) (htb : Tx w co k tb) (sa : Small ta) (sb : Small tb)
    (hA : ∀ a : Addr, ao = some a → 0 < n → a.block < w.heap.size) (hB : ∀ a : Addr, bo = some a → 0 < m → a.block < w.heap.size) (hC : ∀ a : Addr, co = some a → 0 < k → a.block < w.heap.size) :
    Calls Try.prog 3 #[.slice ao n c, .slice bo m d, .slice co k e] w fun e w' => e = .returned (.bool true) ∧ Below w.heap.size w w' := by
  obtain ⟨i28, hi28, hz0, hz1, hz2⟩ := info_parts Try.info28
  have HP : Hid (lp.length = n) := hp.len
  have HTA : Hid (ta.length = m) := hta.len
  have HTB : Hid (tb.length = k) := htb.len
  go_enter Try.func3, Try.ntmps3
  go_wp2_with fail
  refine (zzBytes _ _ _ _ _ _ _ _ _ _ (by omega) (by omega) (by omega)).mono ?_
  rintro e w1 ⟨⟨b, rfl⟩, rfl⟩
  cases b
  · go_wp2
    go_ret
    exact ⟨rfl, Below.refl _ _⟩
  go_wp2_with fail
  refine (cloneBytes ao n c lp w hp hA (by omega)).mono ?_
  rintro e w1 ⟨vp, rfl, hownP, hbel1⟩
  have hs1 := hbel1.size
  go_wp2_with (at_make; refine wpList_make_own _ rfl _ _ 23 rfl w.heap.size 28 i28 (.agg #[.int .u64 0, .int .u64 0]) 2 Try.underlying23 hi28 hz0 hz1 _ _ _ (m + k) rfl rfl (by omega) (by rw [hz2]; omega) (by unfold maxLen; omega) hs1 ?_)
  intro w2 hown2 hgrow2
  have hb12 : Below w1.heap.size w1 w2 := (Below.refl _ _).grown hgrow2 (Nat.le_refl _) (fun k hk => by cases hk)
  clear hgrow2
  go_wp2
  go_loopw [8, 9] (fun vc vi wr => ∃ (j : Nat), vi = .int .i64 j ∧ j ≤ m ∧ vc = .slice (some ⟨w1.heap.size, 0, none⟩) j (m + k) ∧ wr.ownsRow w.heap.size 28 2 (.slice (some ⟨w1.heap.size, 0, none⟩) j (m + k)) j (pairCells (ta.take j)) ∧ Below w1.heap.size w1 wr) (fun _ vi _ => m - (intOf vi).toNat)
  case atStart => exact ⟨0, rfl, Nat.zero_le _, rfl, by simpa [pairCells] using hown2, hb12⟩
  case round =>
    clear hown2 hb12
    obtain ⟨j, rfl, hj, rfl, hown, hbel⟩ := hrel
    have hsz := hbel.size
    by_cases hlt : j < m
    · have hk1 : j < ta.length := by rw [HTA.out]; exact hlt
      obtain ⟨b1, o1, e1, c1, c2⟩ := hta.cell j hk1
      have hb1 := hB ⟨b1, o1, none⟩ e1 (by omega)
      have hb1' : b1 < w1.heap.size := Nat.lt_of_lt_of_le hb1 hs1
      have q1 := ((hbel.cell (p := ⟨b1, o1 + j * 2, none⟩) hb1').trans (hbel1.cell hb1)).trans c1
      have q2 := ((hbel.cell (p := ⟨b1, o1 + j * 2 + 1, none⟩) hb1').trans (hbel1.cell hb1)).trans c2
      have HT : Hid (pairCells (ta.take (j + 1)) = pairCells (ta.take j) ++ [.int .u64 (ta[j]).1, .int .u64 (ta[j]).2]) := by
        show _ = _
        rw [List.take_succ_eq_append_getElem hk1, pairCells_snoc]
      generalize ta[j] = p at q1 q2 HT
      obtain ⟨pa, pb⟩ := p
      dsimp only at q1 q2 HT
      subst e1
      clear c1 c2
      go_wp2_with (at_builtin; refine wpList_append_fits _ rfl _ _ 23 rfl w.heap.size 28 i28 2 Try.underlying23 hi28 hz1 w1.heap.size j (m + k) _ rfl (hown.alloc _) ⟨wr.heap.size, 0, none⟩ 1 1 [Value.int .u64 (pa : Int), Value.int .u64 (pb : Int)] rfl rfl (two_new _ _ _ _) (two_one _ _) (by omega) ?_)
      intro w3 hown3 hgrow3
      have hbel3 : Below w1.heap.size w1 w3 := (hbel.alloc hsz _).grown hgrow3 (by simp; omega) (fun j hj => by injection hj with e; omega)
      rw [← HT.out] at hown3
      clear hgrow3 hown hbel
      go_wp2
      go_roundw
      case rel => exact ⟨j + 1, by go_num, by omega, rfl, hown3, hbel3⟩
      case measure => simp [intOf]; omega
    · obtain rfl : j = m := by omega
      rw [List.take_of_length_le (by rw [HTA.out]; exact Nat.le_refl _)] at hown
      go_wp2
      go_loopw [8, 10] (fun vc vi wq => ∃ (i : Nat), vi = .int .i64 i ∧ i ≤ k ∧ vc = .slice (some ⟨w1.heap.size, 0, none⟩) (j + i) (j + k) ∧ wq.ownsRow w.heap.size 28 2 (.slice (some ⟨w1.heap.size, 0, none⟩) (j + i) (j + k)) (j + i) (pairCells (ta ++ tb.take i)) ∧ Below w1.heap.size w1 wq) (fun _ vi _ => k - (intOf vi).toNat)
      case atStart => exact ⟨0, rfl, Nat.zero_le _, rfl, by simpa using hown, hbel⟩
      case round =>
        clear hown hbel hsz
        obtain ⟨i, rfl, hi, rfl, hown, hbel⟩ := hrel
        have hsz := hbel.size
        by_cases hlt2 : i < k
        · have hk1 : i < tb.length := by rw [HTB.out]; exact hlt2
          obtain ⟨b1, o1, e1, c1, c2⟩ := htb.cell i hk1
          have hb1 := hC ⟨b1, o1, none⟩ e1 (by omega)
          have hb1' : b1 < w1.heap.size := Nat.lt_of_lt_of_le hb1 hs1
          have q1 := ((hbel.cell (p := ⟨b1, o1 + i * 2, none⟩) hb1').trans (hbel1.cell hb1)).trans c1
          have q2 := ((hbel.cell (p := ⟨b1, o1 + i * 2 + 1, none⟩) hb1').trans (hbel1.cell hb1)).trans c2
          have HT : Hid (pairCells (ta ++ tb.take (i + 1)) = pairCells (ta ++ tb.take i) ++ [.int .u64 (tb[i]).1, .int .u64 (tb[i]).2]) := by
            show _ = _
            rw [List.take_succ_eq_append_getElem hk1, ← List.append_assoc, pairCells_snoc]
          generalize tb[i] = p at q1 q2 HT
          obtain ⟨pa, pb⟩ := p
          dsimp only at q1 q2 HT
          subst e1
          clear c1 c2
          go_wp2_with (at_builtin; refine wpList_append_fits _ rfl _ _ 23 rfl w.heap.size 28 i28 2 Try.underlying23 hi28 hz1 w1.heap.size (j + i) (j + k) _ rfl (hown.alloc _) ⟨_, 0, none⟩ 1 1 [Value.int .u64 (pa : Int), Value.int .u64 (pb : Int)] rfl rfl (two_new _ _ _ _) (two_one _ _) (by omega) ?_)
          intro w3 hown3 hgrow3
          have hbel3 : Below w1.heap.size w1 w3 := (hbel.alloc hsz _).grown hgrow3 (by simp; omega) (fun j hj => by injection hj with e; omega)
          rw [← HT.out] at hown3
          clear hgrow3 hown hbel
          go_wp2
          go_roundw
          case rel => exact ⟨i + 1, by go_num, by omega, rfl, hown3, hbel3⟩
          case measure => simp [intOf]; omega
        · obtain rfl : i = k := by omega
          rw [List.take_of_length_le (by rw [HTB.out]; exact Nat.le_refl _)] at hown
          have hAB : w1.heap.size < wr.heap.size := (hown.lt _ rfl).2
          have hT4 : Tx wr (some ⟨w1.heap.size, 0, none⟩) (j + i) (ta ++ tb) := Tx.of_own hown (by rw [List.length_append, HTA.out, HTB.out])
          have hP4 : wr.ownsRow w.heap.size 5 1 vp lp.length (Lib.byteCells lp) := by
            rw [HP.out]
            exact ownsRow_of_block hownP (fun g hg => hbel.block g (hownP.lt g hg).2)
          have hvp : ∀ g, vp.ownBlock = some g → g < w1.heap.size := fun g hg => (hownP.lt g hg).2
          have hbel4 : Below w.heap.size w wr := hbel1.trans (hbel.mono hs1)
          have hsm : Small (ta ++ tb) := fun q hq => by
            rcases List.mem_append.1 hq with h | h
            · exact sa q h
            · exact sb q h
          have hs4 := hbel4.size
          clear hown hbel hownP hbel1 hs1 hsz
          go_wp2_with fail
          refine (newEnc w.heap.size lp vp wr hP4).mono ?_
          rintro e w5 ⟨rfl, henc5, hb5⟩
          have hs5 : wr.heap.size < w5.heap.size := henc5.lt
          have hT5 := hT4.below hb5 (fun a ha _ => by rw [← Option.some.inj ha]; exact hAB)
          have hbel5 := hbel4.trans (hb5.mono hs4)
          clear hP4 hT4 hb5 hbel4
          go_wp2_with fail
          refine (toTxns _ _ _ (ta ++ tb) w5 hT5 (fun a ha _ => by rw [← Option.some.inj ha]; show w1.heap.size < _; omega) (by omega)).mono ?_
          rintro e w6 ⟨t6, d6, rfl, hU6, hu6, hs6, hb6⟩
          have henc6 := henc5.below hb6
          have hT6 := hT5.below hb6 (fun a ha _ => by rw [← Option.some.inj ha]; show w1.heap.size < _; omega)
          have hbel6 := hbel5.trans (hb6.mono (by omega))
          clear henc5 hT5 hb6 hbel5
          go_wp2_with fail
          refine (ZZtxns w.heap.size wr.heap.size (j + i) d6 t6 lp (ta ++ tb) vp w6 henc6 (by omega) hU6 hsm (fun a ha => ?_) (by omega) (by rw [HP.out]; omega)).mono ?_
          · obtain ⟨e6, l6⟩ := hu6 a ha
            exact ⟨by omega, by omega, fun h => by have := hvp _ h; omega⟩
          rintro e w7 ⟨rfl, v1, henc7, hst7⟩
          have hT7 := hT6.step hst7 (by omega) (by omega) (fun h => by have := hvp _ h; omega)
          have hbel7 : Below w.heap.size w w7 := hbel6.trans (hst7.below (by omega) hs4 (fun g hg => (henc6.own.lt g hg).1))
          have hs7 := hst7.size
          clear henc6 hT6 hbel6 hst7 hU6 hu6
          go_wp2_with fail
          refine (newEnc w.heap.size [] (.slice none 0 0) w7 (World.ownsRow_nil _ _ _ _)).mono ?_
          rintro e w8 ⟨rfl, henc8, hb8⟩
          have hs8 : w7.heap.size < w8.heap.size := henc8.lt
          have hT8 := hT7.below hb8 (fun a ha _ => by rw [← Option.some.inj ha]; show w1.heap.size < _; omega)
          have hbel8 := hbel7.trans (hb8.mono (by omega))
          have henA8 := henc7.below hb8
          clear henc7 hT7 hb8 hbel7
          have hta8 := hta.below hbel8 hB
          go_wp2_with fail
          refine (toTxns bo j d ta w8 hta8 (fun a ha h0 => Nat.lt_of_lt_of_le (hB a ha h0) (by omega)) (by omega)).mono ?_
          rintro e w9 ⟨t9, d9, rfl, hU9, hu9, hs9, hb9⟩
          have henc9 := henc8.below hb9
          have henA9 := henA8.below hb9
          have hT9 := hT8.below hb9 (fun a ha _ => by rw [← Option.some.inj ha]; show w1.heap.size < _; omega)
          have hbel9 := hbel8.trans (hb9.mono (by omega))
          clear henc8 hT8 hb9 hbel8 hta8 henA8
          go_wp2_with fail
          refine (ZZtxns w.heap.size w7.heap.size j d9 t9 [] ta _ w9 henc9 (by omega) hU9 sa (fun a ha => ?_) (by omega) (by simp; omega)).mono ?_
          · obtain ⟨e9, l9⟩ := hu9 a ha
            exact ⟨by omega, by omega, fun h => by cases h⟩
          rintro e w10 ⟨rfl, v2, henc10, hst10⟩
          have hT10 := hT9.step hst10 (by omega) (by omega) (fun h => by cases h)
          have hbel10 : Below w.heap.size w w10 := hbel9.trans (hst10.below (by omega) (by omega) (fun g hg => by cases hg))
          have henA10 := henA9.step henc9 hst10 (by omega) (.inl rfl)
          have hs10 := hst10.size
          clear henc9 hT9 hbel9 hst10 hU9 hu9 henA9
          go_wp2_with fail
          refine (newEnc w.heap.size [] (.slice none 0 0) w10 (World.ownsRow_nil _ _ _ _)).mono ?_
          rintro e w11 ⟨rfl, henc11, hb11⟩
          have hs11 : w10.heap.size < w11.heap.size := henc11.lt
          have hT11 := hT10.below hb11 (fun a ha _ => by rw [← Option.some.inj ha]; show w1.heap.size < _; omega)
          have hbel11 := hbel10.trans (hb11.mono (by omega))
          have henA11 := henA10.below hb11
          have henB11 := henc10.below hb11
          clear henc10 hT10 hb11 hbel10 henA10
          have htb11 := htb.below hbel11 hC
          go_wp2_with fail
          refine (toTxns co i e tb w11 htb11 (fun a ha h0 => Nat.lt_of_lt_of_le (hC a ha h0) (by omega)) (by omega)).mono ?_
          rintro e w12 ⟨t12, d12, rfl, hU12, hu12, hs12, hb12⟩
          have henc12 := henc11.below hb12
          have henA12 := henA11.below hb12
          have henB12 := henB11.below hb12
          have hT12 := hT11.below hb12 (fun a ha _ => by rw [← Option.some.inj ha]; show w1.heap.size < _; omega)
          have hbel12 := hbel11.trans (hb12.mono (by omega))
          clear henc11 hT11 hb12 hbel11 htb11 henA11 henB11
          go_wp2_with fail
          refine (ZZtxns w.heap.size w10.heap.size i d12 t12 [] tb _ w12 henc12 (by omega) hU12 sb (fun a ha => ?_) (by omega) (by simp; omega)).mono ?_
          · obtain ⟨e9, l9⟩ := hu12 a ha
            exact ⟨by omega, by omega, fun h => by cases h⟩
          rintro e w13 ⟨rfl, v3, henC, hst13⟩
          have hT := hT12.step hst13 (by omega) (by omega) (fun h => by cases h)
          have hbel : Below w.heap.size w w13 := hbel12.trans (hst13.below (by omega) (by omega) (fun g hg => by cases hg))
          have henA := henA12.step henc12 hst13 (by omega) (.inl rfl)
          have henB := henB12.step henc12 hst13 (by omega) (.inl rfl)
          have hs13 := hst13.size
          clear henc12 hT12 hbel12 hst13 hU12 hu12 henA12 henB12
          have hP := hp.below hbel hA
          clear hta htb hp
          have pos := fun x => Lib.uvarint_pos x
          obtain ⟨g1, c1, n1, hv1, hc1, hg1, hB1⟩ := henA.some_ (by simp only [List.length_append]; have := pos (j + i); omega)
          obtain ⟨g2, c2, n2, hv2, hc2, hg2, hB2⟩ := henB.some_ (by simp only [List.length_append]; have := pos j; omega)
          obtain ⟨g3, c3, n3, hv3, hc3, hg3, hB3⟩ := henC.some_ (by simp only [List.length_append]; have := pos i; omega)
          subst hv1 hv2 hv3
          clear pos
          go_wp2_with fail
          refine (encShared _ _ _ _ w13 henA).mono ?_
          rintro e w' ⟨rfl, rfl⟩
          go_wp2_with fail
          refine (encShared _ _ _ _ w13 henB).mono ?_
          rintro e w' ⟨rfl, rfl⟩
          go_wp2_with fail
          refine (encShared _ _ _ _ w13 henC).mono ?_
          rintro e w' ⟨rfl, rfl⟩
          go_wp2_with fail
          refine (encFrame _ _ _ _ w13 henA).mono ?_
          rintro e w' ⟨rfl, rfl⟩
          go_wp2_with fail
          refine (encFrame _ _ _ _ w13 henB).mono ?_
          rintro e w' ⟨rfl, rfl⟩
          go_wp2_with fail
          refine (encFrame _ _ _ _ w13 henC).mono ?_
          rintro e w' ⟨rfl, rfl⟩
          clear henA henB henC
          have l1 := encTx_length (ta ++ tb) hsm
          have l2 := Lib.uvarint_length64 (show j + i < 18446744073709551616 by omega)
          have l3 := Lib.uvarint_pos (j + i)
          have hn1 : n < n1 ∧ n1 ≤ 100000000 := by
            have := hB1.len
            simp only [List.length_append, HP.out, HTA.out, HTB.out] at this l1
            omega
          obtain ⟨hn1a, hn1b⟩ := hn1
          go_wp2_with fail
          refine (hasPrefix _ _ _ _ _ _ _ lp (Lib.uvarint (j + i) ++ encTx (ta ++ tb)) w13 hB1 hP (by simp) (by omega)).mono ?_
          rintro e w14 ⟨rfl, q, rfl⟩
          have hbd : Bs (w13.drewN q) (some ⟨g1, n, none⟩) (n1 - n) (Lib.uvarint (j + i) ++ encTx (ta ++ tb)) := by
            have h := hB1
            rw [List.append_assoc] at h
            simpa using (h.drop HP.out).drewN q
          have hbl := hbd.len
          have hE : Hid (0 + (Lib.uvarint (j + i)).length + (encTx (ta ++ tb)).length = n1 - n) := by
            show _ = _
            rw [List.length_append] at hbl
            omega
          have hC1 := readTxnsEqual _ _ _ (c1 - n) _ (j + i) 0 0 _ [] [] _ _ rfl hbd (hT.drewN q) hsm (by simp) rfl (by omega) (by omega)
          rw [hE.out] at hC1
          clear hbl
          go_wp2_with fail
          refine hC1.mono ?_
          rintro e w15 ⟨rfl, rfl⟩
          clear hC1
          have R1 := readUvarint _ _ (c1 - n) 0 (j + i) 0 _ [] (encTx (ta ++ tb)) _ rfl hbd (by simp) rfl (by omega) (by omega)
          have R2 := readUvarint _ _ c2 0 j 0 _ [] (encTx ta) _ rfl (hB2.drewN q) (by simp) rfl (by omega) (by have := hB2.len; have := encTx_length ta sa; have := Lib.uvarint_length64 (show j < 18446744073709551616 by omega); simp only [List.length_append, HTA.out, List.length_nil] at *; omega)
          have R3 := readUvarint _ _ c3 0 i 0 _ [] (encTx tb) _ rfl (hB3.drewN q) (by simp) rfl (by omega) (by have := hB3.len; have := encTx_length tb sb; have := Lib.uvarint_length64 (show i < 18446744073709551616 by omega); simp only [List.length_append, HTB.out, List.length_nil] at *; omega)
          obtain ⟨u1, hu1⟩ : ∃ u, u = 0 + (Lib.uvarint (j + i)).length := ⟨_, rfl⟩
          obtain ⟨u2, hu2⟩ : ∃ u, u = 0 + (Lib.uvarint j).length := ⟨_, rfl⟩
          obtain ⟨u3, hu3⟩ : ∃ u, u = 0 + (Lib.uvarint i).length := ⟨_, rfl⟩
          rw [← hu1] at R1
          rw [← hu2] at R2
          rw [← hu3] at R3
          have hbA := hbd.drop (show (Lib.uvarint (j + i)).length = u1 by omega)
          have hbB := (show Bs _ _ _ (Lib.uvarint j ++ encTx ta) from by simpa using hB2.drewN q).drop (show (Lib.uvarint j).length = u2 by omega)
          have hbC := (show Bs _ _ _ (Lib.uvarint i ++ encTx tb) from by simpa using hB3.drewN q).drop (show (Lib.uvarint i).length = u3 by omega)
          have k1 : u1 ≤ n1 - n := by have := hbd.len; rw [List.length_append] at this; omega
          have k2 : u2 ≤ n2 ∧ n2 ≤ 100000000 := by have := hB2.len; have := encTx_length ta sa; have := Lib.uvarint_length64 (show j < 18446744073709551616 by omega); simp only [List.length_append, HTA.out, List.length_nil] at *; omega
          have k3 : u3 ≤ n3 ∧ n3 ≤ 100000000 := by have := hB3.len; have := encTx_length tb sb; have := Lib.uvarint_length64 (show i < 18446744073709551616 by omega); simp only [List.length_append, HTB.out, List.length_nil] at *; omega
          obtain ⟨k2a, k2b⟩ := k2
          obtain ⟨k3a, k3b⟩ := k3
          have hsum : n1 - n - u1 = n2 - u2 + (n3 - u3) := by
            have a1 := hbA.len; have a2 := hbB.len; have a3 := hbC.len
            rw [encTx_append, List.length_append] at a1
            omega
          obtain ⟨A1, hA1, hbA', bA⟩ := hbA.sliced (c := c1 - n) (o := n) (by omega) (by exact hg1)
          obtain ⟨A2, hA2, hbB', bB⟩ := (show Bs _ (some ⟨g2, u2, none⟩) _ _ from by simpa using hbB).sliced (c := c2) (o := 0) hc2 (by exact hg2)
          obtain ⟨A3, hA3, hbC', bC⟩ := (show Bs _ (some ⟨g3, u3, none⟩) _ _ from by simpa using hbC).sliced (c := c3) (o := 0) hc3 (by exact hg3)
          rw [encTx_append] at hbA'
          have HJ := hidE (fun q' => join_at A1 A2 A3 (n1 - n - u1) (n2 - u2) (n3 - u3) (c2 - u2) (c3 - u3) w.heap.size _ _ _ w (w13.drewN q') (hbA'.redrew q') (hbB'.redrew q') (hbC'.redrew q') hsum bA bB bC ⟨hbel.os, hbel.tape, hbel.output, hbel.size, hbel.block⟩ hbel.size (by omega))
          clear hu1 hu2 hu3 hB1 hB2 hB3 hbd l1 l2 l3 hT hP hbA hbB hbC hbA' hbB' hbC' bA bB bC hbel
          have HR1 := hidE R1
          have HR2 := hidE R2
          have HR3 := hidE R3
          have HSUM : Hid (n1 - n - u1 = n2 - u2 + (n3 - u3)) := hsum
          clear R1 R2 R3 hsum
          go_wp2_with fail
          refine HR1.out.mono ?_
          rintro e w15 ⟨rfl, rfl⟩
          go_wp2_with fail
          refine HR2.out.mono ?_
          rintro e w15 ⟨rfl, rfl⟩
          go_wp2_with fail
          refine HR3.out.mono ?_
          rintro e w15 ⟨rfl, rfl⟩
          clear HR1 HR2 HR3
          go_wp2_with fail
          go_region_with (first | (go_at_call 19; refine (HJ.out _).mono ?_; rintro e w2 ⟨g, cap, rfl, hx1, hx2, hx3⟩) | (go_at_call 18; refine (sameBytes _ _ _ _ _ _ _ hx2 hx1 (by omega)).mono ?_; rintro e w3 ⟨rfl, q3, rfl⟩))
          go_wp2
          go_ret
          exact ⟨rfl, hx3.os, hx3.tape, hx3.output, hx3.size, hx3.block⟩

end Go.Proofs.Qxb6608741a
