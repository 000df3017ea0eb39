/-
  THE WORDS OF MEMORY for the seat b6608741a: what a byte slice, a slice of pairs and an encoder are in a world, and what an encoder's write leaves alone.
-/
import Derived.Test.Qxb6608741aRows
import Derived.WalkKit
import Derived.WalkSpells
import Derived.WalkLawsBesides
import Derived.Lib.VarintMem
import Derived.Deep.Onto
namespace Go.Proofs.Qxb6608741a
open Go Go.RowKit

/-- append of at least one element onto a slice that the call owns: the value behind it lies in the same block, or in a new one. -/
theorem wpList_append_own_x {P : Program} (w : World) {ops : Array Oper} {rest : List Oper} {o : Oper} {a : Act} {Q : Exit → Act → World → Prop} (hgd : o.guard = none) (s x : Operand) (t : TypeId)
    (ho : o.op = .call { callee := .builtin .append, args := #[s, x], argTypes := #[t, t] })
    (base : Nat) (e : TypeId) (i : TypeInfo) (z : Value) (size bytes : Nat) (ht : P.underlying t = some (.slice e)) (hi : P.info? e = some i) (hz : i.zero = some z)
    (hsize : i.size = size) (hby : i.bytes = bytes) (hzs : z.cells.size = size) (hsz : 0 < size)
    (v : Value) (n : Nat) (xs : List Value) (hs : a.eval s = v) (hown : w.ownsRow base e size v n xs)
    (ad : Addr) (m c : Nat) (news : List Value) (hx : a.eval x = .slice (some ad) m c) (hl : news.length = m * size) (hnews : ∀ j u, news[j]? = some u → w.cell? (ad.add j) = some u) (h1 : ∀ u ∈ news, u.oneCell' = true)
    (hm : 0 < m) (h63 : n + m ≤ maxLen) (hbytes : (n + m) * bytes ≤ 140737488355328) (hbase : base ≤ w.heap.size)
    (h : ∀ v' w', w'.ownsRow base e size v' (n + m) (xs ++ news) → w.grownBy w' v.ownBlock → (v'.ownBlock = v.ownBlock ∨ ∃ g, v'.ownBlock = some g ∧ w.heap.size ≤ g) → wpList P ops Q rest (a.put o.dst v') w') : wpList P ops Q (o :: rest) a w := by
  have new : ∀ (v' : Value) (w' : World) (k : Nat) (ys : List Value), 0 < k → w'.ownsRow w.heap.size e size v' k ys → ∃ g, v'.ownBlock = some g ∧ w.heap.size ≤ g := by
    intro v' w' k ys hk h2
    rcases h2.2 with ⟨_, h0⟩ | ⟨g, cap, cur, rfl, hb, _⟩
    · omega
    · exact ⟨g, rfl, hb⟩
  rcases hown.2 with ⟨rfl, rfl⟩ | ⟨g, cap, cur, rfl, hb, hg, hnc, hcm, hcs, htake⟩
  · refine wpList_append_grows w hgd s x t ho e i z size bytes ht hi hz hsize hby hzs hsz none 0 0 xs hs (fun _ => ⟨rfl, rfl⟩) hown.1 (fun b hb => by cases hb) ad m c news hx hl hnews h1 (by omega) h63 hbytes fun v' w' h2 h3 => ?_
    exact h v' w' (h2.mono hbase) h3 (.inr (new v' w' _ _ (by omega) h2))
  · by_cases hroom : n + m ≤ cap
    · exact wpList_append_fits w hgd s x t ho base e i size ht hi hsize g n cap xs hs hown ad m c news hx hl hnews h1 hroom fun w' h2 h3 => h _ w' h2 h3 (.inl rfl)
    · refine wpList_append_grows w hgd s x t ho e i z size bytes ht hi hz hsize hby hzs hsz (some ⟨g, 0, none⟩) n cap xs hs (fun h0 => by cases h0) hown.1 (fun b hb => ?_) ad m c news hx hl hnews h1 (by omega) h63 hbytes fun v' w' h2 h3 => ?_
      · obtain rfl := Option.some.inj hb
        exact hown.cells (g := g) rfl
      · exact h v' w' (h2.mono hbase) ⟨h3.os, h3.tape, h3.output, h3.size, fun k hk _ => h3.block k hk (by simp)⟩ (.inr (new v' w' _ _ (by omega) h2))

/-- What a write through an encoder at block eb whose frame is v leaves: all but the encoder's block and the frame's row; the frame behind it lies in the same row or in new memory. -/
structure Step (eb : Nat) (w : World) (v : Value) (w' : World) (v' : Value) : Prop where
  os : w'.os = w.os
  tape : w'.tape = w.tape
  output : w'.output = w.output
  size : w.heap.size ≤ w'.heap.size
  block : ∀ k, k < w.heap.size → k ≠ eb → v.ownBlock ≠ some k → w'.heap[k]? = w.heap[k]?
  row : v'.ownBlock = v.ownBlock ∨ ∃ g, v'.ownBlock = some g ∧ w.heap.size ≤ g

theorem Step.refl (eb : Nat) (w : World) (v : Value) : Step eb w v w v := ⟨rfl, rfl, rfl, Nat.le_refl _, fun _ _ _ _ => rfl, .inl rfl⟩

theorem Step.trans {eb : Nat} {w w1 w2 : World} {v v1 v2 : Value} (h : Step eb w v w1 v1) (k : Step eb w1 v1 w2 v2) : Step eb w v w2 v2 := by
  refine ⟨k.os.trans h.os, k.tape.trans h.tape, k.output.trans h.output, Nat.le_trans h.size k.size, fun i hi h1 h2 => ?_, ?_⟩
  · refine (k.block i (Nat.lt_of_lt_of_le hi h.size) h1 (fun e => ?_)).trans (h.block i hi h1 h2)
    rcases h.row with hr | ⟨g, hg, hl⟩
    · exact h2 (hr.symm.trans e)
    · rw [hg] at e; have := Option.some.inj e; omega
  · rcases k.row with hr | ⟨g, hg, hl⟩
    · rcases h.row with hr' | ⟨g, hg, hl⟩
      · exact .inl (hr.trans hr')
      · exact .inr ⟨g, hr.trans hg, hl⟩
    · exact .inr ⟨g, hg, Nat.le_trans h.size hl⟩

theorem Step.alloc {eb : Nat} {w w1 : World} {v v1 : Value} (h : Step eb w v w1 v1) (o : Obj) : Step eb w v (w1.alloc o) v1 :=
  h.trans ⟨rfl, rfl, rfl, by simp, fun k hk _ _ => Below.heap_alloc _ _ _ hk, .inl rfl⟩

theorem Step.drew {eb : Nat} {w w1 : World} {v v1 : Value} (h : Step eb w v w1 v1) : Step eb w v w1.drew v1 :=
  ⟨h.os, h.tape, h.output, h.size, h.block, h.row⟩

theorem Step.setCell {eb : Nat} {w w1 : World} {v v1 : Value} (h : Step eb w v w1 v1) (o : Nat) (u : Value) : Step eb w v (w1.setCell ⟨eb, o, none⟩ u) v1 :=
  ⟨h.os, h.tape, h.output, by have := h.size; simp [World.setCell]; omega, fun k hk h1 h2 => (Below.heap_setCell _ _ _ _ (by simpa using h1)).trans (h.block k hk h1 h2), h.row⟩

theorem Step.of_grown {eb : Nat} {w w1 : World} {v v1 : Value} (h : w.grownBy w1 v.ownBlock) (hr : v1.ownBlock = v.ownBlock ∨ ∃ g, v1.ownBlock = some g ∧ w.heap.size ≤ g) : Step eb w v w1 v1 :=
  ⟨h.os, h.tape, h.output, h.size, fun k hk _ h2 => h.block k hk (fun e => h2 e.symm), hr⟩

theorem Step.below {eb : Nat} {w w1 : World} {v v1 : Value} (h : Step eb w v w1 v1) {B : Nat} (hB : B ≤ w.heap.size) (he : B ≤ eb) (hv : ∀ g, v.ownBlock = some g → B ≤ g) : Below B w w1 :=
  ⟨h.os, h.tape, h.output, h.size, fun k hk => h.block k (by omega) (by omega) (fun e => by have := hv k e; omega)⟩

/-- An encoder at block eb, its frame v, the bytes bs in it, nothing shared. -/
structure Enc (w : World) (B eb : Nat) (bs : List UInt8) (v : Value) : Prop where
  blk : ∃ C : Array Value, w.heap[eb]? = some (.cells C 70 (0, 0)) ∧ 1 < C.size ∧ C[0]? = some v ∧ C[1]? = some (.slice none 0 0)
  own : w.ownsRow B 5 1 v bs.length (Lib.byteCells bs)

theorem Enc.cell0 {w : World} {B eb : Nat} {bs : List UInt8} {v : Value} (h : Enc w B eb bs v) : w.cell? ⟨eb, 0, none⟩ = some v := by
  obtain ⟨C, h1, h2, h3, h4⟩ := h.blk
  rw [cell_of_row w eb 0 C 70 (0, 0) h1]; exact h3

theorem Enc.cell1 {w : World} {B eb : Nat} {bs : List UInt8} {v : Value} (h : Enc w B eb bs v) : w.cell? ⟨eb, 1, none⟩ = some (.slice none 0 0) := by
  obtain ⟨C, h1, h2, h3, h4⟩ := h.blk
  rw [cell_of_row w eb 1 C 70 (0, 0) h1]; exact h4

theorem Enc.frozen0 {w : World} {B eb : Nat} {bs : List UInt8} {v : Value} (h : Enc w B eb bs v) : w.frozen? ⟨eb, 0, none⟩ = false := by
  obtain ⟨C, h1, h2, h3, h4⟩ := h.blk
  simp [World.frozen?, h1]

theorem Enc.lt {w : World} {B eb : Nat} {bs : List UInt8} {v : Value} (h : Enc w B eb bs v) : eb < w.heap.size := by
  obtain ⟨C, h1, h2, h3, h4⟩ := h.blk
  exact (Array.getElem?_eq_some_iff.1 h1).1

theorem own_shape {w : World} {B : Nat} {e : TypeId} {size : Nat} {v : Value} {n : Nat} {xs : List Value} (h : w.ownsRow B e size v n xs) : ∃ ao c, v = .slice ao n c := by
  rcases h.2 with ⟨rfl, h0⟩ | ⟨g, cap, cur, rfl, _⟩
  · exact ⟨none, 0, by rw [h0]⟩
  · exact ⟨_, _, rfl⟩

/-- A row of bytes is no encoder's block. -/
theorem own_apart {w : World} {B : Nat} {v : Value} {n : Nat} {xs : List Value} (h : w.ownsRow B 5 1 v n xs) {e' : Nat} {C : Array Value} (hC : w.heap[e']? = some (.cells C 70 (0, 0))) : v.ownBlock ≠ some e' := by
  intro hv
  rcases h.2 with ⟨rfl, h0⟩ | ⟨g, cap, cur, rfl, _, hg, _⟩
  · simp [Value.ownBlock] at hv
  · simp [Value.ownBlock] at hv
    subst hv
    rw [hC] at hg
    simp at hg

theorem Enc.shape {w : World} {B eb : Nat} {bs : List UInt8} {v : Value} (h : Enc w B eb bs v) : ∃ ao c, v = .slice ao bs.length c := by
  rcases h.own.2 with ⟨rfl, h0⟩ | ⟨g, cap, cur, rfl, _⟩
  · exact ⟨none, 0, by rw [h0]⟩
  · exact ⟨_, _, rfl⟩

/-- The frame's row is no encoder's block. -/
theorem Enc.apart {w : World} {B eb : Nat} {bs : List UInt8} {v : Value} (h : Enc w B eb bs v) {e' : Nat} {C : Array Value} (hC : w.heap[e']? = some (.cells C 70 (0, 0))) : v.ownBlock ≠ some e' := by
  intro hv
  rcases h.own.2 with ⟨rfl, h0⟩ | ⟨g, cap, cur, rfl, _, hg, _⟩
  · simp [Value.ownBlock] at hv
  · simp [Value.ownBlock] at hv
    subst hv
    rw [hC] at hg
    simp at hg

theorem Enc.apart_self {w : World} {B eb : Nat} {bs : List UInt8} {v : Value} (h : Enc w B eb bs v) : v.ownBlock ≠ some eb := by
  obtain ⟨C, h1, _⟩ := h.blk
  exact h.apart h1

theorem ownsRow_of_block {w w' : World} {base : Nat} {e : TypeId} {size : Nat} {v : Value} {n : Nat} {xs : List Value} (h : w.ownsRow base e size v n xs) (hb : ∀ g, v.ownBlock = some g → w'.heap[g]? = w.heap[g]?) : w'.ownsRow base e size v n xs := by
  refine ⟨h.1, ?_⟩
  rcases h.2 with hn | ⟨g, cap, cur, rfl, hbase, hgg, rest⟩
  · exact .inl hn
  · exact .inr ⟨g, cap, cur, rfl, hbase, (hb g rfl).trans hgg, rest⟩

theorem Enc.of_blocks {w w' : World} {B eb : Nat} {bs : List UInt8} {v : Value} (h : Enc w B eb bs v) (h1 : w'.heap[eb]? = w.heap[eb]?) (h2 : ∀ g, v.ownBlock = some g → w'.heap[g]? = w.heap[g]?) : Enc w' B eb bs v := by
  obtain ⟨C, c1, c2, c3, c4⟩ := h.blk
  exact ⟨⟨C, h1.trans c1, c2, c3, c4⟩, ownsRow_of_block h.own h2⟩

theorem Enc.alloc {w : World} {B eb : Nat} {bs : List UInt8} {v : Value} (h : Enc w B eb bs v) (o : Obj) : Enc (w.alloc o) B eb bs v :=
  h.of_blocks (Below.heap_alloc _ _ _ h.lt) (fun g hg => Below.heap_alloc _ _ _ (h.own.lt g hg).2)

/-- Another encoder's write leaves this one as it is. -/
theorem Enc.step {w w' : World} {B e1 e2 : Nat} {b1 b2 : List UInt8} {v1 v2 v2' : Value} (h : Enc w B e1 b1 v1) (k : Enc w B e2 b2 v2) (hs : Step e2 w v2 w' v2') (hne : e1 ≠ e2) (hr : v2.ownBlock = none ∨ v1.ownBlock ≠ v2.ownBlock) : Enc w' B e1 b1 v1 := by
  obtain ⟨C1, c1, _⟩ := h.blk
  obtain ⟨C2, c2, _⟩ := k.blk
  refine h.of_blocks (hs.block e1 h.lt hne (k.apart c1)) (fun g hg => hs.block g (h.own.lt g hg).2 (fun e => h.apart c2 (e ▸ hg)) (fun e => ?_))
  rcases hr with hr | hr
  · rw [hr] at e; cases e
  · exact hr (hg.trans e.symm)

/-- The frame stored back into its field. -/
theorem Enc.stored {w w1 : World} {B eb : Nat} {bs bs' : List UInt8} {v v' : Value} (h : Enc w B eb bs v) (hb : w1.heap[eb]? = w.heap[eb]?) (hown : w1.ownsRow B 5 1 v' bs'.length (Lib.byteCells bs')) (hv : v'.ownBlock ≠ some eb) : Enc (w1.setCell ⟨eb, 0, none⟩ v') B eb bs' v' := by
  obtain ⟨C, c1, c2, c3, c4⟩ := h.blk
  have hh : w1.heap[eb]? = some (.cells C 70 (0, 0)) := hb.trans c1
  refine ⟨⟨C.setIfInBounds 0 v', ?_, by simpa using c2, by rw [Array.getElem?_setIfInBounds, if_pos rfl, if_pos (by omega)], by rw [Array.getElem?_setIfInBounds]; simpa using c4⟩, ?_⟩
  · simp only [World.setCell, Array.getElem?_modify, hh]
    simp
  · exact ownsRow_of_block hown (fun g hg => Below.heap_setCell _ _ _ _ (fun e => hv (by rw [hg]; exact congrArg some e)))

/-- '.slice ao n c' reads the bytes l. -/
structure Bs (w : World) (ao : Option Addr) (n : Nat) (l : List UInt8) : Prop where
  len : l.length = n
  cell : ∀ j (h : j < l.length), ∃ b off, ao = some ⟨b, off, none⟩ ∧ w.cell? ⟨b, off + j, none⟩ = some (.int .u8 (l[j]).toNat)

/-- '.slice ao n c' reads the pairs l. -/
structure Tx (w : World) (ao : Option Addr) (n : Nat) (l : List (Nat × Nat)) : Prop where
  len : l.length = n
  cell : ∀ j (h : j < l.length), ∃ b off, ao = some ⟨b, off, none⟩ ∧ w.cell? ⟨b, off + j * 2, none⟩ = some (.int .u64 (l[j]).1) ∧ w.cell? ⟨b, off + j * 2 + 1, none⟩ = some (.int .u64 (l[j]).2)

theorem Bs.kept {w w' : World} {ao : Option Addr} {n : Nat} {l : List UInt8} (h : Bs w ao n l) (hb : ∀ a : Addr, ao = some a → w'.heap[a.block]? = w.heap[a.block]?) : Bs w' ao n l :=
  ⟨h.len, fun j hj => by
    obtain ⟨b, off, e, hc⟩ := h.cell j hj
    exact ⟨b, off, e, (World.cell?_of_block (a := ⟨b, off + j, none⟩) (hb ⟨b, off, none⟩ e)).trans hc⟩⟩

theorem Tx.kept {w w' : World} {ao : Option Addr} {n : Nat} {l : List (Nat × Nat)} (h : Tx w ao n l) (hb : ∀ a : Addr, ao = some a → w'.heap[a.block]? = w.heap[a.block]?) : Tx w' ao n l :=
  ⟨h.len, fun j hj => by
    obtain ⟨b, off, e, hc, hd⟩ := h.cell j hj
    exact ⟨b, off, e, (World.cell?_of_block (a := ⟨b, off + j * 2, none⟩) (hb ⟨b, off, none⟩ e)).trans hc, (World.cell?_of_block (a := ⟨b, off + j * 2 + 1, none⟩) (hb ⟨b, off, none⟩ e)).trans hd⟩⟩

end Go.Proofs.Qxb6608741a
