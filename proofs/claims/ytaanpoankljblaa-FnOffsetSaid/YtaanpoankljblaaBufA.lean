/- A buffer of bytes behind a pointer: what holds of it, and what one write does to it. -/
import Derived.Test.YtaanpoankljblaaHigh
import Derived.OwnWalk
import Derived.Laws.AppendOwn
import Derived.Deep.RegionLaw
namespace Go.Proofs.Ytaanpoankljblaa.BufA
open Go.RowKit
set_option linter.unusedVariables false
set_option linter.unusedSimpArgs false

structure Keep (p : Prop) : Prop where mk :: (out : p)

/-- Below block number base all but block B is as it was. -/
structure Ex (base B : Nat) (w w' : World) : Prop where
  os : w'.os = w.os
  tape : w'.tape = w.tape
  output : w'.output = w.output
  size : w.heap.size ≤ w'.heap.size
  block : ∀ k, k < base → k ≠ B → w'.heap[k]? = w.heap[k]?

theorem Ex.refl (base B : Nat) (w : World) : Ex base B w w := ⟨rfl, rfl, rfl, Nat.le_refl _, fun _ _ _ => rfl⟩
theorem Ex.trans {base B : Nat} {a b c : World} (h : Ex base B a b) (k : Ex base B b c) : Ex base B a c :=
  ⟨k.os.trans h.os, k.tape.trans h.tape, k.output.trans h.output, Nat.le_trans h.size k.size, fun i hi hB => (k.block i hi hB).trans (h.block i hi hB)⟩
theorem Ex.below {base B : Nat} {w w' : World} (h : Ex base B w w') {N : Nat} (h1 : N ≤ base) (h2 : N ≤ B) : Below N w w' :=
  ⟨h.os, h.tape, h.output, h.size, fun k hk => h.block k (by omega) (by omega)⟩

/-- Block B holds a slice of bytes of the call's own, whose numbers are bs. -/
def BufAt (base B : Nat) (w : World) (bs : List Int) : Prop :=
  ∃ ao c, w.heap[B]? = some (.cells #[.slice ao bs.length c] 112 (0, 0)) ∧ w.ownsRow base 5 1 (.slice ao bs.length c) bs.length (bs.map (Value.int .u8))

theorem cell_one {w : World} {B : Nat} {v : Value} {T : TypeId} (h : w.heap[B]? = some (.cells #[v] T (0, 0))) : w.cell? ⟨B, 0, none⟩ = some v ∧ w.frozen? ⟨B, 0, none⟩ = false := by
  constructor
  · rw [cell_of_row w B 0 _ _ _ h]; rfl
  · exact frozen_of_row w B 0 _ _ h

theorem ta_5_5 (x : Value) (w : World) : (Instr.typeAssert (.iface 5 x) 20 5 true).run Try.prog w = .ok (.tuple #[x, .bool true]) w := by kernel_rfl
theorem ta_75_5 (x : Value) (w : World) : (Instr.typeAssert (.iface 75 x) 20 5 true).run Try.prog w = .ok (.tuple #[.int .u8 0, .bool false]) w := by kernel_rfl
theorem ta_75_75 (x : Value) (w : World) : (Instr.typeAssert (.iface 75 x) 20 75 true).run Try.prog w = .ok (.tuple #[x, .bool true]) w := by kernel_rfl

theorem info5 : (Try.prog.info? 5).map (fun i => (i.zero, i.size, i.bytes)) = some (some (.int .u8 0), 1, 1) := by kernel_rfl

/-- Of the world behind an append to the buffer's own bytes, the buffer's block standing apart. -/
theorem ne_own {w : World} {base B T n : Nat} {v : Value} {xs : List Value} {cells : Array Value} (h : w.ownsRow base 5 1 v n xs) (hB : B < base) : some B ≠ v.ownBlock := by
  intro e
  have := (h.lt B e.symm).1
  omega

theorem own_slice {w : World} {base n : Nat} {v : Value} {xs : List Value} (h : w.ownsRow base 5 1 v n xs) : ∃ A c, v = .slice A n c := by
  rcases h.2 with ⟨rfl, rfl⟩ | ⟨g, cap, cur, rfl, _⟩
  · exact ⟨none, 0, rfl⟩
  · exact ⟨_, cap, rfl⟩

theorem Ex.grown {base B : Nat} {w w' : World} {v : Value} {n : Nat} {xs : List Value} (hs : base ≤ w.heap.size) (ho : w.ownsRow base 5 1 v n xs) (hg : w.grownBy w' v.ownBlock) : Ex base B w w' :=
  ⟨hg.os, hg.tape, hg.output, hg.size, fun k hk _ => hg.block k (by omega) (ne_own (T := 0) (cells := #[]) ho hk)⟩

theorem Ex.alloc {base B : Nat} {w0 w : World} (h : Ex base B w0 w) (hs : base ≤ w.heap.size) (o : Obj) : Ex base B w0 (w.alloc o) :=
  h.trans ⟨rfl, rfl, rfl, by simp, fun k hk _ => Below.heap_alloc _ _ _ (by omega)⟩
theorem Ex.drew {base B : Nat} {w0 w : World} (h : Ex base B w0 w) : Ex base B w0 w.drew := ⟨h.os, h.tape, h.output, h.size, h.block⟩
theorem Ex.setCell {base B : Nat} {w0 w : World} (h : Ex base B w0 w) (j : Nat) (u : Value) : Ex base B w0 (w.setCell ⟨B, j, none⟩ u) :=
  h.trans ⟨rfl, rfl, rfl, by simp [World.setCell], fun k hk hB => Below.heap_setCell _ _ _ _ hB⟩

/-- The new value, stored in the buffer's block. -/
theorem BufAt.stored {base B n : Nat} {w : World} {ao : Option Addr} {c : Nat} {u : Value} {bs : List Int} (hB : B < base) (hn : n = bs.length) (hb : w.heap[B]? = some (.cells #[u] 112 (0, 0)))
    (ho : w.ownsRow base 5 1 (.slice ao n c) n (bs.map (Value.int .u8))) : BufAt base B (w.setCell ⟨B, 0, none⟩ (.slice ao n c)) bs := by
  subst hn
  refine ⟨ao, c, ?_, ?_⟩
  · obtain ⟨hlt, he⟩ := Array.getElem?_eq_some_iff.1 hb
    simp [World.setCell, Array.getElem?_modify, hb]
  · refine ho.kept (row := some B) ⟨rfl, rfl, rfl, by simp [World.setCell], fun k hk hne => Below.heap_setCell _ _ _ _ (fun e => hne (by simp [e]))⟩ (Or.inr ?_)
    exact (ne_own (T := 0) (cells := #[]) ho hB).symm

set_option maxHeartbeats 400000 in
set_option maxRecDepth 100000 in
theorem write_u8 (base B : Nat) (bs : List Int) (x : Int) (w : World) (hB : B < base) (hs : base ≤ w.heap.size) (hl : bs.length ≤ 100) (hbuf : BufAt base B w bs) :
    Calls Try.prog 73 #[.pointer (some ⟨B, 0, none⟩), .iface 5 (.int .u8 x)] w fun e w' => e = .returned (.tuple #[]) ∧ BufAt base B w' (bs ++ [x]) ∧ Ex base B w w' := by
  obtain ⟨ao, c, hb, ho⟩ := hbuf
  have c0 := (cell_one hb).1
  have f0 := (cell_one hb).2
  have HO := Keep.mk ho
  have HB := Keep.mk hb
  clear ho hb
  obtain ⟨i0, hi, hz0, hz1, hz2⟩ := info_parts info5
  have t0 := ta_5_5
  go_enter Try.func73, Try.ntmps73
  go_wp2_with (at_builtin; refine wpList_append_own _ rfl (.tmp 17) (.tmp 19) 40 rfl base 5 i0 (.int .u8 0) 1 1 Try.underlying40 hi hz0 hz1 hz2 rfl (by decide) _ _ _ rfl (HO.out.alloc _) ⟨w.heap.size, 0, none⟩ 1 1 [.int .u8 x] rfl rfl ?c1 ?c2 ?c3 ?c4 ?c5 ?next)
  case c1 => intro j u hj; match j, hj with | 0, hj => simp at hj; subst hj; simp [Addr.add]
  case c2 => intro u hu; simp at hu; subst hu; rfl
  case c3 => unfold maxLen; omega
  case c4 => omega
  case c5 => simp; omega
  case next =>
    intro v' w' hown hgrow _
    obtain ⟨A, c', rfl⟩ := own_slice hown
    have hx : Ex base B w w' := ((Ex.refl base B w).alloc hs _).trans (Ex.grown (by simp; omega) (HO.out.alloc _) hgrow)
    have hb' : w'.heap[B]? = some (.cells #[.slice ao bs.length c] 112 (0, 0)) := by
      rw [hgrow.block B (by simp; omega) (ne_own (T := 0) (cells := #[]) HO.out hB), Below.heap_alloc _ _ _ (by omega)]
      exact HB.out
    have d0 := (cell_one hb').1
    have e0 := (cell_one hb').2
    have H1 := Keep.mk hb'
    have H2 := Keep.mk hx
    have H3 := Keep.mk hown
    clear hb' hx hown hgrow c0 f0 hi hz0 hz1 hz2 t0
    go_wp2
    go_end0
    exact ⟨rfl, BufAt.stored hB (by simp) H1.out (by simpa using H3.out), H2.out.setCell _ _⟩

end Go.Proofs.Ytaanpoankljblaa.BufA
