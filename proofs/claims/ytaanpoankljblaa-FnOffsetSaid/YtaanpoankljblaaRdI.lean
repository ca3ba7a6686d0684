/- FnParse returns true at every header, every slice behind it, every cut. -/
import Derived.Test.YtaanpoankljblaaRdH
import Derived.Test.YtaanpoankljblaaWorks
namespace Go.Proofs.Ytaanpoankljblaa.RdI
open Go.RowKit Go.Proofs.Ytaanpoankljblaa.RdA Go.Proofs.Ytaanpoankljblaa.RdC Go.Proofs.Ytaanpoankljblaa.RdD Go.Proofs.Ytaanpoankljblaa.RdE Go.Proofs.Ytaanpoankljblaa.RdF Go.Proofs.Ytaanpoankljblaa.FmtA Go.Proofs.Ytaanpoankljblaa.FmtB Go.Proofs.Ytaanpoankljblaa.Proper
set_option linter.unusedVariables false
set_option linter.unusedSimpArgs false

/-- A slice of bytes that came in. -/
def Came (w : World) (A : Option Addr) (len : Nat) (rest : List Int) : Prop :=
  rest.length = len ∧ ∀ ad, A = some ad → ∀ j x, rest[j]? = some x → w.cell? (ad.add j) = some (.int .u8 x) ∧ ad.block < w.heap.size

set_option maxHeartbeats 800000 in
set_option maxRecDepth 100000 in
theorem law_big (h : Value) (A : Option Addr) (len cap : Nat) (n : Int) (hh : ∃ leap version mode stratum poll prec rd disp rid ref orig recv xmit : Int, h = .agg (hdrCells leap version mode stratum poll prec rd disp rid ref orig recv xmit)) (w : World) (hl : 2147483647 < (len : Int)) :
    Calls Try.prog 6 #[h, .slice A len cap, .int .i64 n] w fun e w' => e = .returned (.bool true) ∧ Below w.heap.size w w' := by
  obtain ⟨leap, version, mode, stratum, poll, prec, rd, disp, rid, ref, orig, recv, xmit, rfl⟩ := hh
  unfold hdrCells
  go_enter Try.func6, Try.ntmps6
  go_wp2_with fail
  go_ret
  exact ⟨rfl, alc (Below.refl _ _) _⟩

set_option maxHeartbeats 800000 in
set_option maxRecDepth 100000 in
theorem law_no (leap version mode stratum poll prec rd disp rid ref orig recv xmit : Int) (A : Option Addr) (len cap : Nat) (n : Int) (w : World) (hl : (len : Int) ≤ 2147483647) (hp : properB leap version mode stratum poll prec = false ∨ properB leap version mode stratum poll prec = true ∧ 100 < (len : Int)) :
    Calls Try.prog 6 #[.agg #[.int .i64 leap, .int .i64 version, .int .i64 mode, .int .i64 stratum, .int .i64 poll, .int .i64 prec, .int .u32 rd, .int .u32 disp, .int .u32 rid, .int .u64 ref, .int .u64 orig, .int .u64 recv, .int .u64 xmit], .slice A len cap, .int .i64 n] w
      fun e w' => e = .returned (.bool true) ∧ Below w.heap.size w w' := by
  have HP := Keep.mk hp
  clear hp
  go_enter Try.func6, Try.ntmps6
  go_wp2_with fail
  refine (header_any _ _ _ _ _ _ _ _ _ _ _ _ _ _).mono ?_
  rintro e w1 ⟨rfl, hb1⟩
  have HB1 := Keep.mk (nxt (alc (Below.refl _ _) _) hb1)
  clear hb1
  go_wp2_with fail
  refine (proper_any _ _ _ _ _ _ _ _ _ _ _ _ _ _).mono ?_
  rintro e w2 ⟨rfl, hb2⟩
  have HB2 := Keep.mk (nxt (alc HB1.out _) hb2)
  clear hb2 HB1
  rcases HP.out with h | ⟨h, h100⟩
  · rw [h]
    clear h HP
    go_wp2_with fail
    refine (Works.works_any _).mono ?_
    rintro e w3 ⟨rfl, hb3⟩
    have HB3 := Keep.mk (nxt HB2.out hb3)
    clear hb3
    go_wp2_with fail
    go_ret
    exact ⟨rfl, HB3.out⟩
  · rw [h]
    clear h HP
    go_wp2_with fail
    refine (Works.works_any _).mono ?_
    rintro e w3 ⟨rfl, hb3⟩
    have HB3 := Keep.mk (nxt HB2.out hb3)
    clear hb3
    go_wp2_with fail
    go_ret
    exact ⟨rfl, HB3.out⟩

end Go.Proofs.Ytaanpoankljblaa.RdI
