/- slices.Clone of bytes. -/
import Derived.Test.YtaanpoankljblaaFmtA
import Derived.Lib.SliceRun
namespace Go.Proofs.Ytaanpoankljblaa.Clone
open Go.RowKit Go.Proofs.Ytaanpoankljblaa.BufA Go.Proofs.Ytaanpoankljblaa.FmtA
set_option linter.unusedVariables false
set_option linter.unusedSimpArgs false

set_option maxHeartbeats 400000 in
set_option maxRecDepth 100000 in
theorem clone_any (g n c : Nat) (bs : List Int) (w : World) (hlen : bs.length = n) (hn : n ≤ 1000) (hg : g < w.heap.size) (hc : ∀ j u, (bs.map (Value.int .u8))[j]? = some u → w.cell? ⟨g, j, none⟩ = some u) :
    Calls Try.prog 51 #[.slice (some ⟨g, 0, none⟩) n c] w fun e w' => ∃ v, e = .returned v ∧ OwnAt w.heap.size w' v bs ∧ Below w.heap.size w w' := by
  have HL := Keep.mk hlen
  have HC := Keep.mk hc
  clear hlen hc
  obtain ⟨i0, hi, hz0, hz1, hz2⟩ := info_parts info5
  have he := fun (W : World) => Lib.run_eql_slice_nil (P := Try.prog) W 40 5 (some ⟨g, 0, none⟩) n c 0 0 Try.underlying40
  go_enter Try.func51, Try.ntmps51
  go_wp2_with (at_builtin; refine wpList_append_own _ rfl (.tmp 5) (.tmp 6) 40 rfl w.heap.size 5 i0 (.int .u8 0) 1 1 Try.underlying40 hi hz0 hz1 hz2 rfl (by decide) (.slice (some ⟨w.heap.size, 0, none⟩) 0 0) 0 [] rfl ?own ⟨g, 0, none⟩ n c (bs.map (Value.int .u8)) rfl ?len ?c1 ?c2 ?c3 ?c4 ?c5 ?next)
  case own => exact World.ownsRow_made w #[] 0 (Nat.le_refl _) (by simp [maxLen]) rfl
  case len => simp [HL.out]
  case c1 =>
    intro j u hj
    have := HC.out j u hj
    rw [show (⟨g, 0, none⟩ : Addr).add j = ⟨g, j, none⟩ by unfold Addr.add; split <;> simp_all]
    exact (World.cell?_alloc_lt w _ ⟨g, j, none⟩ hg).trans this
  case c2 => intro u hu; simp only [List.mem_map] at hu; obtain ⟨x, _, rfl⟩ := hu; rfl
  case c3 => unfold maxLen; omega
  case c4 => omega
  case c5 => simp
  case next =>
    intro v' w' hown hgrow _
    obtain ⟨A, c', rfl⟩ := own_slice hown
    have H1 := Keep.mk hown
    have H2 : Keep (Below w.heap.size w w') := ⟨((Below.refl _ _).alloc (Nat.le_refl _) _).grown hgrow (by simp) (fun k h => by simp [Value.ownBlock] at h; omega)⟩
    clear hown hgrow hi hz0 hz1 hz2 he
    go_wp2
    go_ret
    have hl := HL.out
    subst hl
    exact ⟨_, rfl, ⟨A, c', by simp, H1.out⟩, H2.out⟩
end Go.Proofs.Ytaanpoankljblaa.Clone
