/- impl.try around a function that does not panic. -/
import Derived.Test.YtaanpoankljblaaFmtB
import Derived.Recover
namespace Go.Proofs.Ytaanpoankljblaa.TryA
open Go.RowKit Go.Proofs.Ytaanpoankljblaa.BufA
set_option linter.unusedVariables false
set_option linter.unusedSimpArgs false

theorem catch_idle (p : Addr) (w : World) :
    CallsD Try.prog 69 #[.pointer (some p)] .returning w fun e u' w' => e = .returned (.tuple #[]) ∧ u' = .returning ∧ w' = w := by
  refine callsD_of_wpS Try.func69 rfl fun c₀ cs hu => ?_
  apply wpS_seq
  apply wpS_region
  simp [wpOpsS, go_sem, recoverD, hu, Try.ntmps69, Exit.thenS]
  refine wpS_cond (t := false) (by simp [Act.eval, Array.replicate]) ?_
  simp only [Bool.false_eq_true, if_false]
  refine wpS_of_wp (wp_skip ?_)
  cases c₀
  simp_all [bodyPostS, results, Try.results69]

set_option maxHeartbeats 400000 in
theorem try_format (p q : Value) (b : Bool) (w : World) (R : World → Prop)
    (hf : Keep (Calls Try.prog 50 #[p, q] (w.alloc (.cells #[.bool false] 4)) fun e w' => e = .returned (.bool b) ∧ R w' ∧ w'.heap[w.heap.size]? = some (.cells #[.bool false] 4 (0, 0)))) :
    Calls Try.prog 49 #[.func (.func 50) #[] #[p, q]] w fun e w' => e = .returned (.bool b) ∧ ∃ w1, R w1 ∧ w' = w1.setCell ⟨w.heap.size, 0, none⟩ (.bool b) := by
  have hmf : ∀ (fn : Fn) (first cap : Array Value) (w : World), (Instr.makeFunc fn first cap).run Try.prog w = .ok (.func fn first cap) w := fun _ _ _ _ => rfl
  go_enter_defers Try.func49, Try.ntmps49
  go_wp2_with fail
  refine hf.out.mono ?_
  rintro e w1 ⟨rfl, hr, hc⟩
  have c0 := (cell_of_row w1 w.heap.size 0 _ _ _ hc).trans (show #[Value.bool false][0]? = some (Value.bool false) from rfl)
  have f0 := frozen_of_row w1 w.heap.size 0 _ _ hc
  have HR := Keep.mk hr
  have HC := Keep.mk hc
  clear hr hc
  go_wp2_with fail
  refine leaves_cons (f := 69) (args := #[.pointer (some ⟨w.heap.size, 0, none⟩)]) (by simp) (by simp [go_sem]) ?_
  refine (catch_idle ⟨w.heap.size, 0, none⟩ _).mono ?_
  rintro e u' w'' ⟨rfl, rfl, rfl⟩
  have c1 : (w1.setCell ⟨w.heap.size, 0, none⟩ (.bool b)).cell? ⟨w.heap.size, 0, none⟩ = some (.bool b) := by
    have hc := HC.out
    simp [World.setCell, World.cell?, Array.getElem?_modify, hc]
  simp [Leaves, settle, results, Try.results49, go_sem, c1]
  exact ⟨w1, HR.out, rfl⟩

set_option maxHeartbeats 400000 in
theorem try_parse (p q : Value) (b : Bool) (w : World) (R : World → Prop)
    (hf : Keep (Calls Try.prog 53 #[p, q] (w.alloc (.cells #[.bool false] 4)) fun e w' => e = .returned (.bool b) ∧ R w' ∧ w'.heap[w.heap.size]? = some (.cells #[.bool false] 4 (0, 0)))) :
    Calls Try.prog 49 #[.func (.func 53) #[] #[p, q]] w fun e w' => e = .returned (.bool b) ∧ ∃ w1, R w1 ∧ w' = w1.setCell ⟨w.heap.size, 0, none⟩ (.bool b) := by
  have hmf : ∀ (fn : Fn) (first cap : Array Value) (w : World), (Instr.makeFunc fn first cap).run Try.prog w = .ok (.func fn first cap) w := fun _ _ _ _ => rfl
  go_enter_defers Try.func49, Try.ntmps49
  go_wp2_with fail
  refine hf.out.mono ?_
  rintro e w1 ⟨rfl, hr, hc⟩
  have c0 := (cell_of_row w1 w.heap.size 0 _ _ _ hc).trans (show #[Value.bool false][0]? = some (Value.bool false) from rfl)
  have f0 := frozen_of_row w1 w.heap.size 0 _ _ hc
  have HR := Keep.mk hr
  have HC := Keep.mk hc
  clear hr hc
  go_wp2_with fail
  refine leaves_cons (f := 69) (args := #[.pointer (some ⟨w.heap.size, 0, none⟩)]) (by simp) (by simp [go_sem]) ?_
  refine (catch_idle ⟨w.heap.size, 0, none⟩ _).mono ?_
  rintro e u' w'' ⟨rfl, rfl, rfl⟩
  have c1 : (w1.setCell ⟨w.heap.size, 0, none⟩ (.bool b)).cell? ⟨w.heap.size, 0, none⟩ = some (.bool b) := by
    have hc := HC.out
    simp [World.setCell, World.cell?, Array.getElem?_modify, hc]
  simp [Leaves, settle, results, Try.results49, go_sem, c1]
  exact ⟨w1, HR.out, rfl⟩


end Go.Proofs.Ytaanpoankljblaa.TryA
