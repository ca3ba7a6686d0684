/- A region that draws its order, by an invariant over what has come up. -/
import Derived.Test.YtaanpoankljblaaProg
import Derived.WalkKit
import Derived.Orders
import Derived.Below
namespace Go.Proofs.Ytaanpoankljblaa.OrdInv
open Go.RowKit
set_option linter.unusedVariables false

section
variable {P : Program} {ops : Array Oper} {Q : Exit → Act → World → Prop} {md : Region.Mode}

theorem upon_then {o : Oper} {a : Act} {K : Act → World → Prop} {r : Result Next} (h : Oper.upon P o a K (Exit.then K Q) r) : Oper.upon P o a K Q r := by
  cases r with
  | ok n w =>
    cases n with
    | value v => exact h
    | skip => exact h
    | defer d => exact h
    | row r args => exact h
    | enter f args =>
      refine Calls.mono h fun e w'' he => ?_
      cases e with
      | returned v => exact he
      | panicked c => exact he
      | outgrown => exact he
    | _ => exact h
  | halt x w =>
    cases x <;> exact h

theorem wpOp_of_list {i : Nat} {o : Oper} {K : Act → World → Prop} {a : Act} {w : World} (ho : ops[i]? = some o) (h : wpList P ops (Exit.then K Q) [o] a w) : wpOp P ops Q i K a w := by
  unfold wpOp
  rw [ho]
  simp only [wpList] at h
  show if Region.wanted o (yielded ops a.tmps) = true then _ else _
  split
  · rename_i hw
    rw [if_pos hw] at h
    rcases h with h | ⟨h1, h2⟩
    · exact .inl (upon_then h)
    · exact .inr ⟨h1, h2⟩
  · rename_i hw
    rw [if_neg hw] at h
    exact h

/-- How many of the first n hold. -/
def cnt (L : Nat → Bool) : Nat → Nat
  | 0 => 0
  | n + 1 => cnt L n + (if L n = true then 1 else 0)
theorem cnt_le (L : Nat → Bool) : ∀ n, cnt L n ≤ n
  | 0 => Nat.le_refl 0
  | n + 1 => by
    have := cnt_le L n
    simp only [cnt]
    split <;> omega
theorem cnt_full (L : Nat → Bool) : ∀ n, n ≤ cnt L n → ∀ j, j < n → L j = true
  | 0, _, j, hj => by omega
  | n + 1, h, j, hj => by
    have h1 := cnt_le L n
    simp only [cnt] at h
    by_cases hL : L n = true
    · rw [if_pos hL] at h
      by_cases hjn : j = n
      · rw [hjn]; exact hL
      · exact cnt_full L n (by omega) j (by omega)
    · rw [if_neg hL] at h
      omega
theorem cnt_mark (L : Nat → Bool) (k : Nat) (hk : L k = false) : ∀ n, cnt (fun j => j == k || L j) n = cnt L n + (if k < n then 1 else 0)
  | 0 => by simp [cnt]
  | n + 1 => by
    simp only [cnt, cnt_mark L k hk n]
    by_cases hn : n = k
    · subst hn
      simp [hk]
    · have : (n == k) = false := by simp [hn]
      simp only [this, Bool.false_or]
      by_cases hkn : k < n
      · rw [if_pos hkn, if_pos (show k < n + 1 by omega)]; omega
      · rw [if_neg hkn, if_neg (show ¬ k < n + 1 by omega)]; omega

/-- Each operation waits only for such as stand before it. -/
def forward (md : Region.Mode) (ops : Array Oper) : Bool := (List.range ops.size).all fun i => match ops[i]? with
  | some o => o.after.all fun e => !Region.binds md e || decide (e.on < i)
  | none => true
theorem forward_spec (h : forward md ops = true) {i : Nat} {o : Oper} (ho : ops[i]? = some o) : ∀ e ∈ o.after, Region.binds md e = true → e.on < i := by
  unfold forward at h
  rw [List.all_eq_true] at h
  have h1 := h i (List.mem_range.2 (Array.getElem?_eq_some_iff.1 ho).1)
  rw [ho] at h1
  simp only [Array.all_eq_true_iff_forall_mem] at h1
  intro e he hb
  have h2 := h1 e he
  rw [hb] at h2
  simpa using h2

/-- The marks of what has come up. -/
def marks (listed : Array Bool) : Nat → Bool := fun j => listed.getD j false
theorem marks_set {listed : Array Bool} {k : Nat} (hk : k < listed.size) : marks (listed.setIfInBounds k true) = fun j => j == k || marks listed j := by
  funext j
  unfold marks
  by_cases hj : j = k
  · subst hj
    simp [hk]
  · rw [getD_set_ne false (Ne.symm hj)]
    simp [hj]

def InvStep (P : Program) (md : Region.Mode) (ops : Array Oper) (Q : Exit → Act → World → Prop) (Inv : (Nat → Bool) → Act → World → Prop) (k : Nat) (o : Oper) : Prop :=
  ∀ L a w, Inv L a w → L k = false → (∀ e ∈ o.after, Region.binds md e = true → L e.on = true) → wpList P ops (Exit.then (fun a' w' => Inv (fun j => j == k || L j) a' w') Q) [o] a w

theorem wpAny_inv (Inv : (Nat → Bool) → Act → World → Prop) (hf : forward md ops = true) (hs : ∀ k o, ops[k]? = some o → InvStep P md ops Q Inv k o)
    (fin : ∀ L a w, Inv L a w → (∀ j, j < ops.size → L j = true) → Q .normal a w) :
    ∀ (fuel : Nat) (listed : Array Bool) (a : Act) (w : World), listed.size = ops.size → ops.size ≤ fuel + cnt (marks listed) ops.size → Inv (marks listed) a w → wpAny P md ops Q fuel listed a w := by
  have all_of : ∀ (listed : Array Bool), listed.size = ops.size → Region.ready md ops listed = [] → ∀ j, j < ops.size → marks listed j = true := by
    intro listed hsz hr j
    induction j using Nat.strongRecOn with
    | ind j ih =>
      intro hj
      refine Classical.byContradiction fun hn => ?_
      have hmem : j ∈ Region.ready md ops listed := by
        refine mem_ready.2 ⟨?_, ops[j], Array.getElem?_eq_getElem hj, fun e he hb => ?_⟩
        · have hjl : j < listed.size := by omega
          have h1 : marks listed j = false := by simpa using hn
          unfold marks at h1
          simp [hjl] at h1 ⊢
          exact h1
        · have hlt := forward_spec hf (Array.getElem?_eq_getElem hj) e he hb
          exact ih e.on hlt (by omega)
      rw [hr] at hmem
      cases hmem
  intro fuel
  induction fuel with
  | zero =>
    intro listed a w hsz hc hI
    have hall := cnt_full (marks listed) ops.size (by omega)
    refine ⟨?_, fin _ _ _ hI hall⟩
    cases hr : Region.ready md ops listed with
    | nil => rfl
    | cons i is =>
      have hi : i ∈ Region.ready md ops listed := by rw [hr]; simp
      obtain ⟨h0, o, ho, _⟩ := mem_ready.1 hi
      have hlt := (Array.getElem?_eq_some_iff.1 ho).1
      have h1 := hall i hlt
      have hil : i < listed.size := by omega
      unfold marks at h1
      simp [hil] at h0 h1
      rw [h0] at h1
      cases h1
  | succ fuel ih =>
    intro listed a w hsz hc hI
    refine ⟨fun hr => fin _ _ _ hI (all_of listed hsz hr), fun i hi => ?_⟩
    obtain ⟨h0, o, ho, hall⟩ := mem_ready.1 hi
    have hlt := (Array.getElem?_eq_some_iff.1 ho).1
    have hil : i < listed.size := by omega
    have hk : marks listed i = false := by
      unfold marks
      simp [hil] at h0 ⊢
      exact h0
    have hstep := hs i o ho (marks listed) a w hI hk (fun e he hb => hall e he hb)
    rw [← marks_set hil] at hstep
    refine wpOp_mono (fun a' w' h => ih (listed.setIfInBounds i true) a' w' (by simpa using hsz) ?_ h) (wpOp_of_list ho hstep)
    rw [marks_set hil, cnt_mark _ _ hk, if_pos hlt]
    omega

/-- The steps, one for each operation. -/
def InvSteps (P : Program) (md : Region.Mode) (ops : Array Oper) (Q : Exit → Act → World → Prop) (Inv : (Nat → Bool) → Act → World → Prop) : Nat → List Oper → Prop
  | _, [] => True
  | k, o :: os => InvStep P md ops Q Inv k o ∧ InvSteps P md ops Q Inv (k + 1) os
theorem InvSteps.at {Inv : (Nat → Bool) → Act → World → Prop} : ∀ (l : List Oper) (k : Nat), InvSteps P md ops Q Inv k l → ∀ j o, l[j]? = some o → InvStep P md ops Q Inv (k + j) o
  | [], _, _, _, _, h => by simp at h
  | o :: os, k, h, 0, o', ho => by
    obtain rfl : o = o' := by simpa using ho
    exact h.1
  | o :: os, k, h, j + 1, o', ho => by
    have := InvSteps.at os (k + 1) h.2 j o' (by simpa using ho)
    rwa [show k + 1 + j = k + (j + 1) by omega] at this

/-- **A region that draws its order, by an invariant over what has come up.** -/
theorem wp_region_inv {id : Nat} {a : Act} {w : World} (l : List Oper) (hm : P.follows .mixedOrders = true) (Inv : (Nat → Bool) → Act → World → Prop) (hf : forward .any l.toArray = true)
    (h0 : Inv (fun _ => false) a w.drew) (hs : InvSteps P .any l.toArray Q Inv 0 l) (fin : ∀ L a w, Inv L a w → (∀ j, j < l.length → L j = true) → Q .normal a w) : (Code.region id l.toArray true).wp P Q a w := by
  refine wp_region_any hm (wpAny_inv Inv hf ?_ ?_ _ _ _ _ (by simp) (by simp) ?_)
  · intro k o ho
    have := InvSteps.at l 0 hs k o (by simpa using ho)
    rwa [Nat.zero_add] at this
  · intro L a w hI hall
    exact fin L a w hI (by simpa using hall)
  · have : marks (Array.replicate l.toArray.size false) = fun _ => false := by
      funext j
      unfold marks
      simp only [Array.getElem?_replicate, Array.getD_eq_getD_getElem?]
      split <;> rfl
    rw [this]
    exact h0

end
end Go.Proofs.Ytaanpoankljblaa.OrdInv
