/- The bytes of a header, as they lie in memory. -/
import Derived.Test.YtaanpoankljblaaRdD
import Derived.Test.YtaanpoankljblaaFmtC
namespace Go.Proofs.Ytaanpoankljblaa.RdE
open Go.RowKit Go.Proofs.Ytaanpoankljblaa.RdA Go.Proofs.Ytaanpoankljblaa.RdC Go.Proofs.Ytaanpoankljblaa.RdD Go.Proofs.Ytaanpoankljblaa.BufB
set_option linter.unusedVariables false
set_option linter.unusedSimpArgs false

/-- Numbers lie in block g from offset o on. -/
def Lies (w : World) (g o : Nat) (bs : List Int) : Prop := ∀ j x, bs[j]? = some x → w.cell? ⟨g, o + j, none⟩ = some (.int .u8 x)

theorem Lies.left {w : World} {g o : Nat} {a b : List Int} (h : Lies w g o (a ++ b)) : Lies w g o a := fun j x hj => h j x (by
  have := (List.getElem?_eq_some_iff.1 hj).1
  rw [List.getElem?_append_left this]
  exact hj)
theorem Lies.right {w : World} {g o : Nat} {a b : List Int} (h : Lies w g o (a ++ b)) {o' : Nat} (ho : o' = o + a.length) : Lies w g o' b := fun j x hj => by
  subst ho
  have := h (a.length + j) x (by rw [List.getElem?_append_right (by omega)]; simpa using hj)
  rwa [← Nat.add_assoc] at this

theorem hib_get (x : Int) : ∀ (k j : Nat), j < k → (hib x k)[j]? = some (x / 2 ^ (8 * (k - 1 - j)) % 256)
  | 0, _, h => by omega
  | k + 1, 0, _ => rfl
  | k + 1, j + 1, h => by
    have := hib_get x k j (by omega)
    rw [show k + 1 - 1 - (j + 1) = k - 1 - j by omega]
    exact this

theorem Lies.bytes {w : World} {g o k : Nat} {x : Int} (h : Lies w g o (hib x k)) : Bytes w g o k x := fun j hj => h j _ (hib_get x k j hj)
theorem Lies.byte {w : World} {g o : Nat} {x : Int} (h : Lies w g o [x]) (h0 : 0 ≤ x) (h1 : x < 256) : Bytes w g o 1 x := fun j hj => by
  obtain rfl : j = 0 := by omega
  have e : x / 2 ^ (8 * (1 - 1 - 0)) % 256 = x := by omega
  rw [e]
  exact h 0 x rfl

theorem hdr_of {w : World} {g : Nat} {f stratum poll prec rd disp rid ref orig recv xmit : Int} {rest : List Int} (fits : Fits f stratum poll prec rd disp rid ref orig recv xmit)
    (h : Lies w g 0 (FmtA.bytes48 f stratum poll prec rd disp rid ref orig recv xmit ++ rest)) : Hdr w g f stratum poll prec rd disp rid ref orig recv xmit := by
  have l0 := fits.l0
  have u0 := fits.u0
  have l1 := fits.l1
  have u1 := fits.u1
  have h10 := h.left
  unfold FmtA.bytes48 at h10
  have h9 := h10.left
  have h8 := h9.left
  have h7 := h8.left
  have h6 := h7.left
  have h5 := h6.left
  have h4 := h5.left
  have h3 := h4.left
  have h2 := h3.left
  have h1 := h2.left
  have h0 := h1.left
  exact ⟨h0.byte l0 u0, (h1.right (o' := 1) rfl).byte l1 u1, (h2.right (o' := 2) rfl).byte (by omega) (by omega), (h3.right (o' := 3) rfl).byte (by omega) (by omega), (h4.right (o' := 4) (by simp [hib_length])).bytes, (h5.right (o' := 8) (by simp [hib_length])).bytes, (h6.right (o' := 12) (by simp [hib_length])).bytes, (h7.right (o' := 16) (by simp [hib_length])).bytes, (h8.right (o' := 24) (by simp [hib_length])).bytes, (h9.right (o' := 32) (by simp [hib_length])).bytes, (h10.right (o' := 40) (by simp [hib_length])).bytes⟩

end Go.Proofs.Ytaanpoankljblaa.RdE
