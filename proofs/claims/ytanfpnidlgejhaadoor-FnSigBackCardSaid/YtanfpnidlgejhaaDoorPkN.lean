/-
  Numbers of ten bits as bytes: plain arithmetic, no program in sight.
-/
import Derived.Test.YtanfpnidlgejhaaDoorPackN
import Derived.Test.YtanfpnidlgejhaaDoorUnpack
namespace Go.Proofs.YtanfpnidlgejhaaDoor

theorem dn_ten (f : Nat → Int) (hf : ∀ i, i < 256 → 0 ≤ f i ∧ f i < 1024) (i : Nat) (hi : i < 256) (p : Nat) (hp : p = 10 * i) : dn 10 f 256 / 2 ^ p % 1024 = f i := by subst hp; exact dn_div 10 f 256 hf i hi
theorem pb10 (f : Nat → Int) (hf : ∀ i, i < 256 → 0 ≤ f i ∧ f i < 1024) (m : Nat) (hm : m < 64) :
    pby 10 f 256 (5 * m + 0) = f (4 * m) % 256 ∧ pby 10 f 256 (5 * m + 1) = f (4 * m) / 256 + f (4 * m + 1) % 64 * 4 ∧ pby 10 f 256 (5 * m + 2) = f (4 * m + 1) / 64 + f (4 * m + 2) % 16 * 16 ∧ pby 10 f 256 (5 * m + 3) = f (4 * m + 2) / 16 + f (4 * m + 3) % 4 * 64 ∧ pby 10 f 256 (5 * m + 4) = f (4 * m + 3) / 4 := by
  obtain ⟨f00, f01⟩ := hf (4 * m) (by omega)
  obtain ⟨f10, f11⟩ := hf (4 * m + 1) (by omega)
  obtain ⟨f20, f21⟩ := hf (4 * m + 2) (by omega)
  obtain ⟨f30, f31⟩ := hf (4 * m + 3) (by omega)
  have h0 := dn_ten f hf (4 * m) (by omega) (8 * (5 * m) + 0) (by omega)
  rw [div_pow] at h0
  have h1 := dn_ten f hf (4 * m + 1) (by omega) (8 * (5 * m) + 10) (by omega)
  rw [div_pow] at h1
  have h2 := dn_ten f hf (4 * m + 2) (by omega) (8 * (5 * m) + 20) (by omega)
  rw [div_pow] at h2
  have h3 := dn_ten f hf (4 * m + 3) (by omega) (8 * (5 * m) + 30) (by omega)
  rw [div_pow] at h3
  unfold pby
  rw [show 8 * (5 * m + 0) = 8 * (5 * m) + 0 from by omega, div_pow _ (8 * (5 * m)) 0]
  rw [show 8 * (5 * m + 1) = 8 * (5 * m) + 8 from by omega, div_pow _ (8 * (5 * m)) 8]
  rw [show 8 * (5 * m + 2) = 8 * (5 * m) + 16 from by omega, div_pow _ (8 * (5 * m)) 16]
  rw [show 8 * (5 * m + 3) = 8 * (5 * m) + 24 from by omega, div_pow _ (8 * (5 * m)) 24]
  rw [show 8 * (5 * m + 4) = 8 * (5 * m) + 32 from by omega, div_pow _ (8 * (5 * m)) 32]
  generalize dn 10 f 256 / 2 ^ (8 * (5 * m)) = X at *
  generalize f (4 * m) = y0 at *
  generalize f (4 * m + 1) = y1 at *
  generalize f (4 * m + 2) = y2 at *
  generalize f (4 * m + 3) = y3 at *
  simp only [show (2 : Int) ^ 0 = 1 from rfl, show (2 : Int) ^ 8 = 256 from rfl, show (2 : Int) ^ 10 = 1024 from rfl, show (2 : Int) ^ 16 = 65536 from rfl, show (2 : Int) ^ 20 = 1048576 from rfl, show (2 : Int) ^ 24 = 16777216 from rfl, show (2 : Int) ^ 30 = 1073741824 from rfl, show (2 : Int) ^ 32 = 4294967296 from rfl, Int.ediv_one] at *
  refine ⟨?_, ?_, ?_, ?_, ?_⟩ <;> omega
/-- The numbers of ten bits that five bytes tell. -/
theorem ub10 (b : Nat → Int) (m : Nat) (hm : m < 64) (hb : ∀ i, i < 320 → 0 ≤ b i ∧ b i < 256) :
    ubits b 320 10 (4 * m) = b (5 * m) + b (5 * m + 1) % 4 * 256 ∧ ubits b 320 10 (4 * m + 1) = b (5 * m + 1) / 4 + b (5 * m + 2) % 16 * 64 ∧ ubits b 320 10 (4 * m + 2) = b (5 * m + 2) / 16 + b (5 * m + 3) % 64 * 16 ∧ ubits b 320 10 (4 * m + 3) = b (5 * m + 3) / 64 + b (5 * m + 4) * 4 := by
  obtain ⟨b00, b01⟩ := hb (5 * m) (by omega)
  obtain ⟨b10, b11⟩ := hb (5 * m + 1) (by omega)
  obtain ⟨b20, b21⟩ := hb (5 * m + 2) (by omega)
  obtain ⟨b30, b31⟩ := hb (5 * m + 3) (by omega)
  obtain ⟨b40, b41⟩ := hb (5 * m + 4) (by omega)
  have h0 := byte_at b 320 hb (5 * m) 0 (by omega)
  have h1 := byte_at b 320 hb (5 * m) 1 (by omega)
  have h2 := byte_at b 320 hb (5 * m) 2 (by omega)
  have h3 := byte_at b 320 hb (5 * m) 3 (by omega)
  have h4 := byte_at b 320 hb (5 * m) 4 (by omega)
  unfold ubits
  rw [show 10 * (4 * m) = 8 * (5 * m) + 0 from by omega, div_pow _ (8 * (5 * m)) 0]
  rw [show 10 * (4 * m + 1) = 8 * (5 * m) + 10 from by omega, div_pow _ (8 * (5 * m)) 10]
  rw [show 10 * (4 * m + 2) = 8 * (5 * m) + 20 from by omega, div_pow _ (8 * (5 * m)) 20]
  rw [show 10 * (4 * m + 3) = 8 * (5 * m) + 30 from by omega, div_pow _ (8 * (5 * m)) 30]
  generalize dn 8 b 320 / 2 ^ (8 * (5 * m)) = X at *
  simp only [Nat.mul_zero, Nat.mul_one, Nat.add_zero, show (2 : Int) ^ 0 = 1 from rfl, show (2 : Int) ^ 8 = 256 from rfl, show (2 : Int) ^ 10 = 1024 from rfl, show (2 : Int) ^ 20 = 1048576 from rfl, show (2 : Int) ^ 30 = 1073741824 from rfl, show (2 : Int) ^ (8 * 2) = 65536 from rfl, show (2 : Int) ^ (8 * 3) = 16777216 from rfl, show (2 : Int) ^ (8 * 4) = 4294967296 from rfl, Int.ediv_one] at *
  generalize b (5 * m) = y0 at *
  generalize b (5 * m + 1) = y1 at *
  generalize b (5 * m + 2) = y2 at *
  generalize b (5 * m + 3) = y3 at *
  generalize b (5 * m + 4) = y4 at *
  refine ⟨?_, ?_, ?_, ?_⟩ <;> omega
/-- A public key's bytes: 32, and 320 of each polynomial. -/
def pkb (rho : Nat → Int) (T : Nat → Nat → Int) (j : Nat) : Int := if j < 32 then rho j else pby 10 (T ((j - 32) / 320)) 256 ((j - 32) % 320)
theorem pkb_bd (rho : Nat → Int) (T : Nat → Nat → Int) (hr : ∀ i, i < 32 → 0 ≤ rho i ∧ rho i < 256) (j : Nat) : 0 ≤ pkb rho T j ∧ pkb rho T j < 256 := by
  unfold pkb
  split
  · exact hr j (by omega)
  · exact pby_bd _ _ _ _
theorem pkb_at (rho : Nat → Int) (T : Nat → Nat → Int) (r q : Nat) (hq : q < 320) : pkb rho T (32 + 320 * r + q) = pby 10 (T r) 256 q := by
  unfold pkb
  rw [if_neg (by omega), show (32 + 320 * r + q - 32) / 320 = r from by omega, show (32 + 320 * r + q - 32) % 320 = q from by omega]
/-- What was read is written as it was. -/
theorem pkb_back (b : Nat → Int) (K : Nat) (hb : ∀ i, i < 32 + 320 * K → 0 ≤ b i ∧ b i < 256) (j : Nat) (hj : j < 32 + 320 * K) : pkb b (fun r => ubits (fun i => b (32 + 320 * r + i)) 320 10) j = b j := by
  unfold pkb
  split
  · rfl
  · obtain ⟨r, hr⟩ : ∃ r, r = (j - 32) / 320 := ⟨_, rfl⟩
    obtain ⟨q, hq⟩ : ∃ q, q = (j - 32) % 320 := ⟨_, rfl⟩
    rw [← hr, ← hq]
    have e : j = 32 + 320 * r + q := by omega
    have hrK : r < K := by omega
    have h := pby_dig 10 (fun i => b (32 + 320 * r + i)) (fun i hi => hb _ (by omega)) q (by omega)
    rw [← e] at h
    exact h
end Go.Proofs.YtanfpnidlgejhaaDoor
