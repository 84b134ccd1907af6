/- A bound on how many parts package utf8 cuts a range of runes into, in plain numbers. Condition: the range's ends have bytes. -/
import Derived.Test.YtjeklnbfpehbeaaDoorM05
set_option linter.unusedVariables false
/- A bound on how many parts package utf8 cuts a range of runes into, in plain numbers. Condition: the range's ends have bytes. -/
namespace Go.Proofs.YtjeklnbfpehbeaaDoor

def is (a b : Nat) : Nat := if a < 57344 ∧ 55295 < b then 3 else 0
def i7 (a b : Nat) : Nat := if a ≤ 127 ∧ 127 < b then 3 else 0
def ib (a b : Nat) : Nat := if a ≤ 2047 ∧ 2047 < b then 3 else 0
def ig (a b : Nat) : Nat := if a ≤ 65535 ∧ 65535 < b then 3 else 0
def s6 (a b : Nat) : Nat := if a / 64 ≠ b / 64 ∧ a % 64 ≠ 0 then 1 else 0
def e6 (a b : Nat) : Nat := if a / 64 ≠ b / 64 ∧ b % 64 ≠ 63 then 1 else 0
def s12 (a b : Nat) : Nat := if a / 4096 ≠ b / 4096 ∧ a % 4096 ≠ 0 then 1 else 0
def e12 (a b : Nat) : Nat := if a / 4096 ≠ b / 4096 ∧ b % 4096 ≠ 4095 then 1 else 0
def s18 (a b : Nat) : Nat := if a / 262144 ≠ b / 262144 ∧ a % 262144 ≠ 0 then 1 else 0
def e18 (a b : Nat) : Nat := if a / 262144 ≠ b / 262144 ∧ b % 262144 ≠ 262143 then 1 else 0
/-- How much a range is still to be cut. -/
def rest (a b : Nat) : Nat := is a b + i7 a b + ib a b + ig a b + s6 a b + e6 a b + s12 a b + e12 a b + s18 a b + e18 a b
theorem rest_le (a b : Nat) : rest a b ≤ 18 := by
  have his : is a b ≤ 3 := by unfold is; split <;> omega
  have hi7 : i7 a b ≤ 3 := by unfold i7; split <;> omega
  have hib : ib a b ≤ 3 := by unfold ib; split <;> omega
  have hig : ig a b ≤ 3 := by unfold ig; split <;> omega
  have hs6 : s6 a b ≤ 1 := by unfold s6; split <;> omega
  have he6 : e6 a b ≤ 1 := by unfold e6; split <;> omega
  have hs12 : s12 a b ≤ 1 := by unfold s12; split <;> omega
  have he12 : e12 a b ≤ 1 := by unfold e12; split <;> omega
  have hs18 : s18 a b ≤ 1 := by unfold s18; split <;> omega
  have he18 : e18 a b ≤ 1 := by unfold e18; split <;> omega
  unfold rest; omega

set_option maxHeartbeats 4000000 in
theorem rest_0 {a b : Nat} (h : okRange a b)  (hc : a < 57344 ∧ 55295 < b) : rest a 55295 + rest 57344 b + 1 ≤ rest a b := by
  obtain ⟨⟨ha1, ha2⟩, ⟨hb1, hb2⟩, hab⟩ := h
  have his : is a 55295 + is 57344 b + 3 ≤ is a b := by unfold is; (repeat' split) <;> omega
  have hi7 : i7 a 55295 + i7 57344 b ≤ i7 a b + 0 := by unfold i7; (repeat' split) <;> omega
  have hib : ib a 55295 + ib 57344 b ≤ ib a b + 0 := by unfold ib; (repeat' split) <;> omega
  have hig : ig a 55295 + ig 57344 b ≤ ig a b + 0 := by unfold ig; (repeat' split) <;> omega
  have hs6 : s6 a 55295 + s6 57344 b ≤ s6 a b + 0 := by unfold s6; (repeat' split) <;> omega
  have he6 : e6 a 55295 + e6 57344 b ≤ e6 a b + 0 := by unfold e6; (repeat' split) <;> omega
  have hs12 : s12 a 55295 + s12 57344 b ≤ s12 a b + 0 := by unfold s12; (repeat' split) <;> omega
  have he12 : e12 a 55295 + e12 57344 b ≤ e12 a b + 1 := by unfold e12; (repeat' split) <;> omega
  have hs18 : s18 a 55295 + s18 57344 b ≤ s18 a b + 1 := by unfold s18; (repeat' split) <;> omega
  have he18 : e18 a 55295 + e18 57344 b ≤ e18 a b + 0 := by unfold e18; (repeat' split) <;> omega
  unfold rest; omega

set_option maxHeartbeats 4000000 in
theorem rest_1 {a b : Nat} (h : okRange a b) (n0 : ¬ (a < 57344 ∧ 55295 < b)) (hc : a ≤ 127 ∧ 127 < b) : rest a 127 + rest 128 b + 1 ≤ rest a b := by
  obtain ⟨⟨ha1, ha2⟩, ⟨hb1, hb2⟩, hab⟩ := h
  have his : is a 127 + is 128 b ≤ is a b + 0 := by unfold is; (repeat' split) <;> omega
  have hi7 : i7 a 127 + i7 128 b + 3 ≤ i7 a b := by unfold i7; (repeat' split) <;> omega
  have hib : ib a 127 + ib 128 b ≤ ib a b + 0 := by unfold ib; (repeat' split) <;> omega
  have hig : ig a 127 + ig 128 b ≤ ig a b + 0 := by unfold ig; (repeat' split) <;> omega
  have hs6 : s6 a 127 + s6 128 b ≤ s6 a b + 0 := by unfold s6; (repeat' split) <;> omega
  have he6 : e6 a 127 + e6 128 b ≤ e6 a b + 0 := by unfold e6; (repeat' split) <;> omega
  have hs12 : s12 a 127 + s12 128 b ≤ s12 a b + 1 := by unfold s12; (repeat' split) <;> omega
  have he12 : e12 a 127 + e12 128 b ≤ e12 a b + 0 := by unfold e12; (repeat' split) <;> omega
  have hs18 : s18 a 127 + s18 128 b ≤ s18 a b + 1 := by unfold s18; (repeat' split) <;> omega
  have he18 : e18 a 127 + e18 128 b ≤ e18 a b + 0 := by unfold e18; (repeat' split) <;> omega
  unfold rest; omega

set_option maxHeartbeats 4000000 in
theorem rest_2 {a b : Nat} (h : okRange a b) (n0 : ¬ (a < 57344 ∧ 55295 < b)) (n1 : ¬ (a ≤ 127 ∧ 127 < b)) (hc : a ≤ 2047 ∧ 2047 < b) : rest a 2047 + rest 2048 b + 1 ≤ rest a b := by
  obtain ⟨⟨ha1, ha2⟩, ⟨hb1, hb2⟩, hab⟩ := h
  have his : is a 2047 + is 2048 b ≤ is a b + 0 := by unfold is; (repeat' split) <;> omega
  have hi7 : i7 a 2047 + i7 2048 b ≤ i7 a b + 0 := by unfold i7; (repeat' split) <;> omega
  have hib : ib a 2047 + ib 2048 b + 3 ≤ ib a b := by unfold ib; (repeat' split) <;> omega
  have hig : ig a 2047 + ig 2048 b ≤ ig a b + 0 := by unfold ig; (repeat' split) <;> omega
  have hs6 : s6 a 2047 + s6 2048 b ≤ s6 a b + 0 := by unfold s6; (repeat' split) <;> omega
  have he6 : e6 a 2047 + e6 2048 b ≤ e6 a b + 0 := by unfold e6; (repeat' split) <;> omega
  have hs12 : s12 a 2047 + s12 2048 b ≤ s12 a b + 1 := by unfold s12; (repeat' split) <;> omega
  have he12 : e12 a 2047 + e12 2048 b ≤ e12 a b + 0 := by unfold e12; (repeat' split) <;> omega
  have hs18 : s18 a 2047 + s18 2048 b ≤ s18 a b + 1 := by unfold s18; (repeat' split) <;> omega
  have he18 : e18 a 2047 + e18 2048 b ≤ e18 a b + 0 := by unfold e18; (repeat' split) <;> omega
  unfold rest; omega

set_option maxHeartbeats 4000000 in
theorem rest_3 {a b : Nat} (h : okRange a b) (n0 : ¬ (a < 57344 ∧ 55295 < b)) (n1 : ¬ (a ≤ 127 ∧ 127 < b)) (n2 : ¬ (a ≤ 2047 ∧ 2047 < b)) (hc : a ≤ 65535 ∧ 65535 < b) : rest a 65535 + rest 65536 b + 1 ≤ rest a b := by
  obtain ⟨⟨ha1, ha2⟩, ⟨hb1, hb2⟩, hab⟩ := h
  have his : is a 65535 + is 65536 b ≤ is a b + 0 := by unfold is; (repeat' split) <;> omega
  have hi7 : i7 a 65535 + i7 65536 b ≤ i7 a b + 0 := by unfold i7; (repeat' split) <;> omega
  have hib : ib a 65535 + ib 65536 b ≤ ib a b + 0 := by unfold ib; (repeat' split) <;> omega
  have hig : ig a 65535 + ig 65536 b + 3 ≤ ig a b := by unfold ig; (repeat' split) <;> omega
  have hs6 : s6 a 65535 + s6 65536 b ≤ s6 a b + 0 := by unfold s6; (repeat' split) <;> omega
  have he6 : e6 a 65535 + e6 65536 b ≤ e6 a b + 0 := by unfold e6; (repeat' split) <;> omega
  have hs12 : s12 a 65535 + s12 65536 b ≤ s12 a b + 0 := by unfold s12; (repeat' split) <;> omega
  have he12 : e12 a 65535 + e12 65536 b ≤ e12 a b + 0 := by unfold e12; (repeat' split) <;> omega
  have hs18 : s18 a 65535 + s18 65536 b ≤ s18 a b + 1 := by unfold s18; (repeat' split) <;> omega
  have he18 : e18 a 65535 + e18 65536 b ≤ e18 a b + 0 := by unfold e18; (repeat' split) <;> omega
  unfold rest; omega

set_option maxHeartbeats 4000000 in
theorem rest_4 {a b : Nat} (h : okRange a b) (n0 : ¬ (a < 57344 ∧ 55295 < b)) (n1 : ¬ (a ≤ 127 ∧ 127 < b)) (n2 : ¬ (a ≤ 2047 ∧ 2047 < b)) (n3 : ¬ (a ≤ 65535 ∧ 65535 < b)) (hc : a / 64 ≠ b / 64 ∧ a % 64 ≠ 0) : rest a (64 * (a / 64) + 63) + rest (64 * (a / 64) + 64) b + 1 ≤ rest a b := by
  obtain ⟨⟨ha1, ha2⟩, ⟨hb1, hb2⟩, hab⟩ := h
  have his : is a (64 * (a / 64) + 63) + is (64 * (a / 64) + 64) b ≤ is a b + 0 := by unfold is; (repeat' split) <;> omega
  have hi7 : i7 a (64 * (a / 64) + 63) + i7 (64 * (a / 64) + 64) b ≤ i7 a b + 0 := by unfold i7; (repeat' split) <;> omega
  have hib : ib a (64 * (a / 64) + 63) + ib (64 * (a / 64) + 64) b ≤ ib a b + 0 := by unfold ib; (repeat' split) <;> omega
  have hig : ig a (64 * (a / 64) + 63) + ig (64 * (a / 64) + 64) b ≤ ig a b + 0 := by unfold ig; (repeat' split) <;> omega
  have hs6 : s6 a (64 * (a / 64) + 63) + s6 (64 * (a / 64) + 64) b + 1 ≤ s6 a b := by unfold s6; (repeat' split) <;> omega
  have he6 : e6 a (64 * (a / 64) + 63) + e6 (64 * (a / 64) + 64) b ≤ e6 a b + 0 := by unfold e6; (repeat' split) <;> omega
  have hs12 : s12 a (64 * (a / 64) + 63) + s12 (64 * (a / 64) + 64) b ≤ s12 a b + 0 := by unfold s12; (repeat' split) <;> omega
  have he12 : e12 a (64 * (a / 64) + 63) + e12 (64 * (a / 64) + 64) b ≤ e12 a b + 0 := by unfold e12; (repeat' split) <;> omega
  have hs18 : s18 a (64 * (a / 64) + 63) + s18 (64 * (a / 64) + 64) b ≤ s18 a b + 0 := by unfold s18; (repeat' split) <;> omega
  have he18 : e18 a (64 * (a / 64) + 63) + e18 (64 * (a / 64) + 64) b ≤ e18 a b + 0 := by unfold e18; (repeat' split) <;> omega
  unfold rest; omega

set_option maxHeartbeats 4000000 in
theorem rest_5 {a b : Nat} (h : okRange a b) (n0 : ¬ (a < 57344 ∧ 55295 < b)) (n1 : ¬ (a ≤ 127 ∧ 127 < b)) (n2 : ¬ (a ≤ 2047 ∧ 2047 < b)) (n3 : ¬ (a ≤ 65535 ∧ 65535 < b)) (n4 : ¬ (a / 64 ≠ b / 64 ∧ a % 64 ≠ 0)) (hc : a / 64 ≠ b / 64 ∧ b % 64 ≠ 63) : rest a (64 * (b / 64) - 1) + rest (64 * (b / 64)) b + 1 ≤ rest a b := by
  obtain ⟨⟨ha1, ha2⟩, ⟨hb1, hb2⟩, hab⟩ := h
  have his : is a (64 * (b / 64) - 1) + is (64 * (b / 64)) b ≤ is a b + 0 := by unfold is; (repeat' split) <;> omega
  have hi7 : i7 a (64 * (b / 64) - 1) + i7 (64 * (b / 64)) b ≤ i7 a b + 0 := by unfold i7; (repeat' split) <;> omega
  have hib : ib a (64 * (b / 64) - 1) + ib (64 * (b / 64)) b ≤ ib a b + 0 := by unfold ib; (repeat' split) <;> omega
  have hig : ig a (64 * (b / 64) - 1) + ig (64 * (b / 64)) b ≤ ig a b + 0 := by unfold ig; (repeat' split) <;> omega
  have hs6 : s6 a (64 * (b / 64) - 1) + s6 (64 * (b / 64)) b ≤ s6 a b + 0 := by unfold s6; (repeat' split) <;> omega
  have he6 : e6 a (64 * (b / 64) - 1) + e6 (64 * (b / 64)) b + 1 ≤ e6 a b := by unfold e6; (repeat' split) <;> omega
  have hs12 : s12 a (64 * (b / 64) - 1) + s12 (64 * (b / 64)) b ≤ s12 a b + 0 := by unfold s12; (repeat' split) <;> omega
  have he12 : e12 a (64 * (b / 64) - 1) + e12 (64 * (b / 64)) b ≤ e12 a b + 0 := by unfold e12; (repeat' split) <;> omega
  have hs18 : s18 a (64 * (b / 64) - 1) + s18 (64 * (b / 64)) b ≤ s18 a b + 0 := by unfold s18; (repeat' split) <;> omega
  have he18 : e18 a (64 * (b / 64) - 1) + e18 (64 * (b / 64)) b ≤ e18 a b + 0 := by unfold e18; (repeat' split) <;> omega
  unfold rest; omega

set_option maxHeartbeats 4000000 in
theorem rest_6 {a b : Nat} (h : okRange a b) (n0 : ¬ (a < 57344 ∧ 55295 < b)) (n1 : ¬ (a ≤ 127 ∧ 127 < b)) (n2 : ¬ (a ≤ 2047 ∧ 2047 < b)) (n3 : ¬ (a ≤ 65535 ∧ 65535 < b)) (n4 : ¬ (a / 64 ≠ b / 64 ∧ a % 64 ≠ 0)) (n5 : ¬ (a / 64 ≠ b / 64 ∧ b % 64 ≠ 63)) (hc : a / 4096 ≠ b / 4096 ∧ a % 4096 ≠ 0) : rest a (4096 * (a / 4096) + 4095) + rest (4096 * (a / 4096) + 4096) b + 1 ≤ rest a b := by
  obtain ⟨⟨ha1, ha2⟩, ⟨hb1, hb2⟩, hab⟩ := h
  have his : is a (4096 * (a / 4096) + 4095) + is (4096 * (a / 4096) + 4096) b ≤ is a b + 0 := by unfold is; (repeat' split) <;> omega
  have hi7 : i7 a (4096 * (a / 4096) + 4095) + i7 (4096 * (a / 4096) + 4096) b ≤ i7 a b + 0 := by unfold i7; (repeat' split) <;> omega
  have hib : ib a (4096 * (a / 4096) + 4095) + ib (4096 * (a / 4096) + 4096) b ≤ ib a b + 0 := by unfold ib; (repeat' split) <;> omega
  have hig : ig a (4096 * (a / 4096) + 4095) + ig (4096 * (a / 4096) + 4096) b ≤ ig a b + 0 := by unfold ig; (repeat' split) <;> omega
  have hs6 : s6 a (4096 * (a / 4096) + 4095) + s6 (4096 * (a / 4096) + 4096) b ≤ s6 a b + 0 := by unfold s6; (repeat' split) <;> omega
  have he6 : e6 a (4096 * (a / 4096) + 4095) + e6 (4096 * (a / 4096) + 4096) b ≤ e6 a b + 0 := by unfold e6; (repeat' split) <;> omega
  have hs12 : s12 a (4096 * (a / 4096) + 4095) + s12 (4096 * (a / 4096) + 4096) b + 1 ≤ s12 a b := by unfold s12; (repeat' split) <;> omega
  have he12 : e12 a (4096 * (a / 4096) + 4095) + e12 (4096 * (a / 4096) + 4096) b ≤ e12 a b + 0 := by unfold e12; (repeat' split) <;> omega
  have hs18 : s18 a (4096 * (a / 4096) + 4095) + s18 (4096 * (a / 4096) + 4096) b ≤ s18 a b + 0 := by unfold s18; (repeat' split) <;> omega
  have he18 : e18 a (4096 * (a / 4096) + 4095) + e18 (4096 * (a / 4096) + 4096) b ≤ e18 a b + 0 := by unfold e18; (repeat' split) <;> omega
  unfold rest; omega

set_option maxHeartbeats 4000000 in
theorem rest_7 {a b : Nat} (h : okRange a b) (n0 : ¬ (a < 57344 ∧ 55295 < b)) (n1 : ¬ (a ≤ 127 ∧ 127 < b)) (n2 : ¬ (a ≤ 2047 ∧ 2047 < b)) (n3 : ¬ (a ≤ 65535 ∧ 65535 < b)) (n4 : ¬ (a / 64 ≠ b / 64 ∧ a % 64 ≠ 0)) (n5 : ¬ (a / 64 ≠ b / 64 ∧ b % 64 ≠ 63)) (n6 : ¬ (a / 4096 ≠ b / 4096 ∧ a % 4096 ≠ 0)) (hc : a / 4096 ≠ b / 4096 ∧ b % 4096 ≠ 4095) : rest a (4096 * (b / 4096) - 1) + rest (4096 * (b / 4096)) b + 1 ≤ rest a b := by
  obtain ⟨⟨ha1, ha2⟩, ⟨hb1, hb2⟩, hab⟩ := h
  have his : is a (4096 * (b / 4096) - 1) + is (4096 * (b / 4096)) b ≤ is a b + 0 := by unfold is; (repeat' split) <;> omega
  have hi7 : i7 a (4096 * (b / 4096) - 1) + i7 (4096 * (b / 4096)) b ≤ i7 a b + 0 := by unfold i7; (repeat' split) <;> omega
  have hib : ib a (4096 * (b / 4096) - 1) + ib (4096 * (b / 4096)) b ≤ ib a b + 0 := by unfold ib; (repeat' split) <;> omega
  have hig : ig a (4096 * (b / 4096) - 1) + ig (4096 * (b / 4096)) b ≤ ig a b + 0 := by unfold ig; (repeat' split) <;> omega
  have hs6 : s6 a (4096 * (b / 4096) - 1) + s6 (4096 * (b / 4096)) b ≤ s6 a b + 0 := by unfold s6; (repeat' split) <;> omega
  have he6 : e6 a (4096 * (b / 4096) - 1) + e6 (4096 * (b / 4096)) b ≤ e6 a b + 0 := by unfold e6; (repeat' split) <;> omega
  have hs12 : s12 a (4096 * (b / 4096) - 1) + s12 (4096 * (b / 4096)) b ≤ s12 a b + 0 := by unfold s12; (repeat' split) <;> omega
  have he12 : e12 a (4096 * (b / 4096) - 1) + e12 (4096 * (b / 4096)) b + 1 ≤ e12 a b := by unfold e12; (repeat' split) <;> omega
  have hs18 : s18 a (4096 * (b / 4096) - 1) + s18 (4096 * (b / 4096)) b ≤ s18 a b + 0 := by unfold s18; (repeat' split) <;> omega
  have he18 : e18 a (4096 * (b / 4096) - 1) + e18 (4096 * (b / 4096)) b ≤ e18 a b + 0 := by unfold e18; (repeat' split) <;> omega
  unfold rest; omega

set_option maxHeartbeats 4000000 in
theorem rest_8 {a b : Nat} (h : okRange a b) (n0 : ¬ (a < 57344 ∧ 55295 < b)) (n1 : ¬ (a ≤ 127 ∧ 127 < b)) (n2 : ¬ (a ≤ 2047 ∧ 2047 < b)) (n3 : ¬ (a ≤ 65535 ∧ 65535 < b)) (n4 : ¬ (a / 64 ≠ b / 64 ∧ a % 64 ≠ 0)) (n5 : ¬ (a / 64 ≠ b / 64 ∧ b % 64 ≠ 63)) (n6 : ¬ (a / 4096 ≠ b / 4096 ∧ a % 4096 ≠ 0)) (n7 : ¬ (a / 4096 ≠ b / 4096 ∧ b % 4096 ≠ 4095)) (hc : a / 262144 ≠ b / 262144 ∧ a % 262144 ≠ 0) : rest a (262144 * (a / 262144) + 262143) + rest (262144 * (a / 262144) + 262144) b + 1 ≤ rest a b := by
  obtain ⟨⟨ha1, ha2⟩, ⟨hb1, hb2⟩, hab⟩ := h
  have his : is a (262144 * (a / 262144) + 262143) + is (262144 * (a / 262144) + 262144) b ≤ is a b + 0 := by unfold is; (repeat' split) <;> omega
  have hi7 : i7 a (262144 * (a / 262144) + 262143) + i7 (262144 * (a / 262144) + 262144) b ≤ i7 a b + 0 := by unfold i7; (repeat' split) <;> omega
  have hib : ib a (262144 * (a / 262144) + 262143) + ib (262144 * (a / 262144) + 262144) b ≤ ib a b + 0 := by unfold ib; (repeat' split) <;> omega
  have hig : ig a (262144 * (a / 262144) + 262143) + ig (262144 * (a / 262144) + 262144) b ≤ ig a b + 0 := by unfold ig; (repeat' split) <;> omega
  have hs6 : s6 a (262144 * (a / 262144) + 262143) + s6 (262144 * (a / 262144) + 262144) b ≤ s6 a b + 0 := by unfold s6; (repeat' split) <;> omega
  have he6 : e6 a (262144 * (a / 262144) + 262143) + e6 (262144 * (a / 262144) + 262144) b ≤ e6 a b + 0 := by unfold e6; (repeat' split) <;> omega
  have hs12 : s12 a (262144 * (a / 262144) + 262143) + s12 (262144 * (a / 262144) + 262144) b ≤ s12 a b + 0 := by unfold s12; (repeat' split) <;> omega
  have he12 : e12 a (262144 * (a / 262144) + 262143) + e12 (262144 * (a / 262144) + 262144) b ≤ e12 a b + 0 := by unfold e12; (repeat' split) <;> omega
  have hs18 : s18 a (262144 * (a / 262144) + 262143) + s18 (262144 * (a / 262144) + 262144) b + 1 ≤ s18 a b := by unfold s18; (repeat' split) <;> omega
  have he18 : e18 a (262144 * (a / 262144) + 262143) + e18 (262144 * (a / 262144) + 262144) b ≤ e18 a b + 0 := by unfold e18; (repeat' split) <;> omega
  unfold rest; omega

set_option maxHeartbeats 4000000 in
theorem rest_9 {a b : Nat} (h : okRange a b) (n0 : ¬ (a < 57344 ∧ 55295 < b)) (n1 : ¬ (a ≤ 127 ∧ 127 < b)) (n2 : ¬ (a ≤ 2047 ∧ 2047 < b)) (n3 : ¬ (a ≤ 65535 ∧ 65535 < b)) (n4 : ¬ (a / 64 ≠ b / 64 ∧ a % 64 ≠ 0)) (n5 : ¬ (a / 64 ≠ b / 64 ∧ b % 64 ≠ 63)) (n6 : ¬ (a / 4096 ≠ b / 4096 ∧ a % 4096 ≠ 0)) (n7 : ¬ (a / 4096 ≠ b / 4096 ∧ b % 4096 ≠ 4095)) (n8 : ¬ (a / 262144 ≠ b / 262144 ∧ a % 262144 ≠ 0)) (hc : a / 262144 ≠ b / 262144 ∧ b % 262144 ≠ 262143) : rest a (262144 * (b / 262144) - 1) + rest (262144 * (b / 262144)) b + 1 ≤ rest a b := by
  obtain ⟨⟨ha1, ha2⟩, ⟨hb1, hb2⟩, hab⟩ := h
  have his : is a (262144 * (b / 262144) - 1) + is (262144 * (b / 262144)) b ≤ is a b + 0 := by unfold is; (repeat' split) <;> omega
  have hi7 : i7 a (262144 * (b / 262144) - 1) + i7 (262144 * (b / 262144)) b ≤ i7 a b + 0 := by unfold i7; (repeat' split) <;> omega
  have hib : ib a (262144 * (b / 262144) - 1) + ib (262144 * (b / 262144)) b ≤ ib a b + 0 := by unfold ib; (repeat' split) <;> omega
  have hig : ig a (262144 * (b / 262144) - 1) + ig (262144 * (b / 262144)) b ≤ ig a b + 0 := by unfold ig; (repeat' split) <;> omega
  have hs6 : s6 a (262144 * (b / 262144) - 1) + s6 (262144 * (b / 262144)) b ≤ s6 a b + 0 := by unfold s6; (repeat' split) <;> omega
  have he6 : e6 a (262144 * (b / 262144) - 1) + e6 (262144 * (b / 262144)) b ≤ e6 a b + 0 := by unfold e6; (repeat' split) <;> omega
  have hs12 : s12 a (262144 * (b / 262144) - 1) + s12 (262144 * (b / 262144)) b ≤ s12 a b + 0 := by unfold s12; (repeat' split) <;> omega
  have he12 : e12 a (262144 * (b / 262144) - 1) + e12 (262144 * (b / 262144)) b ≤ e12 a b + 0 := by unfold e12; (repeat' split) <;> omega
  have hs18 : s18 a (262144 * (b / 262144) - 1) + s18 (262144 * (b / 262144)) b ≤ s18 a b + 0 := by unfold s18; (repeat' split) <;> omega
  have he18 : e18 a (262144 * (b / 262144) - 1) + e18 (262144 * (b / 262144)) b + 1 ≤ e18 a b := by unfold e18; (repeat' split) <;> omega
  unfold rest; omega

theorem cut_rest {a b m n : Nat} (h : okRange a b) (hc : cut a b = some (m, n)) : rest a m + rest n b + 1 ≤ rest a b := by
  unfold cut at hc
  split at hc
  · rename_i hc0
    injection hc with hc; injection hc with h1 h2; subst h1; subst h2
    exact rest_0 h  hc0
  rename_i n0
  split at hc
  · rename_i hc0
    injection hc with hc; injection hc with h1 h2; subst h1; subst h2
    exact rest_1 h n0 hc0
  rename_i n1
  split at hc
  · rename_i hc0
    injection hc with hc; injection hc with h1 h2; subst h1; subst h2
    exact rest_2 h n0 n1 hc0
  rename_i n2
  split at hc
  · rename_i hc0
    injection hc with hc; injection hc with h1 h2; subst h1; subst h2
    exact rest_3 h n0 n1 n2 hc0
  rename_i n3
  split at hc
  · cases hc
  split at hc
  · rename_i hc0
    injection hc with hc; injection hc with h1 h2; subst h1; subst h2
    exact rest_4 h n0 n1 n2 n3 hc0
  rename_i n4
  split at hc
  · rename_i hc0
    injection hc with hc; injection hc with h1 h2; subst h1; subst h2
    exact rest_5 h n0 n1 n2 n3 n4 hc0
  rename_i n5
  split at hc
  · rename_i hc0
    injection hc with hc; injection hc with h1 h2; subst h1; subst h2
    exact rest_6 h n0 n1 n2 n3 n4 n5 hc0
  rename_i n6
  split at hc
  · rename_i hc0
    injection hc with hc; injection hc with h1 h2; subst h1; subst h2
    exact rest_7 h n0 n1 n2 n3 n4 n5 n6 hc0
  rename_i n7
  split at hc
  · rename_i hc0
    injection hc with hc; injection hc with h1 h2; subst h1; subst h2
    exact rest_8 h n0 n1 n2 n3 n4 n5 n6 n7 hc0
  rename_i n8
  split at hc
  · rename_i hc0
    injection hc with hc; injection hc with h1 h2; subst h1; subst h2
    exact rest_9 h n0 n1 n2 n3 n4 n5 n6 n7 n8 hc0
  rename_i n9
  cases hc
end Go.Proofs.YtjeklnbfpehbeaaDoor
