/-
  unicode.is16 and unicode.Is of a sign of ASCII over a table that leads to a row of R16.
-/
import Derived.Test.YtlljphipglgjiaaGreatDoorXmTab
import Derived.Test.YtlljphipglgjiaaGreatDoorXmName
import Derived.Deep.LoopGhost
namespace Go.Proofs.YtlljphipglgjiaaGreatDoor
open Go.RowKit

set_option maxRecDepth 100000 in
set_option maxHeartbeats 400000 in
theorem is16_any (g n K : Nat) (lo hi : Nat → Nat) (c : Nat) (ans : Bool) (w : World) (hc : c < 128) (hK : K < n) (hn : n ≤ 1000) (h18 : 18 < n)
    (hlo : ∀ k, k ≤ K → w.cell? ⟨g, k * 3, none⟩ = some (.int .u16 (lo k))) (hhi : ∀ k, k ≤ K → w.cell? ⟨g, k * 3 + 1, none⟩ = some (.int .u16 (hi k))) (hst : ∀ k, k ≤ K → w.cell? ⟨g, k * 3 + 2, none⟩ = some (.int .u16 1))
    (hlh : ∀ k, k ≤ K → lo k ≤ hi k) (hbel : ∀ k, k < K → hi k < c) (hans : ans = decide (lo K ≤ c)) (hin : lo K ≤ c → c ≤ hi K) :
    Calls Tryz.prog 239 #[.slice (some ⟨g, 0, none⟩) n n, .int .u16 c] w fun e w' => e = .returned (.bool ans) ∧ ∃ k, w.drewN k = w' := by
  have HLO := Lib.hid hlo
  have HHI := Lib.hid hhi
  have HST := Lib.hid hst
  have HLH := Lib.hid hlh
  have HBE := Lib.hid hbel
  have HA := Lib.hid hans
  have HI := Lib.hid hin
  have d1 : decide ((n : Int) ≤ 18) = false := by simp; omega
  have d0 : decide ((c : Int) ≤ 255) = true := by simp; omega
  clear hlo hhi hst hlh hbel hans hin
  go_enter Tryz.func239, Tryz.ntmps239
  go_wp2_with fail
  go_loop [5, 6, 20] (fun _a _b i => ∃ k : Nat, k ≤ K ∧ i = .int .i64 k) (fun _ _ i => n - (intOf i).toNat)
  case atStart => exact ⟨0, Nat.zero_le _, rfl⟩
  case round =>
    obtain ⟨k, hk, rfl⟩ := hrel
    have a0 := HLO.out k hk
    have a1 := HHI.out k hk
    have a2 := HST.out k hk
    have hkn : (k : Int) < n := by omega
    have l1 := HLH.out k hk
    by_cases hkK : k < K
    · have b1 := HBE.out k hkK
      have e1 : decide ((c : Int) < (lo k : Int)) = false := by simp; omega
      have e2 : decide ((c : Int) ≤ (hi k : Int)) = false := by simp; omega
      go_wp2_with fail
      go_round
      case rel => exact ⟨k + 1, by omega, by go_num⟩
      case measure => simp [intOf]; omega
    · obtain rfl : k = K := by omega
      by_cases hin : lo k ≤ c
      · have e1 : decide ((c : Int) < (lo k : Int)) = false := by simp; omega
        have e3 := HI.out hin
        have e2 : decide ((c : Int) ≤ (hi k : Int)) = true := by simp; omega
        have hans : ans = true := by rw [HA.out]; simpa using hin
        have HA' := Lib.hid hans
        clear hans
        go_wp2_with fail
        go_quiet (fail)
        go_wp2_with fail
        go_ret
        exact ⟨ret_bool HA'.out.symm, _, rfl⟩
      · have e1 : decide ((c : Int) < (lo k : Int)) = true := by simp; omega
        have hans : ans = false := by rw [HA.out]; simpa using hin
        have HA' := Lib.hid hans
        clear hans
        go_wp2_with fail
        go_ret
        exact ⟨ret_bool HA'.out.symm, 0, rfl⟩


set_option maxRecDepth 100000 in
set_option maxHeartbeats 400000 in
theorem is_any (t g n K : Nat) (lo hi : Nat → Nat) (c h : Nat) (ans : Bool) (w : World) (hc : c < 128) (hK : K < n) (hn : n ≤ 1000) (h18 : 18 < n) (ht : Blk w t 346 #[.slice (some ⟨g, 0, none⟩) n n, .slice none 0 0, .int .i64 0])
    (hlast : w.cell? ⟨g, (n - 1) * 3 + 1, none⟩ = some (.int .u16 h)) (hch : c ≤ h) (hh : h < 65536)
    (hlo : ∀ k, k ≤ K → w.cell? ⟨g, k * 3, none⟩ = some (.int .u16 (lo k))) (hhi : ∀ k, k ≤ K → w.cell? ⟨g, k * 3 + 1, none⟩ = some (.int .u16 (hi k))) (hst : ∀ k, k ≤ K → w.cell? ⟨g, k * 3 + 2, none⟩ = some (.int .u16 1))
    (hlh : ∀ k, k ≤ K → lo k ≤ hi k) (hbel : ∀ k, k < K → hi k < c) (hans : ans = decide (lo K ≤ c)) (hin : lo K ≤ c → c ≤ hi K) :
    Calls Tryz.prog 215 #[.pointer (some ⟨t, 0, none⟩), .int .i32 c] w fun e w' => e = .returned (.bool ans) ∧ ∃ k, w.drewN k = w' := by
  have H16 : Hid (∀ _k : Nat, Calls Tryz.prog 239 #[.slice (some ⟨g, 0, none⟩) n n, .int .u16 c] w fun e w' => e = .returned (.bool ans) ∧ ∃ j, w.drewN j = w') :=
    Lib.hid fun _ => is16_any g n K lo hi c ans w hc hK hn h18 hlo hhi hst hlh hbel hans hin
  clear hlo hhi hst hlh hbel hans hin
  have hcell := ht.cell
  clear ht
  have hn1 : ((n : Int) - 1).toNat = n - 1 := by omega
  have hn0 : (0 : Int) ≤ (n : Int) - 1 := by omega
  have hd : decide (0 < n) = true := by simp; omega
  go_enter Tryz.func215, Tryz.ntmps215
  go_wp2_with fail
  refine (H16.out 0).mono ?_
  rintro e w1 ⟨rfl, j, rfl⟩
  go_wp2_with fail
  go_ret
  exact ⟨rfl, _, rfl⟩

end Go.Proofs.YtlljphipglgjiaaGreatDoor
