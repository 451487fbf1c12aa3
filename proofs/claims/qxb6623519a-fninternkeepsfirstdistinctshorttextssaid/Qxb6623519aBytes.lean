/-
  zzBytes (4): it returns a bool, and the world is as it was.
-/
import Derived.Test.Qxb6623519aIns
namespace Go.Proofs.Qxb6623519a
open Go.RowKit

/-- It returned a bool. -/
def IsBool (e : Ending) : Prop := ∃ r, e = .returned (.bool r)

set_option maxRecDepth 100000 in
set_option maxHeartbeats 2000000 in
theorem bytes_any {w : World} {ka : Option Addr} {kn : Nat} {kb : Nat → ByteArray} {ta : Option Addr} {tn : Nat} {va : Nat → Option Addr} {vl vc : Nat → Nat} {tb : Nat → ByteArray} (hI : Ins w ka kn kb ta tn va vl vc tb) (kc tc : Nat) :
    Calls Try.prog 4 #[.slice ka kn kc, .slice ta tn tc] w fun e w' => IsBool e ∧ w' = w := by
  have hkm := hI.kmax
  have htm := hI.tmax
  unfold maxLen at hkm htm
  go_enter Try.func4, Try.ntmps4
  go_wp2
  · go_ret
    exact ⟨⟨_, rfl⟩, rfl⟩
  · go_loop [5, 6] (fun z i => ∃ (k : Nat) (t : Int), k ≤ kn ∧ i = .int .i64 k ∧ z = .int .i64 t ∧ 0 ≤ t ∧ t ≤ 1048576) (fun _ i => kn - (intOf i).toNat)
    case atStart => exact ⟨0, kn, Nat.zero_le _, rfl, rfl, by omega, by omega⟩
    case round =>
      obtain ⟨k, t, hk, rfl, rfl, ht0, ht1⟩ := hrel
      by_cases hlt : k < kn
      · obtain ⟨b, o, s, -, hs, hix, hc0⟩ := hI.key hlt kc
        have hc := hc0 w (Below.refl _ _)
        unfold maxLen at hs
        clear hI hc0
        go_wp2
        · go_ret
          exact ⟨⟨_, rfl⟩, rfl⟩
        · go_ret
          exact ⟨⟨_, rfl⟩, rfl⟩
        · go_round
          case rel => exact ⟨k + 1, _, by omega, by go_num, rfl, by omega, by omega⟩
          case measure => simp [intOf]; omega
      · go_wp2
        · go_ret
          exact ⟨⟨_, rfl⟩, rfl⟩
        · go_ret
          exact ⟨⟨_, rfl⟩, rfl⟩
        · go_loop [5, 7] (fun z i => ∃ (k : Nat) (t : Int), k ≤ tn ∧ i = .int .i64 k ∧ z = .int .i64 t ∧ 0 ≤ t ∧ t ≤ 1048576) (fun _ i => tn - (intOf i).toNat)
          case atStart => exact ⟨0, _, Nat.zero_le _, rfl, rfl, by omega, by omega⟩
          case round =>
            obtain ⟨k, t, hk, rfl, rfl, ht0, ht1⟩ := hrel
            by_cases hlt : k < tn
            · obtain ⟨b, o, v, l, c, s, -, -, -, hl, hix, hc0, -⟩ := hI.text hlt tc
              have hc := hc0 w (Below.refl _ _)
              unfold maxLen at hl
              clear hI hc0
              go_wp2
              · go_ret
                exact ⟨⟨_, rfl⟩, rfl⟩
              · go_ret
                exact ⟨⟨_, rfl⟩, rfl⟩
              · go_round
                case rel => exact ⟨k + 1, _, by omega, by go_num, rfl, by omega, by omega⟩
                case measure => simp [intOf]; omega
            · go_wp2
              go_ret
              exact ⟨⟨_, rfl⟩, rfl⟩
end Go.Proofs.Qxb6623519a
