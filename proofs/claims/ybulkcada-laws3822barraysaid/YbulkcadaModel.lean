import Derived.Test.YbulkcadaU64
namespace Go.Proofs.Ybulkcada
open Go.RowKit
set_option linter.unusedVariables false

/-- What the first k bytes behind place s spell, the greatest first. -/
def horner (z : Nat → Int) (s : Nat) : Nat → Int
  | 0 => 0
  | k + 1 => horner z s k * 256 + z (s + k)

theorem horner_bd (z : Nat → Int) (s : Nat) (hz : ∀ k, k < 16 → 0 ≤ z k ∧ z k ≤ 255) : ∀ k, s + k ≤ 16 → 0 ≤ horner z s k ∧ horner z s k < 256 ^ k
  | 0, _ => by simp [horner]
  | k + 1, h => by
    have ih := horner_bd z s hz k (by omega)
    have hb := hz (s + k) (by omega)
    simp only [horner, Int.pow_succ]
    omega

theorem horner_lt (z : Nat → Int) (s : Nat) (hz : ∀ k, k < 16 → 0 ≤ z k ∧ z k ≤ 255) (k : Nat) (h : s + k ≤ 16) (h7 : k ≤ 7) : 0 ≤ horner z s k ∧ horner z s k < 72057594037927936 := by
  have h1 := horner_bd z s hz k h
  have h2 : (256 : Nat) ^ k ≤ 256 ^ 7 := Nat.pow_le_pow_right (by decide) h7
  have h3 : (256 : Nat) ^ 7 = 72057594037927936 := by decide
  have h4 : (256 : Int) ^ k = ((256 ^ k : Nat) : Int) := by simp
  omega

theorem horner_8 (z : Nat → Int) (s : Nat) : horner z s 8 = be8 (z s) (z (s + 1)) (z (s + 2)) (z (s + 3)) (z (s + 4)) (z (s + 5)) (z (s + 6)) (z (s + 7)) := by
  simp only [horner, be8, Nat.add_zero]
  omega

theorem shl_or (h b : Int) (h0 : 0 ≤ h) (h1 : h < 72057594037927936) (b0 : 0 ≤ b) (b1 : b ≤ 255) : bits .or .u64 (h * 256) b = h * 256 + b := by
  exact bits_join .u64 64 (by decide) wraps_u64 8 (h * 256) b (by omega) (by omega) (by omega) b0 (by omega) (by omega)

set_option maxHeartbeats 1000000 in
theorem model_any (g o c : Nat) (z : Nat → Int) (w : World) (hz : ∀ k, k < 16 → 0 ≤ z k ∧ z k ≤ 255)
    (hc : ∀ k, k < 16 → w.cell? ⟨g, o + k, none⟩ = some (.int .u8 (z k))) :
    Calls Yba.prog 6 #[.slice (some ⟨g, o, none⟩) 16 c] w fun e w' => e = .returned (.tuple #[.int .u64 (horner z 0 8), .int .u64 (horner z 8 8)]) ∧ w' = w := by
  go_enter Yba.func6, Yba.ntmps6
  go_wp2
  go_loop [4, 6] (fun h i => ∃ k : Nat, k ≤ 8 ∧ i = .int .i64 k ∧ h = .int .u64 (horner z 0 k)) (fun _ i => 8 - (intOf i).toNat)
  case atStart => exact ⟨0, by omega, rfl, rfl⟩
  case round =>
    obtain ⟨k, hk, rfl, rfl⟩ := hrel
    by_cases hlt : k < 8
    · have hb := horner_lt z 0 hz k (by omega) (by omega)
      have hzk := hz k (by omega)
      have hck := hc k (by omega)
      have HS : Hid (bits BinOp.or IntKind.u64 (horner z 0 k * 256) (z k) = horner z 0 (k + 1)) := by
        rw [shl_or _ _ hb.1 hb.2 hzk.1 hzk.2]; simp [Hid, horner]
      go_wp2
      go_round
      case rel => exact ⟨k + 1, by omega, by go_num, by rw [HS.out]⟩
      case measure => simp [intOf]; omega
    · obtain rfl : k = 8 := by omega
      go_wp2
      go_loop [5, 7] (fun h i => ∃ k : Nat, k ≤ 8 ∧ i = .int .i64 (8 + k : Nat) ∧ h = .int .u64 (horner z 8 k)) (fun _ i => 16 - (intOf i).toNat)
      case atStart => exact ⟨0, by omega, rfl, rfl⟩
      case round =>
        obtain ⟨k, hk, rfl, rfl⟩ := hrel
        by_cases hlt2 : k < 8
        · have hb := horner_lt z 8 hz k (by omega) (by omega)
          have hzk := hz (8 + k) (by omega)
          have hck := hc (8 + k) (by omega)
          have HS : Hid (bits BinOp.or IntKind.u64 (horner z 8 k * 256) (z (8 + k)) = horner z 8 (k + 1)) := by
            rw [shl_or _ _ hb.1 hb.2 hzk.1 hzk.2]; simp [Hid, horner]
          go_wp2
          go_round
          case rel => exact ⟨k + 1, by omega, by go_num, by rw [HS.out]⟩
          case measure => simp [intOf]; omega
        · obtain rfl : k = 8 := by omega
          go_wp2
          go_ret2
          exact ⟨rfl, rfl⟩
end Go.Proofs.Ybulkcada
