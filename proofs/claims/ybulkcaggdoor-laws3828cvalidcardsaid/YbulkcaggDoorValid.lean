import Derived.Test.YbulkcaggDoorOk
namespace Go.Proofs.YbulkcaggDoor
open Go.RowKit
set_option linter.unusedVariables false
set_option linter.unusedSimpArgs false

set_option maxHeartbeats 1000000 in
theorem valid_any (a b c d e g : Nat) (w : World) (hg : Glob w) (h1 : a ≤ 65535) (h2 : b ≤ 65535) (h3 : c ≤ 65535) (h4 : d ≤ 65535) (h5 : e ≤ 65535) (h6 : g ≤ 65535) :
    Calls Ybad.prog 4 #[.int .u16 a, .int .u16 b, .int .u16 c, .int .u16 d, .int .u16 e, .int .u16 g] w fun e w' => e = .returned (.bool true) ∧ Below w.heap.size w w' := by
  obtain ⟨n, hn, n1, n2⟩ : ∃ n : Nat, (1 : Int) + (a : Int) % 64 = (n : Int) ∧ 1 ≤ n ∧ n ≤ 64 := ⟨1 + a % 64, by omega, by omega, by omega⟩
  go_enter Ybad.func4, Ybad.ntmps4
  go_wp2_with fail
  have m : ∀ x : Int, 0 ≤ x % (n : Int) ∧ x % (n : Int) ≤ (n : Int) - 1 := fun x => ⟨Int.emod_nonneg _ (by omega), by have := Int.emod_lt_of_pos x (show (0 : Int) < (n : Int) by omega); omega⟩
  refine (newProcess_ok n (b % n) (d % n) (1 + c % 1000) (e % n) (g % 2) w hg n1 n2 (m _).1 (m _).2 (by omega) (by omega) (m _).1 (m _).2 (m _).1 (m _).2 (by omega) (by omega)).mono ?_
  rintro ev w1 ⟨p, hp, rfl, hpr, hb⟩
  clear m
  go_wp2_with fail
  refine (fresh_any p n (d % n) (1 + c % 1000) (e % n) (g % 2) w1 hpr).mono ?_
  rintro ev w2 ⟨rfl, rfl⟩
  go_wp2
  go_ret
  exact ⟨rfl, hb⟩
end Go.Proofs.YbulkcaggDoor
