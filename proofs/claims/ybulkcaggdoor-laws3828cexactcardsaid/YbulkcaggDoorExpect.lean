import Derived.Test.YbulkcaggDoorBad
namespace Go.Proofs.YbulkcaggDoor
open Go.RowKit
set_option linter.unusedVariables false
set_option linter.unusedSimpArgs false

/-- What the law's own statement of the first refusal answers. -/
def expV (nm : ByteArray) (x lo hi : Int) (ok : Bool) : Value := .tuple #[.string nm, .int .i64 x, .int .i64 lo, .int .i64 hi, .bool ok]

section
variable (n f com r id v : Int) (w : World)

set_option maxHeartbeats 1000000 in
theorem expect_n  (h : n < 1 ∨ 64 < n) : Calls Ybad.prog 5 #[.int .i64 n, .int .i64 f, .int .i64 com, .int .i64 r, .int .i64 id, .int .i64 v] w fun e w' => e = .returned (expV { data := #[110] } n 1 64 false) ∧ w' = w := by
  by_cases h8 : n < 1
  · clear h
    go_enter Ybad.func5, Ybad.ntmps5
    go_wp2
    exact bodyPost_ret (v := expV { data := #[110] } n 1 64 false) (by simp [results, Ybad.results5, expV]) rfl ⟨rfl, rfl⟩
  · have h9 : 64 < n := by omega
    clear h
    go_enter Ybad.func5, Ybad.ntmps5
    go_wp2
    exact bodyPost_ret (v := expV { data := #[110] } n 1 64 false) (by simp [results, Ybad.results5, expV]) rfl ⟨rfl, rfl⟩

set_option maxHeartbeats 1000000 in
theorem expect_f (an : ¬ n < 1) (bn : ¬ 64 < n) (h : f < 0 ∨ (n - 1) < f) : Calls Ybad.prog 5 #[.int .i64 n, .int .i64 f, .int .i64 com, .int .i64 r, .int .i64 id, .int .i64 v] w fun e w' => e = .returned (expV { data := #[102] } f 0 (n - 1) false) ∧ w' = w := by
  by_cases h8 : f < 0
  · clear h
    go_enter Ybad.func5, Ybad.ntmps5
    go_wp2
    exact bodyPost_ret (v := expV { data := #[102] } f 0 (n - 1) false) (by simp [results, Ybad.results5, expV]) rfl ⟨rfl, rfl⟩
  · have h9 : (n - 1) < f := by omega
    clear h
    go_enter Ybad.func5, Ybad.ntmps5
    go_wp2
    exact bodyPost_ret (v := expV { data := #[102] } f 0 (n - 1) false) (by simp [results, Ybad.results5, expV]) rfl ⟨rfl, rfl⟩

set_option maxHeartbeats 1000000 in
theorem expect_r (an : ¬ n < 1) (bn : ¬ 64 < n) (af : ¬ f < 0) (bf : ¬ (n - 1) < f) (h : r < 1 ∨ 1000 < r) : Calls Ybad.prog 5 #[.int .i64 n, .int .i64 f, .int .i64 com, .int .i64 r, .int .i64 id, .int .i64 v] w fun e w' => e = .returned (expV { data := #[114, 111, 117, 110, 100, 115] } r 1 1000 false) ∧ w' = w := by
  by_cases h8 : r < 1
  · clear h
    go_enter Ybad.func5, Ybad.ntmps5
    go_wp2
    exact bodyPost_ret (v := expV { data := #[114, 111, 117, 110, 100, 115] } r 1 1000 false) (by simp [results, Ybad.results5, expV]) rfl ⟨rfl, rfl⟩
  · have h9 : 1000 < r := by omega
    clear h
    go_enter Ybad.func5, Ybad.ntmps5
    go_wp2
    exact bodyPost_ret (v := expV { data := #[114, 111, 117, 110, 100, 115] } r 1 1000 false) (by simp [results, Ybad.results5, expV]) rfl ⟨rfl, rfl⟩

set_option maxHeartbeats 1000000 in
theorem expect_com (an : ¬ n < 1) (bn : ¬ 64 < n) (af : ¬ f < 0) (bf : ¬ (n - 1) < f) (ar : ¬ r < 1) (br : ¬ 1000 < r) (h : com < 0 ∨ (n - 1) < com) : Calls Ybad.prog 5 #[.int .i64 n, .int .i64 f, .int .i64 com, .int .i64 r, .int .i64 id, .int .i64 v] w fun e w' => e = .returned (expV { data := #[99, 111, 109, 109, 97, 110, 100, 101, 114] } com 0 (n - 1) false) ∧ w' = w := by
  by_cases h8 : com < 0
  · clear h
    go_enter Ybad.func5, Ybad.ntmps5
    go_wp2
    exact bodyPost_ret (v := expV { data := #[99, 111, 109, 109, 97, 110, 100, 101, 114] } com 0 (n - 1) false) (by simp [results, Ybad.results5, expV]) rfl ⟨rfl, rfl⟩
  · have h9 : (n - 1) < com := by omega
    clear h
    go_enter Ybad.func5, Ybad.ntmps5
    go_wp2
    exact bodyPost_ret (v := expV { data := #[99, 111, 109, 109, 97, 110, 100, 101, 114] } com 0 (n - 1) false) (by simp [results, Ybad.results5, expV]) rfl ⟨rfl, rfl⟩

set_option maxHeartbeats 1000000 in
theorem expect_id (an : ¬ n < 1) (bn : ¬ 64 < n) (af : ¬ f < 0) (bf : ¬ (n - 1) < f) (ar : ¬ r < 1) (br : ¬ 1000 < r) (acom : ¬ com < 0) (bcom : ¬ (n - 1) < com) (h : id < 0 ∨ (n - 1) < id) : Calls Ybad.prog 5 #[.int .i64 n, .int .i64 f, .int .i64 com, .int .i64 r, .int .i64 id, .int .i64 v] w fun e w' => e = .returned (expV { data := #[105, 100] } id 0 (n - 1) false) ∧ w' = w := by
  by_cases h8 : id < 0
  · clear h
    go_enter Ybad.func5, Ybad.ntmps5
    go_wp2
    exact bodyPost_ret (v := expV { data := #[105, 100] } id 0 (n - 1) false) (by simp [results, Ybad.results5, expV]) rfl ⟨rfl, rfl⟩
  · have h9 : (n - 1) < id := by omega
    clear h
    go_enter Ybad.func5, Ybad.ntmps5
    go_wp2
    exact bodyPost_ret (v := expV { data := #[105, 100] } id 0 (n - 1) false) (by simp [results, Ybad.results5, expV]) rfl ⟨rfl, rfl⟩

set_option maxHeartbeats 1000000 in
theorem expect_v (an : ¬ n < 1) (bn : ¬ 64 < n) (af : ¬ f < 0) (bf : ¬ (n - 1) < f) (ar : ¬ r < 1) (br : ¬ 1000 < r) (acom : ¬ com < 0) (bcom : ¬ (n - 1) < com) (aid : ¬ id < 0) (bid : ¬ (n - 1) < id) (h : v < 0 ∨ 1 < v) : Calls Ybad.prog 5 #[.int .i64 n, .int .i64 f, .int .i64 com, .int .i64 r, .int .i64 id, .int .i64 v] w fun e w' => e = .returned (expV { data := #[105, 110, 112, 117, 116] } v 0 1 false) ∧ w' = w := by
  by_cases h8 : v < 0
  · clear h
    go_enter Ybad.func5, Ybad.ntmps5
    go_wp2
    exact bodyPost_ret (v := expV { data := #[105, 110, 112, 117, 116] } v 0 1 false) (by simp [results, Ybad.results5, expV]) rfl ⟨rfl, rfl⟩
  · have h9 : 1 < v := by omega
    clear h
    go_enter Ybad.func5, Ybad.ntmps5
    go_wp2
    exact bodyPost_ret (v := expV { data := #[105, 110, 112, 117, 116] } v 0 1 false) (by simp [results, Ybad.results5, expV]) rfl ⟨rfl, rfl⟩

set_option maxHeartbeats 1000000 in
theorem expect_ok (an : ¬ n < 1) (bn : ¬ 64 < n) (af : ¬ f < 0) (bf : ¬ (n - 1) < f) (ar : ¬ r < 1) (br : ¬ 1000 < r) (acom : ¬ com < 0) (bcom : ¬ (n - 1) < com) (aid : ¬ id < 0) (bid : ¬ (n - 1) < id) (av : ¬ v < 0) (bv : ¬ 1 < v) : Calls Ybad.prog 5 #[.int .i64 n, .int .i64 f, .int .i64 com, .int .i64 r, .int .i64 id, .int .i64 v] w fun e w' => e = .returned (expV { data := #[] } 0 0 0 true) ∧ w' = w := by
  go_enter Ybad.func5, Ybad.ntmps5
  go_wp2
  exact bodyPost_ret (v := expV { data := #[] } 0 0 0 true) (by simp [results, Ybad.results5, expV]) rfl ⟨rfl, rfl⟩
end
end Go.Proofs.YbulkcaggDoor
