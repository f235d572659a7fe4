import Derived.Test.YbulkcaggDoorOk
import Derived.Test.YbulkcaggDoorAs
namespace Go.Proofs.YbulkcaggDoor
open Go.RowKit
set_option linter.unusedVariables false
set_option linter.unusedSimpArgs false

/-- 'NewProcess', or a check, answers with a range error. -/
theorem size_bad (k : Nat) (n f r : Int) (w : World) (hg : Glob w) (hk : k < 3)
    (hin : ∀ j, j < k → three 1 0 1 j ≤ three n f r j ∧ three n f r j ≤ three 64 (wrap64 (n - 1)) 1000 j) (hout : three n f r k < three 1 0 1 k ∨ three 64 (wrap64 (n - 1)) 1000 k < three n f r k) :
    Calls Ybad.prog 16 #[.int .i64 n, .int .i64 f, .int .i64 r] w fun e w' => ∃ v, e = .returned v ∧ Refuses w (three { data := #[110] } { data := #[102] } { data := #[114, 111, 117, 110, 100, 115] } k) (three n f r k) (three 1 0 1 k) (three 64 (wrap64 (n - 1)) 1000 k) v w' :=
  size_any n f r w hg _ (f_bad k hk hin hout)

theorem process_bad (k : Nat) (n id v : Int) (w : World) (hg : Glob w) (hk : k < 3)
    (hin : ∀ j, j < k → three 1 0 0 j ≤ three n id v j ∧ three n id v j ≤ three 64 (wrap64 (n - 1)) 1 j) (hout : three n id v k < three 1 0 0 k ∨ three 64 (wrap64 (n - 1)) 1 k < three n id v k) :
    Calls Ybad.prog 10 #[.int .i64 n, .int .i64 id, .int .i64 v] w fun e w' => ∃ v', e = .returned v' ∧ Refuses w (three { data := #[110] } { data := #[105, 100] } { data := #[105, 110, 112, 117, 116] } k) (three n id v k) (three 1 0 0 k) (three 64 (wrap64 (n - 1)) 1 k) v' w' :=
  process_any n id v w hg _ (f_bad k hk hin hout)

set_option maxHeartbeats 1000000 in
theorem checkSize_fwd (n f com r : Int) (nm : ByteArray) (x lo hi : Int) (w : World) (h : Calls Ybad.prog 16 #[.int .i64 n, .int .i64 f, .int .i64 r] w fun e w' => ∃ v, e = .returned v ∧ Refuses w nm x lo hi v w') :
    Calls Ybad.prog 9 #[.int .i64 n, .int .i64 f, .int .i64 com, .int .i64 r] w fun e w' => ∃ v, e = .returned v ∧ Refuses w nm x lo hi v w' := by
  have H := hide h
  clear h
  go_enter Ybad.func9, Ybad.ntmps9
  go_wp2_with fail
  refine (unhide H).mono ?_
  clear H
  rintro e w1 ⟨_, rfl, b, hb, rfl, hE, hB⟩
  go_wp2
  go_ret
  exact ⟨_, rfl, b, hb, rfl, hE, hB⟩

set_option maxHeartbeats 1000000 in
theorem checkSize_com (n f com r : Int) (w : World) (hg : Glob w) (h1 : 1 ≤ n) (h2 : n ≤ 64) (h3 : 0 ≤ f) (h4 : f ≤ n - 1) (h5 : 1 ≤ r) (h6 : r ≤ 1000) (h7 : com < 0 ∨ n - 1 < com) :
    Calls Ybad.prog 9 #[.int .i64 n, .int .i64 f, .int .i64 com, .int .i64 r] w fun e w' => ∃ v, e = .returned v ∧ Refuses w { data := #[99, 111, 109, 109, 97, 110, 100, 101, 114] } com 0 (n - 1) v w' := by
  rcases h7 with h7 | h7
  all_goals
    by_cases h8 : com < 0
    all_goals
      first
        | omega
        | (go_enter Ybad.func9, Ybad.ntmps9
           go_wp2_with fail
           refine (size_ok n f r w hg h1 h2 h3 h4 h5 h6).mono ?_
           rintro e w1 ⟨_, rfl, rfl, hb⟩
           go_wp2
           go_ret
           refine ⟨_, rfl, w1.heap.size, hb.size, rfl, ?_, hb.alloc hb.size _⟩
           unfold ErrAt
           rw [heap_alloc_new])

/-- What 'NewProcess' answers where it refuses. -/
def NoProc (w : World) (nm : ByteArray) (x lo hi : Int) (e : Ending) (w' : World) : Prop := ∃ b, w.heap.size ≤ b ∧ e = .returned (.tuple #[.pointer none, .iface 30 (.pointer (some ⟨b, 0, none⟩))]) ∧ ErrAt w' b nm x lo hi ∧ Below w.heap.size w w'

set_option maxHeartbeats 1000000 in
theorem newProcess_bad1 (n f com r id v : Int) (nm : ByteArray) (x lo hi : Int) (w : World) (h : Calls Ybad.prog 9 #[.int .i64 n, .int .i64 f, .int .i64 com, .int .i64 r] w fun e w' => ∃ v, e = .returned v ∧ Refuses w nm x lo hi v w') :
    Calls Ybad.prog 6 #[.int .i64 n, .int .i64 f, .int .i64 com, .int .i64 r, .int .i64 id, .int .i64 v] w fun e w' => NoProc w nm x lo hi e w' := by
  have H := hide h
  clear h
  go_enter Ybad.func6, Ybad.ntmps6
  go_wp2_with fail
  refine (unhide H).mono ?_
  clear H
  rintro e w1 ⟨_, rfl, b, hb, rfl, hE, hB⟩
  go_wp2
  go_ret2
  exact ⟨b, hb, rfl, hE, hB⟩

set_option maxHeartbeats 1000000 in
theorem newProcess_bad2 (n f com r id v : Int) (nm : ByteArray) (x lo hi : Int) (w : World) (hg : Glob w) (h : Calls Ybad.prog 9 #[.int .i64 n, .int .i64 f, .int .i64 com, .int .i64 r] w fun e w' => ∃ v, e = .returned v ∧ NoErr w v w')
    (h2 : ∀ w1, Glob w1 → Calls Ybad.prog 10 #[.int .i64 n, .int .i64 id, .int .i64 v] w1 fun e w' => ∃ v, e = .returned v ∧ Refuses w1 nm x lo hi v w') :
    Calls Ybad.prog 6 #[.int .i64 n, .int .i64 f, .int .i64 com, .int .i64 r, .int .i64 id, .int .i64 v] w fun e w' => NoProc w nm x lo hi e w' := by
  have H := hide h
  have H2 := hide h2
  clear h h2
  go_enter Ybad.func6, Ybad.ntmps6
  go_wp2_with fail
  refine (unhide H).mono ?_
  clear H
  rintro e w1 ⟨_, rfl, rfl, hb⟩
  go_wp2_with fail
  refine (unhide H2 w1 (hg.below hb)).mono ?_
  clear H2
  rintro e w2 ⟨_, rfl, b, hb2, rfl, hE, hB⟩
  go_wp2
  go_ret2
  exact ⟨b, Nat.le_trans hb.size hb2, rfl, hE, hb.trans (hB.mono hb.size)⟩
end Go.Proofs.YbulkcaggDoor
