import Derived.Test.YbulkcaguMake
namespace Go.Proofs.Ybulkcagu
open Go.RowKit
set_option linter.unusedVariables false
set_option linter.unusedSimpArgs false

/-- Numbers that came in. -/
def InK (k : IntKind) (w : World) (a : Option Addr) (f : Nat → Int) (len : Nat) : Prop :=
  len = 0 ∨ ∃ b o, a = some ⟨b, o, none⟩ ∧ b < w.heap.size ∧ ∀ j, j < len → w.cell? ⟨b, o + j, none⟩ = some (.int k (f j))

/-- The nodes' numbers. -/
def txOf (z1 : Nat → Int) (len1 : Nat) (i : Nat) : Int := if i < len1 then z1 i else 1000 + i

/-- What the last two loops read: the path, its nodes, the answer. -/
structure Seen (w : World) (B n m : Nat) (a : Nat → Nat) (f : Nat → Int) (g o g' o' : Nat) : Prop where
  path : ∀ j, j < m → w.cell? ⟨g, o + j, none⟩ = some (.int .i64 (a j : Nat))
  node : ∀ j, j < m → w.cell? ⟨B, a j, none⟩ = some (.pointer (some ⟨nd B (a j), 0, none⟩))
  txn : ∀ j, j < m → w.cell? ⟨nd B (a j), 0, none⟩ = some (.int .i64 (f j))
  res : ∀ j, j < m → w.cell? ⟨g', o' + j, none⟩ = some (.int .i64 (f ((lowTo f (m - 1) + j) % m)))
  last : w.cell? ⟨g', o' + m, none⟩ = some (.int .i64 (f (lowTo f (m - 1))))
  lt : ∀ j, j < m → a j < n
  size : B + n + 2 ≤ w.heap.size
  ltp : g < w.heap.size
  ltr : g' < w.heap.size

theorem Seen.below {w w' : World} {B n m g o g' o' : Nat} {a : Nat → Nat} {f : Nat → Int} (h : Seen w B n m a f g o g' o') (b : Below w.heap.size w w') : Seen w' B n m a f g o g' o' where
  path j hj := (b.cell (p := ⟨g, o + j, none⟩) h.ltp).trans (h.path j hj)
  node j hj := (b.cell (p := ⟨B, a j, none⟩) (by have := h.size; show B < _; omega)).trans (h.node j hj)
  txn j hj := (b.cell (p := ⟨nd B (a j), 0, none⟩) (by have := h.size; have := h.lt j hj; show nd B (a j) < _; unfold nd; omega)).trans (h.txn j hj)
  res j hj := (b.cell (p := ⟨g', o' + j, none⟩) h.ltr).trans (h.res j hj)
  last := (b.cell (p := ⟨g', o' + m, none⟩) h.ltr).trans h.last
  lt := h.lt
  size := Nat.le_trans h.size b.size
  ltp := Nat.lt_of_lt_of_le h.ltp b.size
  ltr := Nat.lt_of_lt_of_le h.ltr b.size

theorem low_step (f : Nat → Int) {j L : Nat} (hj : 1 ≤ j) (hL : lowTo f (j - 1) = L) : lowTo f (j + 1 - 1) = if f j < f L then j else L := by
  obtain ⟨i, rfl⟩ : ∃ i, j = i + 1 := ⟨j - 1, by omega⟩
  rw [Nat.add_sub_cancel] at hL ⊢
  rw [lowTo, hL]

set_option maxRecDepth 100000 in
set_option maxHeartbeats 8000000 in
theorem cycle_main (a0 a1 a2 : Option Addr) (m0 n len1 len2 c0 c1 c2 s3 s4 : Nat) (z0 z1 : Nat → Int) (z2 : Nat → Nat) (w : World) (hn1 : (m0 : Int) + 1 = (n : Int)) (hN : n ≤ 301) (hL2 : len2 ≤ 300)
    (h3 : s3 ≤ 255) (h4 : s4 ≤ 65535) (b0 : ∀ j, j < m0 → -32768 ≤ z0 j ∧ z0 j ≤ 32767) (b1 : ∀ j, j < len1 → -128 ≤ z1 j ∧ z1 j ≤ 127) (b2 : ∀ j, j < len2 → z2 j < 65536)
    (i0 : InK .i16 w a0 z0 m0) (i1 : InK .i8 w a1 z1 len1) (hc2 : len2 ≤ c2) (i2 : InK .u16 w a2 (fun j => (z2 j : Int)) len2) :
    Calls Yba.prog 3 #[.slice a0 m0 c0, .slice a1 len1 c1, .slice a2 len2 c2, .int .u8 (s3 : Int), .int .u16 (s4 : Int)] w fun e w' => e = .returned (.bool true) ∧ Below w.heap.size w w' := by
  have l0 : ¬ (300 : Int) < (m0 : Int) := by omega
  have l2 : ¬ (300 : Int) < (len2 : Int) := by omega
  have mk1 := mk26 n (by omega) w
  have hnp : 0 < n := by omega
  go_enter Yba.func3, Yba.ntmps3
  go_wp2
  go_loopw [13] (fun iv wr => ∃ i : Nat, i ≤ n ∧ iv = .int .i64 i ∧ Mk w wr n i (txOf z1 len1)) (fun iv _ => n - (intOf iv).toNat)
  case atStart => exact ⟨0, Nat.zero_le _, rfl, Mk.start w n _⟩
  case round =>
    clear mk1
    obtain ⟨i, hi, rfl, M⟩ := hrel
    by_cases hlt : i < n
    · have hii : (i : Int) < (n : Int) := by omega
      obtain ⟨u, hu⟩ := M.there i hlt
      have fr := M.plain.free i
      have ltB : w.heap.size < wr.heap.size := by have := M.size; omega
      by_cases h1 : i < len1
      · have hi1 : (i : Int) < (len1 : Int) := by omega
        obtain ⟨b, o, rfl, hb, hcell⟩ : ∃ b o, a1 = some ⟨b, o, none⟩ ∧ b < w.heap.size ∧ ∀ j, j < len1 → w.cell? ⟨b, o + j, none⟩ = some (.int .i8 (z1 j)) := by
          rcases i1 with h | h
          · omega
          · exact h
        have y0 := (M.below.cell (p := ⟨b, o + i, none⟩) hb).trans (hcell i h1)
        have hz := b1 i h1
        have M' := M.step hlt (z1 i) (by simp [txOf, h1])
        rw [World.setCell_alloc_past _ _ _ _ ltB] at M'
        generalize z1 i = x at *
        clear hcell
        go_wp2
        go_roundw
        case rel => exact ⟨i + 1, by omega, by go_num, M'⟩
        case measure => simp [intOf]; omega
      · have hi1 : ¬ (i : Int) < (len1 : Int) := by omega
        have M' := M.step hlt (1000 + (i : Int)) (by simp [txOf, h1])
        rw [World.setCell_alloc_past _ _ _ _ ltB] at M'
        go_wp2
        go_roundw
        case rel => exact ⟨i + 1, by omega, by go_num, M'⟩
        case measure => simp [intOf]; omega
    · obtain rfl : n = i := by omega
      have mk2 := mk33 n n (Nat.le_refl _) (by omega) wr
      have hB : wr.heap.size = nd w.heap.size n := by have := M.size; unfold nd; omega
      have N0 := net_made M
      have P0 := par_made M
      have bl0 := M.below.alloc M.below.size (.cells (zeros n) 3)
      go_wp2
      generalize hW0 : wr.alloc (.cells (zeros n) 3) = wa at *
      go_loopw [16] (fun jv wr => ∃ (j : Nat) (pv : Nat → Int), j ≤ n ∧ jv = .int .i64 j ∧ (∀ k, k < j → pv k = -1) ∧ Below w.heap.size w wr ∧ Net wr w.heap.size n (txOf z1 len1) (fun _ => none) (fun _ => []) (fun _ => .slice none 0 0) ∧ Par wr w.heap.size n pv) (fun jv _ => n - (intOf jv).toNat)
      case atStart => exact ⟨0, _, Nat.zero_le _, rfl, fun k hk => by omega, bl0, N0, P0⟩
      case round =>
        clear N0 P0 bl0 hW0
        obtain ⟨j, pv, hj, rfl, hpv, bl, N1, P1⟩ := hrel
        by_cases hlj : j < n
        · have hji : (j : Int) < (n : Int) := by omega
          have y0 := P1.cell j hlj
          have fr := P1.plain.free j
          have N2 := N1.aside j (.int .i64 (-1))
          have P2 := P1.set j hlj (-1)
          have bl2 := bl.setCell (p := ⟨nd w.heap.size n, j, none⟩) (by show w.heap.size ≤ nd w.heap.size n; unfold nd; omega) (.int .i64 (-1))
          go_wp2
          go_roundw
          case rel => exact ⟨j + 1, _, by omega, by go_num, fun k hk => by by_cases e : k = j <;> simp [e]; exact hpv k (by omega), bl2, N2, P2⟩
          case measure => simp [intOf]; omega
        · obtain rfl : n = j := by omega
          obtain ⟨t, ht⟩ : ∃ t, s3 % n = t := ⟨_, rfl⟩
          obtain ⟨h, hh⟩ : ∃ h, len2 / 2 = h := ⟨_, rfl⟩
          have htn : t < n := by rw [← ht]; exact Nat.mod_lt _ hnp
          have r1 : (s3 : Int) % (n : Int) = (t : Int) := by rw [← ht]; rfl
          have r2 : (len2 : Int) / 2 = (h : Int) := by rw [← hh]; rfl
          have hhl : h ≤ len2 := by omega
          have hhi : (h : Int) ≤ (len2 : Int) := by omega
          have W0 : Wire w wr n t 1 0 (txOf z1 len1) (fun _ => none) (fun _ => none) (fun _ => []) (fun _ => .slice none 0 0) := ⟨bl, N1, P1.same (fun k hk => by rw [hpv k hk]; rfl), fun k _ => .inl ⟨rfl, rfl⟩, fun k _ => by simp, fun k p hp => by simp at hp⟩
          clear N1 P1 hpv bl ht
          have inU : InU wr w.heap.size a2 z2 h := by
            rcases i2 with h0 | ⟨b, o, rfl, hb, hc⟩
            · exact .inl (by omega)
            · exact .inr ⟨b, o, rfl, hb, fun j hj => (W0.below.cell (p := ⟨b, o + j, none⟩) hb).trans (hc j (by omega))⟩
          go_wp2_with fail
          refine (stale_any a2 h c2 z2 0 W0.net hN hnp (by omega) (by omega) W0.len (fun j hj => b2 j (by omega)) inU).mono ?_
          rintro e w1 ⟨rfl, st1, ws1, av1, N1, ln1, sub1⟩
          have W1 := W0.stale st1 N1 ln1 sub1
          rw [Nat.zero_add] at W1
          clear W0 st1 N1 ln1 sub1 inU
          go_wp2
          go_loopw [19] (fun iv wr => ∃ (i : Nat) (nx rq : Nat → Option Nat) (ws : Nat → List (Nat × Nat)) (av : Nat → Value), 1 ≤ i ∧ i ≤ n ∧ iv = .int .i64 i ∧ Wire w wr n t i (h + i) (txOf z1 len1) nx rq ws av) (fun iv _ => n - (intOf iv).toNat)
          case atStart => exact ⟨1, _, _, _, _, Nat.le_refl _, hnp, rfl, ⟨W1.below, W1.net, W1.par, W1.live, fun j hj => by have := W1.len j hj; omega, W1.down⟩⟩
          case round =>
            clear W1
            obtain ⟨i, nx, rq, ws, av, hi1, hin, rfl, W1⟩ := hrel
            by_cases hlt : i < n
            · have hii : (i : Int) < (n : Int) := by omega
              by_cases hit : i = t
              · have hit' : (i : Int) = (t : Int) := by omega
                go_wp2
                go_roundw
                case rel => exact ⟨i + 1, nx, rq, ws, av, by omega, by omega, by go_num, W1.next⟩
                case measure => simp [intOf]; omega
              · have hit' : ¬ (i : Int) = (t : Int) := by omega
                obtain ⟨b, o, rfl, hb, hcell⟩ : ∃ b o, a0 = some ⟨b, o, none⟩ ∧ b < w.heap.size ∧ ∀ j, j < m0 → w.cell? ⟨b, o + j, none⟩ = some (.int .i16 (z0 j)) := by
                  rcases i0 with h | h
                  · omega
                  · exact h
                have y0 := (W1.below.cell (p := ⟨b, o + (i - 1), none⟩) hb).trans (hcell (i - 1) (by omega))
                have hz := b0 (i - 1) (by omega)
                have hi1' : (i : Int) - 1 < (m0 : Int) := by omega
                generalize z0 (i - 1) = x at *
                clear hcell
                by_cases hx : x < 0
                · go_wp2
                  go_roundw
                  case rel => exact ⟨i + 1, nx, rq, ws, av, by omega, by omega, by go_num, W1.next⟩
                  case measure => simp [intOf]; omega
                · obtain ⟨y, rfl⟩ := Int.eq_ofNat_of_zero_le (show 0 ≤ x by omega)
                  obtain ⟨p, hp⟩ : ∃ p, y % i = p := ⟨_, rfl⟩
                  have hpi : p < i := by rw [← hp]; exact Nat.mod_lt _ hi1
                  have r3 : ((y : Int)) % (i : Int) = (p : Int) := by rw [← hp]; rfl
                  have hi0' : ¬ ((i : Int) = 0) := by omega
                  have hpn : p < n := by omega
                  have hpi' : (p : Int) < (n : Int) := by omega
                  have c1 := W1.net.nodes i hlt
                  have c2 := W1.net.nodes p hpn
                  clear hp
                  go_wp2
                  go_region
                  obtain ⟨w1, hw1, hb1, hr1⟩ := req_made wr w.heap.size i p
                  rw [hw1]
                  clear hw1 c1 c2 y0
                  have n1 := W1.net.below hb1
                  have c1 := n1.nodes i hlt
                  have c4 := n1.req i hlt
                  have f4 := n1.free hlt 4
                  have ltB : w.heap.size < w1.heap.size := by have := n1.size; omega
                  have lti := n1.lt hlt
                  have n2 := n1.setReq i wr.heap.size hlt
                  have st2 : Step w.heap.size n wr (w1.setCell ⟨nd w.heap.size i, 4, none⟩ (.pointer (some ⟨wr.heap.size, 0, none⟩))) := (Step.of hb1).trans (Step.set hlt)
                  have hq0 : w.heap.size + n + 2 ≤ wr.heap.size := W1.net.size
                  have hr2 : ReqAt (w1.setCell ⟨nd w.heap.size i, 4, none⟩ (.pointer (some ⟨wr.heap.size, 0, none⟩))) w.heap.size wr.heap.size i p := hr1.kept (by simp [World.setCell]) (Below.heap_setCell _ _ _ _ (by show wr.heap.size ≠ nd w.heap.size i; unfold nd; omega))
                  have hne : ∀ j, j < n → (av j).ownBlock ≠ some wr.heap.size := fun j hj e => by have := ((W1.net.rows j hj).lt e).2; omega
                  go_wp2
                  generalize hW2 : w1.setCell ⟨nd w.heap.size i, 4, none⟩ (.pointer (some ⟨wr.heap.size, 0, none⟩)) = w2 at *
                  clear c1 c4 f4 lti ltB n1 hr1 hb1 hW2
                  have c2 := n2.nodes p hpn
                  have c5 := n2.wait p hpn
                  have ltp := n2.lt hpn
                  have ltB : w.heap.size < w2.heap.size := by have := n2.size; omega
                  obtain ⟨j29, hj0, hj1, hj2, hj3⟩ := info29
                  apply later
                  · intro key
                    go_region_law ((refine step_own_append rfl (.tmp 137) (.tmp 139) 30 rfl (w.heap.size + n + 2) 29 j29 (.pointer none) 8 Yba.underlying30 hj0 hj1 hj2 hj3 rfl (av p) (rowOf (ws p)) (by simp [Act.eval]) ?_ ⟨w2.heap.size, 0, none⟩ (.pointer (some ⟨wr.heap.size, 0, none⟩)) (by simp [Act.eval]) ?_ rfl ?_ rfl ?_ ?_); (exact (n2.rows p hpn).below (((Below.refl w2.heap.size w2).alloc (Nat.le_refl _) _).drew)); (exact lit_news w2 _ _); (rw [rowOf_length]; have := W1.len p hpn; omega); (have := n2.size; simp; omega); (intro v' w3 hown hgrow hrow); (obtain ⟨e1, e2, e3⟩ := push_cell n2 hpn (((Below.refl w2.heap.size w2).alloc (Nat.le_refl _) _).drew) hgrow); (obtain ⟨g1, o1, cap1, hv⟩ := hown.form1); (subst hv))
                    all_goals
                      obtain ⟨nt, st⟩ := push_end2 n2 hpn hlt hq0 hne (((Below.refl w2.heap.size w2).alloc (Nat.le_refl _) _).drew) (hr2.kept (by simp) (Below.heap_alloc _ _ _ hr2.lt)) hgrow hown hrow
                      clear e1 e2 e3 hgrow hrow hown
                      revert w3 g1 o1 cap1
                      exact key.out
                  · intro w3 g1 o1 cap1 nt st
                    generalize w3.setCell ⟨nd w.heap.size p, 5, none⟩ (.slice (some ⟨g1, o1, none⟩) ((rowOf (ws p)).length + 1) cap1) = w4 at *
                    have p4 := (W1.par.step st2).step st
                    have y5 := p4.cell i hlt
                    have f5 := p4.plain.free i
                    have n5 := nt.aside i (.int .i64 (p : Int))
                    have p5 := par_laid (p := p) p4 hlt
                    have bl5 := (W1.below.trans ((st2.trans st).below W1.below.size)).setCell (p := ⟨nd w.heap.size n, i, none⟩) (by show w.heap.size ≤ nd w.heap.size n; unfold nd; omega) (.int .i64 (p : Int))
                    clear nt st p4 c2 c5
                    go_wp2
                    go_roundw
                    case rel => exact ⟨i + 1, _, _, _, _, by omega, by omega, by go_num, ⟨bl5, n5, p5, W1.live.link hpn, push_len W1.len, down_link W1.down hpi hit⟩⟩
                    case measure => simp [intOf]; omega
            · obtain rfl : n = i := by omega
              have hci : (len2 : Int) ≤ (c2 : Int) := by omega
              obtain ⟨a', hif⟩ : ∃ a', (if c2 = h then a2 else Option.map (fun x => x.add h) a2) = a' := ⟨_, rfl⟩
              have inU : InU wr w.heap.size a' (fun j => z2 (h + j)) (len2 - h) := by
                rcases i2 with h0 | ⟨b, o, rfl, hb, hc⟩
                · exact .inl (by omega)
                · by_cases h0 : len2 - h = 0
                  · exact .inl h0
                  · rw [if_neg (by omega)] at hif
                    simp only [Option.map_some, add_at] at hif
                    exact .inr ⟨b, o + h, hif.symm, hb, fun j hj => by rw [Nat.add_assoc]; exact (W1.below.cell (p := ⟨b, o + (h + j), none⟩) hb).trans (hc (h + j) (by omega))⟩
              go_wp2_with fail
              refine (stale_any a' (len2 - h) (c2 - h) (fun j => z2 (h + j)) (h + n) W1.net hN hnp (by omega) (by omega) W1.len (fun j hj => b2 (h + j) (by omega)) inU).mono ?_
              rintro e w1 ⟨rfl, st1, ws1, av1, N1, ln1, sub1⟩
              have W2 := W1.stale st1 N1 ln1 sub1
              clear W1 st1 N1 ln1 sub1 inU hif
              obtain ⟨d, hd⟩ : ∃ d, s4 % n = d := ⟨_, rfl⟩
              have hdn : d < n := by rw [← hd]; exact Nat.mod_lt _ hnp
              have r4 : (s4 : Int) % (n : Int) = (d : Int) := by rw [← hd]; rfl
              have hdi : (d : Int) < (n : Int) := by omega
              have hti : (t : Int) < (n : Int) := by omega
              have c1 := W2.net.nodes t htn
              have c2' := W2.net.nodes d hdn
              clear hd
              generalize htx : txOf z1 len1 = tx at *
              clear htx
              go_wp2
              go_region
              obtain ⟨w2, hw2, hb2, hr2⟩ := req_made w1 w.heap.size t d
              rw [hw2]
              clear hw2 c1 c2'
              have n2 := W2.net.below hb2
              have c1 := n2.nodes t htn
              have c4 := n2.req t htn
              have f4 := n2.free htn 4
              have ltB : w.heap.size < w2.heap.size := by have := n2.size; omega
              have ltt := n2.lt htn
              have n3 := n2.setReq t w1.heap.size htn
              have st3 : Step w.heap.size n w1 (w2.setCell ⟨nd w.heap.size t, 4, none⟩ (.pointer (some ⟨w1.heap.size, 0, none⟩))) := (Step.of hb2).trans (Step.set htn)
              have hq0 : w.heap.size + n + 2 ≤ w1.heap.size := W2.net.size
              have hr3 : ReqAt (w2.setCell ⟨nd w.heap.size t, 4, none⟩ (.pointer (some ⟨w1.heap.size, 0, none⟩))) w.heap.size w1.heap.size t d := hr2.kept (by simp [World.setCell]) (Below.heap_setCell _ _ _ _ (by show w1.heap.size ≠ nd w.heap.size t; unfold nd; omega))
              have hne : ∀ j, j < n → (av j).ownBlock ≠ some w1.heap.size ∨ True := fun j hj => .inr trivial
              have hne1 : ∀ j, j < n → (av1 j).ownBlock ≠ some w1.heap.size := fun j hj e => by have := ((W2.net.rows j hj).lt e).2; omega
              clear hne
              go_wp2
              generalize hW3 : w2.setCell ⟨nd w.heap.size t, 4, none⟩ (.pointer (some ⟨w1.heap.size, 0, none⟩)) = w3 at *
              clear c1 c4 f4 ltt ltB n2 hr2 hb2 hW3
              have c2' := n3.nodes d hdn
              have c5 := n3.wait d hdn
              have ltd := n3.lt hdn
              have ltB : w.heap.size < w3.heap.size := by have := n3.size; omega
              obtain ⟨j29, hj0, hj1, hj2, hj3⟩ := info29
              apply later
              · intro key
                go_region_law ((refine step_own_append rfl (.tmp 183) (.tmp 185) 30 rfl (w.heap.size + n + 2) 29 j29 (.pointer none) 8 Yba.underlying30 hj0 hj1 hj2 hj3 rfl (av1 d) (rowOf (ws1 d)) (by simp [Act.eval]) ?_ ⟨w3.heap.size, 0, none⟩ (.pointer (some ⟨w1.heap.size, 0, none⟩)) (by simp [Act.eval]) ?_ rfl ?_ rfl ?_ ?_); (exact (n3.rows d hdn).below (((Below.refl w3.heap.size w3).alloc (Nat.le_refl _) _).drew)); (exact lit_news w3 _ _); (rw [rowOf_length]; have := W2.len d hdn; omega); (have := n3.size; simp; omega); (intro v' w5 hown hgrow hrow); (obtain ⟨e1, e2, e3⟩ := push_cell n3 hdn (((Below.refl w3.heap.size w3).alloc (Nat.le_refl _) _).drew) hgrow); (obtain ⟨g1, o1, cap1, hv⟩ := hown.form1); (subst hv))
                all_goals
                  obtain ⟨nt, st⟩ := push_end2 n3 hdn htn hq0 hne1 (((Below.refl w3.heap.size w3).alloc (Nat.le_refl _) _).drew) (hr3.kept (by simp) (Below.heap_alloc _ _ _ hr3.lt)) hgrow hown hrow
                  clear e1 e2 e3 hgrow hrow hown
                  revert w5 g1 o1 cap1
                  exact key.out
              · intro w5 g1 o1 cap1 nt st
                generalize w5.setCell ⟨nd w.heap.size d, 5, none⟩ (.slice (some ⟨g1, o1, none⟩) ((rowOf (ws1 d)).length + 1) cap1) = w4 at *
                have p4 := (W2.par.step st3).step st
                have y5 := p4.cell t htn
                have f5 := p4.plain.free t
                have n5 := nt.aside t (.int .i64 (d : Int))
                have p5 := par_laid (p := d) p4 htn
                have bl5 := (W2.below.trans ((st3.trans st).below W2.below.size)).setCell (p := ⟨nd w.heap.size n, t, none⟩) (by show w.heap.size ≤ nd w.heap.size n; unfold nd; omega) (.int .i64 (d : Int))
                have L5 := W2.live.link (i := t) (q := w1.heap.size) hdn
                have F5 : Forest (fun j => if j = t then some d else nx j) n t := ⟨htn, ⟨d, hdn, by simp⟩, fun i p hi hit hp => by simp [hit] at hp; exact (W2.down i p hp).1⟩
                have q5 := (n5.reqs d (w1.heap.size, t) hdn (by simp)).2.2.1
                have m5 := n5.req t htn
                simp only [if_pos, rqv] at m5
                have c6 := n5.nodes t htn
                have c6' := nt.nodes t htn
                have hneB : ¬ nd w.heap.size n = w.heap.size := by unfold nd; omega
                have hneB' : ¬ w.heap.size = nd w.heap.size n := by unfold nd; omega
                have ltB4 : w.heap.size < w4.heap.size := by have := nt.size; omega
                obtain ⟨NX, RQ, WS, AV, n6, L6, F6, P6, hNt, hRt⟩ : ∃ NX RQ WS AV, Net (w4.setCell ⟨nd w.heap.size n, t, none⟩ (.int .i64 (d : Int))) w.heap.size n tx RQ WS AV ∧ Live n NX RQ WS ∧ Forest NX n t ∧ Par (w4.setCell ⟨nd w.heap.size n, t, none⟩ (.int .i64 (d : Int))) w.heap.size n (fun j => pvo (NX j)) ∧ NX t = some d ∧ RQ t = some w1.heap.size := ⟨_, _, _, _, n5, L5, F5, p5, by simp, by simp⟩
                clear nt st p4 c2' c5 n5 L5 F5 p5 m5 W2 n3 hr3 st3 hne1
                go_wp2_with fail
                have blA := (Below.refl (w4.setCell ⟨nd w.heap.size n, t, none⟩ (.int .i64 (d : Int))).heap.size (w4.setCell ⟨nd w.heap.size n, t, none⟩ (.int .i64 (d : Int)))).alloc (Nat.le_refl _) (.cells #[.int .i64 0, .slice none 0 0, .map none, .int .i64 0, .slice none 0 0, .pointer none, .int .i64 0] 50)
                refine (through_any _ (n6.below blA) L6 F6 hN).mono ?_
                rintro e w7 ⟨hb7, hans⟩
                have b7 := blA.trans (hb7.mono blA.size)
                obtain ⟨gv, rfl, hgot⟩ : ∃ gv, e = .returned gv ∧ ((∃ m, Cyc NX t m ∧ Own w7 w.heap.size gv (rot (fun j => tx (it NX t j)) m)) ∨ ((∀ m, ¬ Cyc NX t m) ∧ gv = .slice none 0 0)) := by
                  rcases hans with ⟨m, v, hc, rfl, ho⟩ | ⟨h, rfl⟩
                  · exact ⟨v, rfl, .inl ⟨m, hc, ho.base (Nat.le_trans bl5.size blA.size)⟩⟩
                  · exact ⟨_, rfl, .inr ⟨h, rfl⟩⟩
                have n7 := n6.below b7
                have p7 := P6.below b7
                have q7 := (q5.kept b7.size (b7.block _ q5.lt)).whom
                have bl7 := bl5.trans (b7.mono bl5.size)
                have m7 := n7.req t htn
                rw [hRt] at m7
                simp only [rqv] at m7
                clear b7 hb7 hans blA bl5 q5 n6 P6 c6 c6' y5 f5 ltB4 ltB ltd hRt
                have c7 := n7.nodes t htn
                have c7' := n7.nodes d hdn
                have e1 := fun k => neq29_same (w7.drewN k) ⟨w1.heap.size, 0, none⟩
                have e2 := fun k => neq28_same (w7.drewN k) ⟨nd w.heap.size d, 0, none⟩
                go_wp2_with fail
                go_quiet (fail)
                have bD := below_drewN (Below.refl w7.heap.size w7) nq
                have n8 := n7.below bD
                have p8 := p7.below bD
                have bl8 := bl7.trans (bD.mono bl7.size)
                have hgot8 : (∃ m, Cyc NX t m ∧ Own (w7.drewN nq) w.heap.size gv (rot (fun j => tx (it NX t j)) m)) ∨ ((∀ m, ¬ Cyc NX t m) ∧ gv = .slice none 0 0) := hgot.imp (fun ⟨m, hc, ho⟩ => ⟨m, hc, ho.below bD⟩) id
                clear e1 e2 m7 q7 c7 c7' n7 p7 bl7 hgot bD
                generalize w7.drewN nq = w8 at *
                have y8 := p8.cell t htn
                rw [hNt] at y8
                simp only [pvo] at y8
                have ltp := p8.lt
                go_wp2
                obtain ⟨j3, h30, h31, h32, h33⟩ := info3
                go_loopw [27, 28, 29] (fun pv uv sv wr => ∃ k, Run NX t k ∧ (0 < k → it NX t k ≠ t) ∧ uv = .int .i64 (pvo (NX (it NX t k))) ∧ sv = .int .i64 (k : Nat) ∧ Below w8.heap.size w8 wr ∧ Own wr w8.heap.size pv (arf (fun j => ((it NX t j : Nat) : Int)) (k + 1))) (fun _ _ sv _ => n + 1 - (intOf sv).toNat)
                case atStart => exact ⟨0, ⟨fun j hj => by omega, fun j h0 hj => by omega⟩, fun h => by omega, by rw [show it NX t 0 = t from rfl, hNt]; rfl, rfl, (Below.refl _ _).alloc (Nat.le_refl _) _, own_lit w8 _ _ _ (Nat.le_refl _)⟩
                case round =>
                  clear y8
                  obtain ⟨k, hr, ha, rfl, rfl, bl, own⟩ := hrel
                  cases hnx : NX (it NX t k) with
                  | none =>
                    have no := hr.ends ha hnx
                    obtain rfl : gv = .slice none 0 0 := by
                      rcases hgot8 with ⟨m, hc, _⟩ | ⟨_, h⟩
                      · exact absurd hc (no m)
                      · exact h
                    have hm1 : ¬ (-1 : Int) = (t : Int) := by omega
                    rw [show pvo none = -1 from rfl]
                    have hq : (binOp .eql 33 (.slice none 0 0) (.slice none 0 0)).run Yba.prog wr = .ok (.bool true) wr := Lib.run_eql_slice_nil wr 33 3 none 0 0 0 0 Yba.underlying33
                    go_wp2
                    go_ret
                    exact ⟨rfl, bl8.trans (bl.mono bl8.size)⟩
                  | some p =>
                    have hik : it NX t (k + 1) = p := it_succ hnx
                    have hr' := hr.more ha hnx
                    have hbd := F6.bound k hr'
                    rw [hik] at hbd
                    have hpn : p < n := by omega
                    have hpi : (p : Int) < (n : Int) := by omega
                    rw [show pvo (some p) = (p : Int) from rfl]
                    by_cases hpt : p = t
                    · obtain rfl : t = p := hpt.symm
                      have hc : Cyc NX t (k + 1) := ⟨by omega, hr', hik⟩
                      have hgo : Own w8 w.heap.size gv (rot (fun j => tx (it NX t j)) (k + 1)) := by
                        rcases hgot8 with ⟨m, hm, ho⟩ | ⟨h, _⟩
                        · rw [hm.same hc] at ho; exact ho
                        · exact absurd hc (h _)
                      obtain ⟨g, o, c, hv, hg0, hg1, hgc, hpath⟩ := own.form (by rw [arf_length]; omega)
                      obtain ⟨g', o', c', hv', hg0', hg1', hgc', hres⟩ := hgo.form (by rw [rot_length _ _ hc.pos]; omega)
                      rw [arf_length] at hv hgc
                      rw [rot_length _ _ hc.pos] at hv' hgc'
                      subst hv
                      subst hv'
                      have n9 := n8.below bl
                      obtain ⟨a, ha0⟩ : ∃ a, it NX t = a := ⟨_, rfl⟩
                      obtain ⟨f, hf⟩ : ∃ f : Nat → Int, (fun j => tx (it NX t j)) = f := ⟨_, rfl⟩
                      obtain ⟨m, hm⟩ : ∃ m, k + 1 = m := ⟨_, rfl⟩
                      have hma : m ≤ n := by omega
                      have S0 : Seen wr w.heap.size n m a f g o g' o' := by
                        subst ha0 hf hm
                        have lt := fun j (hj : j < k + 1) => F6.lt_n (hc.run.less (Nat.le_of_lt hj))
                        refine ⟨fun j hj => hpath j _ (arf_at _ hj), fun j hj => n9.nodes _ (lt j hj), fun j hj => n9.txn _ (lt j hj), fun j hj => (bl.cell (p := ⟨g', o' + j, none⟩) hg1').trans (hres j _ (rot_at _ hj)), (bl.cell (p := ⟨g', o' + (k + 1), none⟩) hg1').trans (hres _ _ (rot_last _ hc.pos)), lt, n9.size, hg1, Nat.lt_of_lt_of_le hg1' bl.size⟩
                      have hmp : 1 ≤ m := by omega
                      have bl9 := bl8.trans (bl.mono bl8.size)
                      clear hgo hgot8 hpath hres n9 own hg0 hg1 hg0' hg1' n8 p8 ltp bl bl8 F6 L6 hc hr' hr ha hnx hik hNt ha0 hf
                      rw [hm]
                      clear hm
                      go_wp2
                      go_loopw [30, 31] (fun lv kv wx => ∃ j : Nat, 1 ≤ j ∧ j ≤ m ∧ lv = .int .i64 (lowTo f (j - 1) : Nat) ∧ kv = .int .i64 (j : Nat) ∧ Below w.heap.size w wx ∧ Seen wx w.heap.size n m a f g o g' o') (fun _ kv _ => m - (intOf kv).toNat)
                      case atStart => exact ⟨1, Nat.le_refl _, hmp, rfl, rfl, bl9, S0⟩
                      case round =>
                        clear bl9 S0
                        obtain ⟨j, hj1, hjm, rfl, rfl, bl, S⟩ := hrel
                        obtain ⟨L, hL⟩ : ∃ L, lowTo f (j - 1) = L := ⟨_, rfl⟩
                        have hLj : L < j := by have := lowTo_le f (j - 1); omega
                        rw [hL]
                        by_cases hlt : j < m
                        · have hji : (j : Int) < (m : Int) := by omega
                          have hLi : (L : Int) < (m : Int) := by omega
                          have hLm : L < m := by omega
                          have z1 := S.path j hlt
                          have z2 := S.path L hLm
                          have v1 := S.node j hlt
                          have v2 := S.node L hLm
                          have x1 := S.txn j hlt
                          have x2 := S.txn L hLm
                          have ha1 : ((a j : Nat) : Int) < (n : Int) := by have := S.lt j hlt; omega
                          have ha2 : ((a L : Nat) : Int) < (n : Int) := by have := S.lt L hLm; omega
                          have HS : Hid (lowTo f (j + 1 - 1) = if f j < f L then j else L) := low_step f hj1 hL
                          by_cases hx : f j < f L
                          · go_wp2
                            go_quiet (fail)
                            go_wp2
                            go_roundw
                            case rel => exact ⟨j + 1, by omega, by omega, by rw [HS.out, if_pos hx], by go_num, below_drewN bl _, S.below (below_drewN (Below.refl _ _) _)⟩
                            case measure => simp [intOf]; omega
                          · go_wp2
                            go_quiet (fail)
                            go_wp2
                            go_roundw
                            case rel => exact ⟨j + 1, by omega, by omega, by rw [HS.out, if_neg (by omega)], by go_num, below_drewN bl _, S.below (below_drewN (Below.refl _ _) _)⟩
                            case measure => simp [intOf]; omega
                        · obtain rfl : m = j := by omega
                          have hq : (binOp .eql 33 (.slice (some ⟨g', o', none⟩) (m + 1) c') (.slice none 0 0)).run Yba.prog wr = .ok (.bool false) wr := Lib.run_eql_slice_nil wr 33 3 (some ⟨g', o', none⟩) (m + 1) c' 0 0 Yba.underlying33
                          go_wp2
                          go_loopw [33] (fun kv wx => ∃ j : Nat, j ≤ m ∧ kv = .int .i64 (j : Nat) ∧ Below w.heap.size w wx ∧ Seen wx w.heap.size n m a f g o g' o') (fun kv _ => m - (intOf kv).toNat)
                          case atStart => exact ⟨0, Nat.zero_le _, rfl, bl, S⟩
                          case round =>
                            clear bl S hq
                            obtain ⟨j, hjm, rfl, bl, S⟩ := hrel
                            have hLi : (L : Int) < (m : Int) := by omega
                            by_cases hlt : j < m
                            · have hji : (j : Int) < (m : Int) := by omega
                              have hji' : (j : Int) < (m : Int) + 1 := by omega
                              have hm0 : ¬ (m : Int) = 0 := by omega
                              obtain ⟨r, hr⟩ : ∃ r, (L + j) % m = r := ⟨_, rfl⟩
                              have hrm : r < m := by rw [← hr]; exact Nat.mod_lt _ (by omega)
                              have r6 : ((L : Int) + (j : Int)) % (m : Int) = (r : Int) := by rw [← hr]; rfl
                              have hri : (r : Int) < (m : Int) := by omega
                              have z0 := S.res j hlt
                              rw [hL, hr] at z0
                              have z1 := S.path r hrm
                              have v1 := S.node r hrm
                              have x1 := S.txn r hrm
                              have ha1 : ((a r : Nat) : Int) < (n : Int) := by have := S.lt r hrm; omega
                              clear hr
                              go_wp2
                              go_quiet (fail)
                              go_wp2
                              go_roundw
                              case rel => exact ⟨j + 1, by omega, by go_num, below_drewN bl _, S.below (below_drewN (Below.refl _ _) _)⟩
                              case measure => simp [intOf]; omega
                            · obtain rfl : m = j := by omega
                              have z0 := S.last
                              rw [hL] at z0
                              have z1 := S.path L hLj
                              have v1 := S.node L hLj
                              have x1 := S.txn L hLj
                              have hmi : (m : Int) < (m : Int) + 1 := by omega
                              have ha1 : ((a L : Nat) : Int) < (n : Int) := by have := S.lt L hLj; omega
                              go_wp2
                              go_quiet (fail)
                              go_wp2
                              go_ret
                              exact ⟨rfl, below_drewN bl _⟩
                    · have hpt' : ¬ (p : Int) = (t : Int) := by omega
                      have hp0 : ¬ (p : Int) < 0 := by omega
                      have hkn : ¬ (n : Int) < (k : Int) := by omega
                      have e : arf (fun j => ((it NX t j : Nat) : Int)) (k + 1 + 1) = arf (fun j => ((it NX t j : Nat) : Int)) (k + 1) ++ [.int .i64 (p : Int)] := by rw [arf_succ, ← hik]
                      have hpv := p8.cell p hpn
                      go_wp2_with (at_builtin; refine wpList_own_append rfl _ _ 33 rfl w8.heap.size 3 j3 (.int .i64 0) 8 Yba.underlying33 h30 h31 h32 h33 rfl _ (arf (fun j => ((it NX t j : Nat) : Int)) (k + 1)) rfl (own.below ((Below.refl _ _).alloc (Nat.le_refl _) _)) ⟨wr.heap.size, 0, none⟩ 1 1 [.int .i64 (p : Int)] rfl rfl (lit_news wr _ _) (by intro u hu; simp at hu; subst hu; rfl) (by rw [arf_length]; simp; unfold maxLen; omega) (by rw [arf_length]; simp; omega) (by have := bl.size; simp; omega) ?_)
                      intro v1 w9 own1 grow1 row1
                      have b1 : Below w8.heap.size w8 w9 := (bl.alloc bl.size _).grown grow1 (by have := bl.size; simp; omega) (fun j hj => (own.lt hj).1)
                      rw [← e] at own1
                      have y1 := (b1.cell (p := ⟨nd w.heap.size n, p, none⟩) ltp).trans hpv
                      clear grow1 row1 hpv e
                      go_wp2
                      go_roundw
                      case rel => exact ⟨k + 1, hr', fun _ => by rw [hik]; exact hpt, by rw [hik], by go_num, b1, own1⟩
                      case measure => simp [intOf]; omega
end Go.Proofs.Ybulkcagu
