import Derived.Test.YbulkcaggFix
namespace Go.Proofs.Ybulkcagg
open Go.RowKit
set_option linter.unusedVariables false
set_option linter.unusedSimpArgs false

theorem hide {p : Prop} (h : p) : Hid p := h
theorem unhide {p : Prop} (h : Hid p) : p := h

theorem cell_after {w : World} {C n rd : Nat} {om : Bool} {fa : Int} {av pv : Value} (h : RecvAt w C n rd om fa av pv) :
    w.cell? ⟨C, 1, none⟩ = some (.int .i64 n) ∧ w.cell? ⟨C, 2, none⟩ = some (.int .i64 rd) ∧ w.cell? ⟨C, 6, none⟩ = some (.bool om) ∧ w.cell? ⟨C, 7, none⟩ = some (.int .u64 fa) ∧ w.cell? ⟨C, 9, none⟩ = some av ∧ w.cell? ⟨C, 10, none⟩ = some pv ∧ w.frozen? ⟨C, 10, none⟩ = false :=
  ⟨by rw [h.cell]; rfl, by rw [h.cell]; rfl, by rw [h.cell]; rfl, by rw [h.cell]; rfl, by rw [h.cell]; rfl, by rw [h.cell]; rfl, h.free 10⟩

/-- What holds at the head of each round of 'fix'. -/
def InvO (B C G A g n rd : Nat) (om : Bool) (fa : Int) (zs : List Int) (R : List Int × List Pin × Int) (w : World) (rv lv cv : Value) (wr : World) : Prop :=
  ∃ (p i o : Nat) (av : List Int) (ps : List Pin) (pv : Value) (last : Int), p ≤ n ∧ i ≤ zs.length ∧ (i < zs.length → o = i) ∧ ps.length ≤ p * 256 ∧ rv = .slice (some ⟨G, o, none⟩) (zs.length - i) (zs.length - i) ∧ lv = .int .i64 last ∧ cv = .int .i64 p ∧
    FixSt B C G A g n rd om fa zs w wr av ps pv ∧ outer n fa om rd (n - p) p (zs.drop i) av ps last = R

/-- What holds at the head of each round of the loop over the rounds. -/
def InvI (B C G A g n rd : Nat) (om : Bool) (fa : Int) (zs : List Int) (p : Nat) (av : List Int) (I : List Int × List Pin × Int) (w : World) (rv lv cv : Value) (wr : World) : Prop :=
  ∃ (r i o : Nat) (ps : List Pin) (pv : Value) (last : Int), 1 ≤ r ∧ r ≤ rd + 1 ∧ i ≤ zs.length ∧ (i < zs.length → o = i) ∧ ps.length ≤ p * 256 + (r - 1) ∧ rv = .slice (some ⟨G, o, none⟩) (zs.length - i) (zs.length - i) ∧ lv = .int .i64 last ∧ cv = .int .i64 r ∧
    FixSt B C G A g n rd om fa zs w wr av ps pv ∧ inner n p (rd + 1 - r) r (zs.drop i) ps last = I

set_option maxRecDepth 100000 in
set_option maxHeartbeats 2000000 in
theorem fix_any (B C G A g n rd : Nat) (om : Bool) (fa : Int) (av : List Int) (m cap : Nat) (xs : List Value) (zs : List Int) (k : Nat) (R : List Int × List Pin × Int) (w : World) (hn : n ≤ 64) (hrd : rd ≤ 255) (hL : zs.length ≤ 1024)
    (hr : RecvAt w C n rd om fa (.slice (some ⟨A, 0, none⟩) n n) (.slice (some ⟨g, 0, none⟩) m cap)) (hc : Ints w G zs) (hA : Row w A av) (hav : av.length = n) (hown : w.ownsRow B 29 4 (.slice (some ⟨g, 0, none⟩) m cap) m xs)
    (ap : Apart B C G A g w) (hk : (zs.length = k ∧ zs.length ≤ n) ∨ (n = k ∧ n < zs.length)) (hR : Hid (outer n fa om rd n 0 (zs.drop k) (List.replicate n 0) [] 0 = R)) :
    Calls Yba.prog 4 #[.pointer (some ⟨C, 0, none⟩), .slice (some ⟨G, 0, none⟩) zs.length zs.length] w fun e w' => FixPost B C G A g n rd om fa zs k R w e w' := by
  obtain ⟨c1, _, _, _, c9, c10, f10⟩ := cell_after hr
  obtain ⟨w1, hcl, hA1, hk1⟩ := run_clear w A av hA 0
  rw [hav] at hcl hA1
  have hr1 := hr.kept hk1 ap.ca
  obtain ⟨e1, _, _, _, e9, e10, ef10⟩ := cell_after hr1
  have st0 : FixSt B C G A g n rd om fa zs w (w1.setCell ⟨C, 10, none⟩ (.slice (some ⟨g, 0, none⟩) 0 cap)) (List.replicate n 0) [] (.slice (some ⟨g, 0, none⟩) 0 cap) := by
    have own1 : w1.ownsRow B 29 4 (.slice (some ⟨g, 0, none⟩) 0 cap) 0 [] := by
      have o1 := hown.kept (row := some A) (w' := w1) ⟨hk1.os, hk1.tape, hk1.output, hk1.size, fun k hk hne => hk1.block k hk (fun e => hne (by rw [e]))⟩ (.inr (by simp [Value.ownBlock, ap.gA]))
      refine ⟨by simp, ?_⟩
      rcases o1.2 with ⟨h, _⟩ | ⟨g', cap', cur, hv, hb, hh, h1, h2, h3, _⟩
      · simp at h
      · simp only [Value.slice.injEq, Option.some.injEq, Addr.mk.injEq, and_true, true_and] at hv
        obtain ⟨rfl, rfl⟩ := hv
        exact .inr ⟨g, cap, cur, rfl, hb, hh, Nat.zero_le _, h2, h3, by simp⟩
    have kp1 : Kept (fun k => k = C ∨ k = A ∨ k = g) w w1 := hk1.mono (fun _ _ h => .inr (.inl h))
    exact ⟨hr1.set _, hA1.kept ((Kept.refl (fun k => k = C) w1).setCell ⟨C, 10, none⟩ (fun _ => rfl) _) (fun e => ap.ca e.symm), by simp, own1.kept (grownBy_setCell w1 C 10 _) (.inr (by simp [Value.ownBlock, ap.gC])),
      fun k hk => .inl (by simpa [Value.ownBlock] using hk.symm), kp1.setCell _ (fun _ => .inl rfl) _⟩
  obtain ⟨d1, _⟩ := cell_after st0.recv
  rcases hk with ⟨rfl, hlt⟩ | ⟨rfl, hlt⟩
  all_goals
    go_enter Yba.func4, Yba.ntmps4
    go_wp2
    generalize w1.setCell ⟨C, 10, none⟩ (.slice (some ⟨g, 0, none⟩) 0 cap) = W1 at *
    clear c1 c9 c10 f10 hcl hk1 hr1 e1 e9 e10 ef10 hr hown hA1 hA hav d1
    go_loopw [7, 8, 40] (fun rv lv cv wr => InvO B C G A g n rd om fa zs R w rv lv cv wr) (fun _ _ cv _ => n - (intOf cv).toNat)
    case atStart => first | exact ⟨0, zs.length, 0, _, [], _, 0, Nat.zero_le _, Nat.le_refl _, fun h => by omega, by simp, by rw [Nat.sub_self], rfl, rfl, st0, hR.out⟩ | exact ⟨0, n, n, _, [], _, 0, Nat.zero_le _, by omega, fun _ => rfl, by simp, rfl, rfl, rfl, st0, hR.out⟩
    case round =>
      clear st0 hR
      obtain ⟨p, i, o, av, ps, pv, last, hp, hi, ho, hps, rfl, rfl, rfl, st, hRR⟩ := hrel
      have HO : Hid (i < zs.length → o = i) := ho
      have HR : Hid (outer n fa om rd (n - p) p (zs.drop i) av ps last = R) := hRR
      clear ho hRR
      obtain ⟨c1, c2, c6, c7, c9, c10, f10⟩ := cell_after st.recv
      by_cases hpn : p < n
      · have HF : Hid (n - p = (n - p - 1) + 1 ∧ n - (p + 1) = n - p - 1) := ⟨by omega, by omega⟩
        cases hb : bitB fa p
        · have HN : Hid (outer n fa om rd (n - (p + 1)) (p + 1) (zs.drop i) av ps last = R) := by
            have := HR.out
            rw [HF.out.1, outer_skip _ _ _ _ _ _ _ _ _ _ hb] at this
            rw [HF.out.2]; exact this
          go_wp2_with fail
          refine (has_any fa p _ (by omega)).mono ?_
          rintro e w2 ⟨rfl, rfl⟩
          go_wp2
          go_roundw
          case rel => exact ⟨p + 1, i, o, av, ps, pv, last, by omega, hi, HO.out, by omega, rfl, rfl, by go_num, st, HN.out⟩
          case measure => simp [intOf]; omega
        · cases om
          · by_cases hil : i < zs.length
            · obtain rfl : o = i := HO.out hil
              clear HO
              obtain ⟨J, HJ⟩ : ∃ J, Hid (picks p n 0 (zs.drop (o + 1)) 0 0 = J) := ⟨_, rfl⟩
              have HN : Hid (outer n fa false rd (n - (p + 1)) (p + 1) J.1 (av.set p (wrap64 (nth zs o + 1))) (ps ++ [⟨p, wrap64 (nth zs o + 1), J.2.1, J.2.2⟩]) (mx last (wrap64 (nth zs o + 1))) = R) := by
                have := HR.out
                rw [HF.out.1, drop_at hil, outer_cr _ _ _ _ _ _ _ _ _ _ hb J HJ.out] at this
                rw [HF.out.2]; exact this
              clear HR
              have cz : wr.cell? ⟨G, o, none⟩ = some (.int .i64 (nth zs o)) := (st.ints ap hc).2 o hil
              have ca : wr.cell? ⟨A, p, none⟩ = some (.int .i64 (nth av p)) := st.row.ints.2 p (by rw [st.len]; exact hpn)
              have fa1 := st.row.free p
              have hpos : 0 < zs.length - o := by omega
              have hpi : (p : Int) < (n : Int) := by omega
              go_wp2_with fail
              refine (has_any fa p _ (by omega)).mono ?_
              rintro e w2 ⟨rfl, rfl⟩
              go_wp2
              have st4 := st.setAt ap p hpn (wrap64 (nth zs o + 1))
              obtain ⟨_, _, _, _, k9, _, _⟩ := cell_after st4.recv
              have ka : (w2.setCell ⟨A, p, none⟩ (.int .i64 (wrap64 (nth zs o + 1)))).cell? ⟨A, p, none⟩ = some (.int .i64 (wrap64 (nth zs o + 1))) := World.cell?_setCell_same _ _ _ ca
              have hpin := fun wx hx1 hx2 hx3 hx4 => pin_any B C G n rd false fa (.slice (some ⟨A, 0, none⟩) n n) pv ps zs p (wrap64 (nth zs o + 1)) (o + 1) (if zs.length - o = 1 then o else o + 1) J wx hn (by omega) hL (fun h => if_neg (by omega)) hx1 hx2 ap.cg hx3 (st.pvC ap) (st.pvG ap) (by omega) hx4 HJ
              by_cases hone : zs.length - o = 1
              · rw [if_pos hone, show zs.length - (o + 1) = 0 from by omega] at hpin
                have HP := hide hpin
                clear hpin
                go_region
                go_wp2_with fail
                refine (unhide HP _ st4.drew.recv (st4.drew.ints ap hc) st4.drew.own (st4.drew.bw ap)).mono ?_
                clear HP
                intro e w3 hpost
                obtain ⟨i3, o3, pv3, g1, g2, rfl, g4, st5⟩ := st4.drew.pinned ap hpost
                have G2 : Hid (i3 < zs.length → o3 = i3) := g2
                clear g2 hpost
                obtain ⟨_, _, _, _, j9, _, _⟩ := cell_after st5.recv
                have ja : w3.cell? ⟨A, p, none⟩ = some (.int .i64 (wrap64 (nth zs o + 1))) := by
                  rw [st5.row.ints.2 p (by rw [st5.len]; exact hpn), nth_set av p _ (by rw [st.len]; exact hpn)]
                go_wp2
                go_roundw
                case rel => exact ⟨p + 1, i3, o3, _, _, pv3, mx last (wrap64 (nth zs o + 1)), by omega, g1, G2.out, by simp; omega, rfl, rfl, by go_num, st5, by have := HN.out; rw [g4] at this; exact this⟩
                case measure => simp [intOf]; omega
              · rw [if_neg hone, show zs.length - (o + 1) = zs.length - o - 1 from by omega] at hpin
                have HP := hide hpin
                clear hpin
                go_region
                go_wp2_with fail
                refine (unhide HP _ st4.drew.recv (st4.drew.ints ap hc) st4.drew.own (st4.drew.bw ap)).mono ?_
                clear HP
                intro e w3 hpost
                obtain ⟨i3, o3, pv3, g1, g2, rfl, g4, st5⟩ := st4.drew.pinned ap hpost
                have G2 : Hid (i3 < zs.length → o3 = i3) := g2
                clear g2 hpost
                obtain ⟨_, _, _, _, j9, _, _⟩ := cell_after st5.recv
                have ja : w3.cell? ⟨A, p, none⟩ = some (.int .i64 (wrap64 (nth zs o + 1))) := by
                  rw [st5.row.ints.2 p (by rw [st5.len]; exact hpn), nth_set av p _ (by rw [st.len]; exact hpn)]
                go_wp2
                go_roundw
                case rel => exact ⟨p + 1, i3, o3, _, _, pv3, mx last (wrap64 (nth zs o + 1)), by omega, g1, G2.out, by simp; omega, rfl, rfl, by go_num, st5, by have := HN.out; rw [g4] at this; exact this⟩
                case measure => simp [intOf]; omega
            · obtain rfl : i = zs.length := by omega
              have HN : R = (av, ps, last) := by
                have := HR.out
                rw [HF.out.1, List.drop_length, outer_end _ _ _ _ _ _ _ _ hb] at this
                exact this.symm
              subst HN
              clear HR HO
              go_wp2_with fail
              refine (has_any fa p _ (by omega)).mono ?_
              rintro e w2 ⟨rfl, rfl⟩
              go_wp2
              go_ret2
              exact ⟨pv, rfl, st⟩
          · obtain ⟨I, HI⟩ : ∃ I, Hid (inner n p rd 1 (zs.drop i) ps last = I) := ⟨_, rfl⟩
            have HN : Hid (outer n fa true rd (n - (p + 1)) (p + 1) I.1 av I.2.1 I.2.2 = R) := by
              have := HR.out
              rw [HF.out.1, outer_om _ _ _ _ _ _ _ _ _ hb I HI.out] at this
              rw [HF.out.2]; exact this
            clear HR
            go_wp2_with fail
            refine (has_any fa p _ (by omega)).mono ?_
            rintro e w2 ⟨rfl, rfl⟩
            go_wp2
            go_loopw [7, 8, 10] (fun rv lv cv wr => InvI B C G A g n rd true fa zs p av I w rv lv cv wr) (fun _ _ cv _ => rd + 1 - (intOf cv).toNat)
            case atStart => exact ⟨1, i, o, ps, pv, last, Nat.le_refl _, by omega, hi, HO.out, by omega, rfl, rfl, rfl, st, HI.out⟩
            case round =>
              clear HI st hps c1 c2 c6 c7 c9 c10 f10 HO hi
              obtain ⟨r, i2, o2, ps2, pv2, last2, h1, h2, hi2, ho2, hps2, rfl, rfl, rfl, st2, hII⟩ := hrel
              have HO2 : Hid (i2 < zs.length → o2 = i2) := ho2
              have HI2 : Hid (inner n p (rd + 1 - r) r (zs.drop i2) ps2 last2 = I) := hII
              clear ho2 hII
              obtain ⟨c1, c2, c6, c7, c9, c10, f10⟩ := cell_after st2.recv
              by_cases hr : r ≤ rd
              · have HG : Hid (rd + 1 - r = (rd - r) + 1 ∧ rd + 1 - (r + 1) = rd - r) := ⟨by omega, by omega⟩
                by_cases hil : i2 < zs.length
                · obtain rfl : o2 = i2 := HO2.out hil
                  clear HO2
                  have hpos : 0 < zs.length - o2 := by omega
                  obtain ⟨J, HJ⟩ : ∃ J, Hid (picks p n 0 (zs.drop o2) 0 0 = J) := ⟨_, rfl⟩
                  have HN2 : Hid (inner n p (rd + 1 - (r + 1)) (r + 1) J.1 (ps2 ++ [⟨p, r, J.2.1, J.2.2⟩]) r = I) := by
                    have := HI2.out
                    rw [HG.out.1, drop_at hil, inner_cons _ _ _ _ _ _ _ _ J (by rw [← drop_at hil]; exact HJ.out)] at this
                    rw [HG.out.2]; exact this
                  clear HI2
                  go_wp2_with fail
                  refine (pin_any B C G n rd true fa _ pv2 ps2 zs p r o2 o2 J _ hn hi2 hL (fun _ => rfl) st2.recv (st2.ints ap hc) ap.cg st2.own (st2.pvC ap) (st2.pvG ap) (by omega) (st2.bw ap) HJ).mono ?_
                  intro e w3 hpost
                  obtain ⟨i3, o3, pv3, g1, g2, rfl, g4, st3⟩ := st2.pinned ap hpost
                  have G2 : Hid (i3 < zs.length → o3 = i3) := g2
                  clear g2 hpost
                  go_wp2
                  go_roundw
                  case rel => exact ⟨r + 1, i3, o3, _, pv3, r, by omega, by omega, g1, G2.out, by simp; omega, rfl, rfl, by go_num, st3, by have := HN2.out; rw [g4] at this; exact this⟩
                  case measure => simp [intOf]; omega
                · obtain rfl : i2 = zs.length := by omega
                  have HN2 : I = (zs.drop zs.length, ps2, last2) := by
                    have := HI2.out
                    rw [List.drop_length, inner_nil] at this
                    rw [List.drop_length]; exact this.symm
                  subst HN2
                  clear HI2
                  go_wp2
                  go_roundw
                  case rel => exact ⟨p + 1, zs.length, o2, av, ps2, pv2, last2, by omega, Nat.le_refl _, fun h => by omega, by omega, by rw [Nat.sub_self], rfl, by go_num, st2, HN.out⟩
                  case measure => simp [intOf]; omega
              · obtain rfl : r = rd + 1 := by omega
                have HN2 : I = (zs.drop i2, ps2, last2) := by
                  have := HI2.out
                  rw [Nat.sub_self, inner_zero] at this
                  exact this.symm
                subst HN2
                clear HI2
                have hr' : ¬ ((rd : Int) + 1 ≤ (rd : Int)) := by omega
                go_wp2
                go_roundw
                case rel => exact ⟨p + 1, i2, o2, av, ps2, pv2, last2, by omega, hi2, HO2.out, by omega, rfl, rfl, by go_num, st2, HN.out⟩
                case measure => simp [intOf]; omega
      · obtain rfl : p = n := by omega
        have HN : R = (av, ps, last) := by
          have := HR.out
          rw [Nat.sub_self, outer_zero] at this
          exact this.symm
        subst HN
        clear HR
        go_wp2
        go_ret2
        exact ⟨pv, rfl, st⟩
end Go.Proofs.Ybulkcagg
