/-
  encode: a type's bytes, at most 120, and at most nine texts more in the table; for every type of at most eight members, names of at most twelve bytes.
-/
import Derived.Test.YtkhohocfdjpnpaaHmem
import Derived.Deep.CutBlock
namespace Go.Proofs.Ytkhohocfdjpnpaa.henc
open Go.RowKit
open kit put ord add hst hbf hmem types ok
set_option linter.unusedVariables false

set_option maxRecDepth 100000 in
set_option maxHeartbeats 16000000 in
theorem encode_walk {W0 w : World} {g : Nat} {out : Value} {L : List UInt8} {mm k : Nat} (hSt : St w W0.heap.size g out L mm k) (hW : Below W0.heap.size W0 w) (T : Typ) (v : Value) (hM : HasMems W0 v T.mems) (hn : T.name.size ≤ 12) (hmn : ∀ m ∈ T.mems, m.name.size ≤ 12) (h8 : T.mems.length ≤ 8) (big : Bool) (hL : L.length ≤ 500000) (hmm : mm ≤ 500000) (hk : k ≤ 800) :
    Calls Try.prog 11 #[out, aggT T v, .pointer (some ⟨g, 0, none⟩), .bool big] w (Wrote W0.heap.size g L mm k 12 120 9 w) := by
  have hvs := hM
  obtain ⟨am, cm, rfl, hml, _, _⟩ := hvs
  have hb0 : Below w.heap.size w (w.alloc (.cells #[.int .i64 T.kind, .string T.name, .int .i64 T.size, .int .i64 T.enc, .int .i64 T.flag, .int .i64 T.of_, .int .i64 T.index, .slice am T.mems.length cm] tT)) := (Below.refl _ _).alloc (Nat.le_refl _) _
  have t0 := heap_alloc_new w (.cells #[.int .i64 T.kind, .string T.name, .int .i64 T.size, .int .i64 T.enc, .int .i64 T.flag, .int .i64 T.of_, .int .i64 T.index, .slice am T.mems.length cm] tT)
  have hs0 := hSt.after hb0
  have hk0 := SKeep.below hb0
  have hB0 := hb0.mono hSt.size
  have HM := Lib.hid hM
  have HMN := Lib.hid hmn
  have HW := Lib.hid hW
  clear hb0 hSt hM hmn hW
  unfold aggT
  go_enter Try.func11, Try.ntmps11
  go_upto_region 1 with (fail)
  generalize w.alloc (.cells #[.int .i64 T.kind, .string T.name, .int .i64 T.size, .int .i64 T.enc, .int .i64 T.flag, .int .i64 T.of_, .int .i64 T.index, .slice am T.mems.length cm] tT) = w1 at *
  have TT1 := Lib.hid t0
  have S1 := Lib.hid hs0
  have K1 := Lib.hid hk0
  have B1 := Lib.hid hB0
  clear t0 hs0 hk0 hB0
  go_cut [9] (fun q9 w2 => ∃ b : Bool, q9 = .bool b ∧ Below w1.heap.size w1 w2)
  case first =>
    have c0 := cellAt (i := 0) TT1.out rfl
    have c1 := cellAt (i := 1) TT1.out rfl
    have c2 := cellAt (i := 2) TT1.out rfl
    have c3 := cellAt (i := 3) TT1.out rfl
    have c4 := cellAt (i := 4) TT1.out rfl
    have c5 := cellAt (i := 5) TT1.out rfl
    have c6 := cellAt (i := 6) TT1.out rfl
    have c7 := cellAt (i := 7) TT1.out rfl
    have hbf := bitfields_walk T (.slice am T.mems.length cm) w1 (HM.out.after (HW.out.trans B1.out) (Nat.le_refl _))
    unfold aggT at hbf
    have HBF := Lib.hid hbf
    clear hbf
    by_cases h4 : T.kind = 4
    · have q4 : (T.kind == 4) = true := by rw [h4]; rfl
      clear h4
      go_wp2_with fail
      refine HBF.out.mono ?_
      rintro e w' ⟨b1, rfl, _, hb1⟩
      go_wp2_with fail
      go_meet
      exact ⟨_, rfl, hb1⟩
    · have q4 : (T.kind == 4) = false := by simp [h4]
      clear h4
      by_cases h5 : T.kind = 5
      · have q5 : (T.kind == 5) = true := by rw [h5]; rfl
        clear h5
        go_wp2_with fail
        refine HBF.out.mono ?_
        rintro e w' ⟨b1, rfl, _, hb1⟩
        go_wp2_with fail
        go_meet
        exact ⟨_, rfl, hb1⟩
      · have q5 : (T.kind == 5) = false := by simp [h5]
        clear h5
        go_wp2_with fail
        go_meet
        exact ⟨_, rfl, Below.refl _ _⟩
  case rest =>
  obtain ⟨b9, rfl, hbw⟩ := hcut
  obtain ⟨w2, rfl⟩ : ∃ x : World, x = wc := ⟨_, rfl⟩
  have TT2 := Lib.hid ((hbw.block _ (heap_lt TT1.out)).trans TT1.out)
  have S2 := Lib.hid (S1.out.after hbw)
  have K2 := Lib.hid (K1.out.trans (SKeep.below hbw))
  have B2 := Lib.hid (B1.out.trans (hbw.mono S1.out.size))
  clear hbw TT1 S1 K1 B1
  have c0 := cellAt (i := 0) TT2.out rfl
  have c1 := cellAt (i := 1) TT2.out rfl
  have c2 := cellAt (i := 2) TT2.out rfl
  have c4 := cellAt (i := 4) TT2.out rfl
  have c5 := cellAt (i := 5) TT2.out rfl
  have c7 := cellAt (i := 7) TT2.out rfl
  go_upto_region 2 with (fail)
  go_cut [10] (fun q10 w3 => ∃ b : Bool, q10 = .bool b ∧ w2 = w3)
  case first =>
    cases b9
    · by_cases h6 : T.kind = 6
      · have q6 : (T.kind == 6) = true := by rw [h6]; rfl
        clear h6
        go_wp2_with fail
        go_meet
        exact ⟨_, rfl, rfl⟩
      · have q6 : (T.kind == 6) = false := by simp [h6]
        clear h6
        by_cases h19 : T.kind = 19
        · have q19 : (T.kind == 19) = true := by rw [h19]; rfl
          clear h19
          go_wp2_with fail
          go_meet
          exact ⟨_, rfl, rfl⟩
        · have q19 : (T.kind == 19) = false := by simp [h19]
          clear h19
          by_cases h7 : T.kind = 7
          · have q7 : (T.kind == 7) = true := by rw [h7]; rfl
            clear h7
            go_wp2_with fail
            go_meet
            exact ⟨_, rfl, rfl⟩
          · have q7 : (T.kind == 7) = false := by simp [h7]
            clear h7
            go_wp2_with fail
            go_meet
            exact ⟨_, rfl, rfl⟩
    · go_wp2_with fail
      go_meet
      exact ⟨_, rfl, rfl⟩
  case rest =>
  obtain ⟨b10, rfl, rfl⟩ := hcut
  go_upto_region 3 with (fail)
  go_cut [11] (fun q11 w3 => ∃ n : Int, q11 = .int .i64 n ∧ w2 = w3)
  case first =>
    go_wp2_with fail
    go_meet
    exact ⟨_, rfl, rfl⟩
  case rest =>
  obtain ⟨n11, rfl, rfl⟩ := hcut
  go_upto_if 53 with (fail)
  go_cut [11] (fun q11 w3 => ∃ n : Int, q11 = .int .i64 n ∧ w2 = w3)
  case first =>
    by_cases h12 : T.kind = 12
    · have q12 : (T.kind == 12) = true := by rw [h12]; rfl
      clear h12
      go_wp2_with fail
      go_meet
      exact ⟨_, rfl, rfl⟩
    · have q12 : (T.kind == 12) = false := by simp [h12]
      clear h12
      go_wp2_with fail
      go_meet
      exact ⟨_, rfl, rfl⟩
  case rest =>
  obtain ⟨n11b, rfl, rfl⟩ := hcut
  go_upto_region 6 with (fail)
  go_cut [12] (fun q12 w3 => ∃ n : Int, q12 = .int .i64 n ∧ w2 = w3)
  case first =>
    go_wp2_with fail
    go_meet
    exact ⟨_, rfl, rfl⟩
  case rest =>
  obtain ⟨n12, rfl, rfl⟩ := hcut
  go_upto_if 60 with (go_at_call 19; refine (sized_walk _ _).mono ?_; rintro e w' ⟨rfl, rfl⟩)
  go_cut [12] (fun q12 w3 => ∃ n : Int, q12 = .int .i64 n ∧ w2 = w3)
  case first =>
    go_wp2_with fail
    all_goals go_meet
    all_goals exact ⟨_, rfl, rfl⟩
  case rest =>
  obtain ⟨n12b, rfl, rfl⟩ := hcut
  go_upto_if 65 with (fail)
  go_cut [12] (fun q12 w3 => ∃ n : Int, q12 = .int .i64 n ∧ w2 = w3)
  case first =>
    by_cases h3 : T.kind = 3
    · have q3 : (T.kind == 3) = true := by rw [h3]; rfl
      clear h3
      go_wp2_with fail
      go_meet
      exact ⟨_, rfl, rfl⟩
    · have q3 : (T.kind == 3) = false := by simp [h3]
      clear h3
      go_wp2_with fail
      go_meet
      exact ⟨_, rfl, rfl⟩
  case rest =>
  obtain ⟨n12c, rfl, rfl⟩ := hcut
  go_upto_region 11 with (fail)
  go_cut [0] (fun q0 w3 => ∃ L1 : List UInt8, St w3 W0.heap.size g q0 L1 (mm + 13) (k + 1) ∧ L1.length = L.length + 12 ∧ SKeep w2 w3 ∧ Below W0.heap.size w2 w3)
  case first =>

    refine wp_region_noPanic ?_
    refine wp_region_G (by kernel_rfl) [] (fun w' => w'.cell? ⟨w.heap.size, 0, none⟩ = some (.int .i64 T.kind) ∧ w'.cell? ⟨w.heap.size, 1, none⟩ = some (.string T.name)) ⟨c0, c1⟩ (fun hHeld => ?_)
    clear c0 c1 c2 c4 c5 c7
    refine wpAnyG_take (i := 0) (v := ?_) rfl (by kernel_rfl) (by kernel_rfl) (by kernel_rfl) (by kernel_rfl) (fun _ _ _ h => h) hHeld (Or.inl ⟨by rfl, ?_⟩) (fun hHeld => ?_)
    rotate_left
    · (intro wq hSw; (try dsimp only at hSw); go_simp; (try with_reducible rfl))
    try simp only [Act.put, List.setIfInBounds_toArray, List.set_cons_zero, List.set_cons_succ]
    refine wpAnyG_take (i := 1) (v := ?_) rfl (by kernel_rfl) (by kernel_rfl) (by kernel_rfl) (by kernel_rfl) (fun _ _ _ h => h) hHeld (Or.inl ⟨by rfl, ?_⟩) (fun hHeld => ?_)
    rotate_left
    · (intro wq hSw; (try dsimp only at hSw); go_simp; (try with_reducible rfl))
    try simp only [Act.put, List.setIfInBounds_toArray, List.set_cons_zero, List.set_cons_succ]
    refine wpAnyG_take (i := 2) (v := ?_) rfl (by kernel_rfl) (by kernel_rfl) (by kernel_rfl) (by kernel_rfl) (fun _ _ _ h => h) hHeld (Or.inl ⟨by rfl, ?_⟩) (fun hHeld => ?_)
    rotate_left
    · (intro wq hSw; (try dsimp only at hSw); go_simp; (try with_reducible rfl))
    try simp only [Act.put, List.setIfInBounds_toArray, List.set_cons_zero, List.set_cons_succ]
    refine wpAnyG_take (i := 3) (v := ?_) rfl (by kernel_rfl) (by kernel_rfl) (by kernel_rfl) (by kernel_rfl) (fun _ _ _ h => h) hHeld (Or.inl ⟨by rfl, ?_⟩) (fun hHeld => ?_)
    rotate_left
    · (intro wq hSw; (try dsimp only at hSw); go_simp; (try with_reducible rfl))
    try simp only [Act.put, List.setIfInBounds_toArray, List.set_cons_zero, List.set_cons_succ]
    refine wpAnyG_take (i := 5) (v := ?_) rfl (by kernel_rfl) (by kernel_rfl) (by kernel_rfl) (by kernel_rfl) (fun _ _ _ h => h) hHeld (Or.inl ⟨by rfl, ?_⟩) (fun hHeld => ?_)
    rotate_left
    · (intro wq hSw; (try dsimp only at hSw); go_simp; (try with_reducible rfl))
    try simp only [Act.put, List.setIfInBounds_toArray, List.set_cons_zero, List.set_cons_succ]
    refine wpAnyG_take (i := 7) (v := ?_) rfl (by kernel_rfl) (by kernel_rfl) (by kernel_rfl) (by kernel_rfl) (fun _ _ _ h => h) hHeld (Or.inl ⟨by rfl, ?_⟩) (fun hHeld => ?_)
    rotate_left
    · (intro wq hSw; (try dsimp only at hSw); go_simp; (try with_reducible rfl))
    try simp only [Act.put, List.setIfInBounds_toArray, List.set_cons_zero, List.set_cons_succ]
    refine wpAnyG_take (i := 8) (v := ?_) rfl (by kernel_rfl) (by kernel_rfl) (by kernel_rfl) (by kernel_rfl) (fun _ _ _ h => h) hHeld (Or.inl ⟨by rfl, ?_⟩) (fun hHeld => ?_)
    rotate_left
    · (intro wq hSw; (try dsimp only at hSw); go_simp; (try with_reducible rfl))
    try simp only [Act.put, List.setIfInBounds_toArray, List.set_cons_zero, List.set_cons_succ]
    refine wpAnyG_take (i := 9) (v := ?_) rfl (by kernel_rfl) (by kernel_rfl) (by kernel_rfl) (by kernel_rfl) (fun _ _ _ h => h) hHeld (Or.inl ⟨by rfl, ?_⟩) (fun hHeld => ?_)
    rotate_left
    · (intro wq hSw; (try dsimp only at hSw); go_simp; (try with_reducible rfl))
    try simp only [Act.put, List.setIfInBounds_toArray, List.set_cons_zero, List.set_cons_succ]
    refine wpAnyG_take (i := 10) (v := ?_) rfl (by kernel_rfl) (by kernel_rfl) (by kernel_rfl) (by kernel_rfl) (fun _ _ _ h => h) hHeld (Or.inl ⟨by rfl, ?_⟩) (fun hHeld => ?_)
    rotate_left
    · (intro wq hSw; (try dsimp only at hSw); go_simp; (try with_reducible rfl))
    try simp only [Act.put, List.setIfInBounds_toArray, List.set_cons_zero, List.set_cons_succ]
    refine wpAnyG_take (i := 12) (v := ?_) rfl (by kernel_rfl) (by kernel_rfl) (by kernel_rfl) (by kernel_rfl) (fun _ _ _ h => h) hHeld (Or.inl ⟨by rfl, ?_⟩) (fun hHeld => ?_)
    rotate_left
    · (intro wq hSw; (try dsimp only at hSw); go_simp; (try with_reducible rfl))
    try simp only [Act.put, List.setIfInBounds_toArray, List.set_cons_zero, List.set_cons_succ]
    refine wpAnyG_take (i := 14) (v := ?_) rfl (by kernel_rfl) (by kernel_rfl) (by kernel_rfl) (by kernel_rfl) (fun _ _ _ h => h) hHeld (Or.inl ⟨by rfl, ?_⟩) (fun hHeld => ?_)
    rotate_left
    · (intro wq hSw; (try dsimp only at hSw); go_simp; (try with_reducible rfl))
    try simp only [Act.put, List.setIfInBounds_toArray, List.set_cons_zero, List.set_cons_succ]
    refine wpAnyG_take (i := 15) (v := ?_) rfl (by kernel_rfl) (by kernel_rfl) (by kernel_rfl) (by kernel_rfl) (fun _ _ _ h => h) hHeld (Or.inl ⟨by rfl, ?_⟩) (fun hHeld => ?_)
    rotate_left
    · (intro wq hSw; (try dsimp only at hSw); go_simp; (try with_reducible rfl))
    try simp only [Act.put, List.setIfInBounds_toArray, List.set_cons_zero, List.set_cons_succ]
    refine wpAnyG_take (i := 16) (v := ?_) rfl (by kernel_rfl) (by kernel_rfl) (by kernel_rfl) (by kernel_rfl) (fun _ _ _ h => h) hHeld (Or.inl ⟨by rfl, ?_⟩) (fun hHeld => ?_)
    rotate_left
    · (intro wq hSw; (try dsimp only at hSw); go_simp; (try with_reducible rfl))
    try simp only [Act.put, List.setIfInBounds_toArray, List.set_cons_zero, List.set_cons_succ]
    refine wpAnyG_one (i := 4) rfl (by kernel_rfl) (fun K hK => ?_)
    go_simp
    go_at_call 22
    refine (add_st S2.out.drew T.name hn (by omega) (by omega)).mono ?_
    rintro e x0 ⟨z0, rfl, hz0, hs0, hk0, hb0⟩
    have TT0 := Lib.hid (hk0.2 _ _ _ _ (TT2.out) (by decide) (by decide) (by decide) (by decide))
    have P0 := Lib.hid hs0
    have PK0 := Lib.hid ((SKeep.drew w2).trans hk0)
    have PB0 := Lib.hid ((below_draws (Below.refl W0.heap.size w2) 1).trans hb0)
    clear hs0 hk0 hb0 hHeld
    first | (refine hK.out _ _ ?_ (fun hHeld => ?_)) | (go_wp2_with fail; refine hK.out _ _ ?_ (fun hHeld => ?_))
    · exact ⟨cellAt TT0.out rfl, cellAt TT0.out rfl⟩
    clear hK K
    try simp only [Act.put, List.setIfInBounds_toArray, List.set_cons_zero, List.set_cons_succ]
    refine wpAnyG_one (i := 6) rfl (by kernel_rfl) (fun K hK => ?_)
    go_simp
    go_at_call 12
    refine (put4_st (P0.out) _ _ (by first | assumption | exact u64_bounds _ | exact or_bounds _ _ _ | omega) (by omega)).mono ?_
    rintro e x1 ⟨y1, L1, rfl, hs1, hl1, hk1, hb1⟩
    have TT1 := Lib.hid (hk1.2 _ _ _ _ (TT0.out) (by decide) (by decide) (by decide) (by decide))
    have P1 := Lib.hid hs1
    have PK1 := Lib.hid (PK0.out.trans hk1)
    have PB1 := Lib.hid (PB0.out.trans hb1)
    clear hs1 hk1 hb1 hHeld
    first | (refine hK.out _ _ ?_ (fun hHeld => ?_)) | (go_wp2_with fail; refine hK.out _ _ ?_ (fun hHeld => ?_))
    · exact ⟨cellAt TT1.out rfl, cellAt TT1.out rfl⟩
    clear hK K
    try simp only [Act.put, List.setIfInBounds_toArray, List.set_cons_zero, List.set_cons_succ]
    refine wpAnyG_one (i := 11) rfl (by kernel_rfl) (fun K hK => ?_)
    go_simp
    go_at_call 23
    refine (info_walk _ _ _ _).mono ?_
    rintro e w' ⟨z2, rfl, hz2, rfl⟩
    first | (refine hK.out _ _ hHeld (fun hHeld => ?_)) | (go_wp2_with fail; refine hK.out _ _ hHeld (fun hHeld => ?_))
    clear hK K
    try simp only [Act.put, List.setIfInBounds_toArray, List.set_cons_zero, List.set_cons_succ]
    refine wpAnyG_one (i := 13) rfl (by kernel_rfl) (fun K hK => ?_)
    go_simp
    go_at_call 12
    refine (put4_st (P1.out) _ _ (by first | assumption | exact u64_bounds _ | exact or_bounds _ _ _ | omega) (by omega)).mono ?_
    rintro e x3 ⟨y3, L3, rfl, hs3, hl3, hk3, hb3⟩
    have TT3 := Lib.hid (hk3.2 _ _ _ _ (TT1.out) (by decide) (by decide) (by decide) (by decide))
    have P3 := Lib.hid hs3
    have PK3 := Lib.hid (PK1.out.trans hk3)
    have PB3 := Lib.hid (PB1.out.trans hb3)
    clear hs3 hk3 hb3 hHeld
    first | (refine hK.out _ _ ?_ (fun hHeld => ?_)) | (go_wp2_with fail; refine hK.out _ _ ?_ (fun hHeld => ?_))
    · exact ⟨cellAt TT3.out rfl, cellAt TT3.out rfl⟩
    clear hK K
    try simp only [Act.put, List.setIfInBounds_toArray, List.set_cons_zero, List.set_cons_succ]
    refine wpAnyG_one (i := 17) rfl (by kernel_rfl) (fun K hK => ?_)
    go_simp
    go_at_call 12
    refine (put4_st (P3.out) _ _ (by first | assumption | exact u64_bounds _ | exact or_bounds _ _ _ | omega) (by omega)).mono ?_
    rintro e x4 ⟨y4, L4, rfl, hs4, hl4, hk4, hb4⟩
    have TT4 := Lib.hid (hk4.2 _ _ _ _ (TT3.out) (by decide) (by decide) (by decide) (by decide))
    have P4 := Lib.hid hs4
    have PK4 := Lib.hid (PK3.out.trans hk4)
    have PB4 := Lib.hid (PB3.out.trans hb4)
    clear hs4 hk4 hb4 hHeld
    first | (refine hK.out _ _ ?_ (fun hHeld => ?_)) | (go_wp2_with fail; refine hK.out _ _ ?_ (fun hHeld => ?_))
    · exact ⟨cellAt TT4.out rfl, cellAt TT4.out rfl⟩
    clear hK K
    try simp only [Act.put, List.setIfInBounds_toArray, List.set_cons_zero, List.set_cons_succ]
    refine wpAnyG_one (i := 18) rfl (by kernel_rfl) (fun K hK => ?_)
    go_simp
    first | (refine hK.out _ _ hHeld (fun hHeld => ?_)) | (go_wp2_with fail; refine hK.out _ _ hHeld (fun hHeld => ?_))
    clear hK K
    try simp only [Act.put, List.setIfInBounds_toArray, List.set_cons_zero, List.set_cons_succ]
    refine wpAnyG_done (by kernel_rfl) ?_ _
    refine NoPanic.normal ?_
    go_wp2_with fail
    go_meet
    exact ⟨_, P4.out, by omega, PK4.out, PB4.out⟩
  case rest =>
  obtain ⟨L1, hs, hl1, hks, hbs⟩ := hcut
  obtain ⟨w3, rfl⟩ : ∃ x : World, x = wc := ⟨_, rfl⟩
  clear c0 c1 c2 c4 c5 c7
  have TT3 := Lib.hid (hks.2 _ _ _ _ TT2.out (by decide) (by decide) (by decide) (by decide))
  have S3 := Lib.hid hs
  have K3 := Lib.hid (K2.out.trans hks)
  have B3 := Lib.hid (B2.out.trans hbs)
  clear hs hks hbs TT2 S2 K2 B2
  have c0 := cellAt (i := 0) TT3.out rfl
  have c2 := cellAt (i := 2) TT3.out rfl
  have c3 := cellAt (i := 3) TT3.out rfl
  have c4 := cellAt (i := 4) TT3.out rfl
  have c5 := cellAt (i := 5) TT3.out rfl
  have c6 := cellAt (i := 6) TT3.out rfl
  go_upto_block 0 with (fail)
  go_cut [0] (fun q0 w4 => ∃ L2 : List UInt8, St w4 W0.heap.size g q0 L2 (mm + 13) (k + 1) ∧ L.length + 12 ≤ L2.length ∧ L2.length ≤ L.length + 24 ∧ SKeep w3 w4 ∧ Below W0.heap.size w3 w4)
  case first =>
    by_cases h1 : T.kind = 1
    · have q1 : (T.kind == 1) = true := by rw [h1]; rfl
      clear h1
      go_wp2_with fail
      refine (put4_st S3.out _ _ (by first | assumption | exact u64_bounds _ | exact or_bounds _ _ _ | omega) (by omega)).mono ?_
      rintro e x0 ⟨y0, L0, rfl, hs0, hl0, hk0, hb0⟩
      have HQ := Lib.hid (And.intro hs0 (And.intro hk0 hb0))
      clear hs0 hk0 hb0
      go_wp2_with fail
      go_meet
      exact ⟨_, HQ.out.1, by omega, by omega, HQ.out.2.1, HQ.out.2.2⟩
    · have q1 : (T.kind == 1) = false := by simp [h1]
      clear h1
      by_cases h3 : T.kind = 3
      · have q3 : (T.kind == 3) = true := by rw [h3]; rfl
        clear h3
        go_upto_region 16 with (fail)
        refine wp_region_noPanic ?_
        refine wp_region_G (by kernel_rfl) [] (fun w' => w'.cell? ⟨w.heap.size, 5, none⟩ = some (.int .i64 T.of_) ∧ w'.cell? ⟨w.heap.size, 6, none⟩ = some (.int .i64 T.index) ∧ w'.cell? ⟨w.heap.size, 2, none⟩ = some (.int .i64 T.size)) ⟨c5, c6, c2⟩ (fun hHeld => ?_)
        clear c0 c2 c3 c4 c5 c6
        refine wpAnyG_take (i := 0) (v := ?_) rfl (by kernel_rfl) (by kernel_rfl) (by kernel_rfl) (by kernel_rfl) (fun _ _ _ h => h) hHeld (Or.inl ⟨by rfl, ?_⟩) (fun hHeld => ?_)
        rotate_left
        · (intro wq hSw; (try dsimp only at hSw); go_simp; (try with_reducible rfl))
        try simp only [Act.put, List.setIfInBounds_toArray, List.set_cons_zero, List.set_cons_succ]
        refine wpAnyG_take (i := 1) (v := ?_) rfl (by kernel_rfl) (by kernel_rfl) (by kernel_rfl) (by kernel_rfl) (fun _ _ _ h => h) hHeld (Or.inl ⟨by rfl, ?_⟩) (fun hHeld => ?_)
        rotate_left
        · (intro wq hSw; (try dsimp only at hSw); go_simp; (try with_reducible rfl))
        try simp only [Act.put, List.setIfInBounds_toArray, List.set_cons_zero, List.set_cons_succ]
        refine wpAnyG_take (i := 2) (v := ?_) rfl (by kernel_rfl) (by kernel_rfl) (by kernel_rfl) (by kernel_rfl) (fun _ _ _ h => h) hHeld (Or.inl ⟨by rfl, ?_⟩) (fun hHeld => ?_)
        rotate_left
        · (intro wq hSw; (try dsimp only at hSw); go_simp; (try with_reducible rfl))
        try simp only [Act.put, List.setIfInBounds_toArray, List.set_cons_zero, List.set_cons_succ]
        refine wpAnyG_take (i := 3) (v := ?_) rfl (by kernel_rfl) (by kernel_rfl) (by kernel_rfl) (by kernel_rfl) (fun _ _ _ h => h) hHeld (Or.inl ⟨by rfl, ?_⟩) (fun hHeld => ?_)
        rotate_left
        · (intro wq hSw; (try dsimp only at hSw); go_simp; (try with_reducible rfl))
        try simp only [Act.put, List.setIfInBounds_toArray, List.set_cons_zero, List.set_cons_succ]
        refine wpAnyG_take (i := 4) (v := ?_) rfl (by kernel_rfl) (by kernel_rfl) (by kernel_rfl) (by kernel_rfl) (fun _ _ _ h => h) hHeld (Or.inl ⟨by rfl, ?_⟩) (fun hHeld => ?_)
        rotate_left
        · (intro wq hSw; (try dsimp only at hSw); go_simp; (try with_reducible rfl))
        try simp only [Act.put, List.setIfInBounds_toArray, List.set_cons_zero, List.set_cons_succ]
        refine wpAnyG_take (i := 6) (v := ?_) rfl (by kernel_rfl) (by kernel_rfl) (by kernel_rfl) (by kernel_rfl) (fun _ _ _ h => h) hHeld (Or.inl ⟨by rfl, ?_⟩) (fun hHeld => ?_)
        rotate_left
        · (intro wq hSw; (try dsimp only at hSw); go_simp; (try with_reducible rfl))
        try simp only [Act.put, List.setIfInBounds_toArray, List.set_cons_zero, List.set_cons_succ]
        refine wpAnyG_take (i := 7) (v := ?_) rfl (by kernel_rfl) (by kernel_rfl) (by kernel_rfl) (by kernel_rfl) (fun _ _ _ h => h) hHeld (Or.inl ⟨by rfl, ?_⟩) (fun hHeld => ?_)
        rotate_left
        · (intro wq hSw; (try dsimp only at hSw); go_simp; (try with_reducible rfl))
        try simp only [Act.put, List.setIfInBounds_toArray, List.set_cons_zero, List.set_cons_succ]
        refine wpAnyG_take (i := 8) (v := ?_) rfl (by kernel_rfl) (by kernel_rfl) (by kernel_rfl) (by kernel_rfl) (fun _ _ _ h => h) hHeld (Or.inl ⟨by rfl, ?_⟩) (fun hHeld => ?_)
        rotate_left
        · (intro wq hSw; (try dsimp only at hSw); go_simp; (try with_reducible rfl))
        try simp only [Act.put, List.setIfInBounds_toArray, List.set_cons_zero, List.set_cons_succ]
        refine wpAnyG_take (i := 9) (v := ?_) rfl (by kernel_rfl) (by kernel_rfl) (by kernel_rfl) (by kernel_rfl) (fun _ _ _ h => h) hHeld (Or.inl ⟨by rfl, ?_⟩) (fun hHeld => ?_)
        rotate_left
        · (intro wq hSw; (try dsimp only at hSw); go_simp; (try with_reducible rfl))
        try simp only [Act.put, List.setIfInBounds_toArray, List.set_cons_zero, List.set_cons_succ]
        refine wpAnyG_take (i := 11) (v := ?_) rfl (by kernel_rfl) (by kernel_rfl) (by kernel_rfl) (by kernel_rfl) (fun _ _ _ h => h) hHeld (Or.inl ⟨by rfl, ?_⟩) (fun hHeld => ?_)
        rotate_left
        · (intro wq hSw; (try dsimp only at hSw); go_simp; (try with_reducible rfl))
        try simp only [Act.put, List.setIfInBounds_toArray, List.set_cons_zero, List.set_cons_succ]
        refine wpAnyG_take (i := 12) (v := ?_) rfl (by kernel_rfl) (by kernel_rfl) (by kernel_rfl) (by kernel_rfl) (fun _ _ _ h => h) hHeld (Or.inl ⟨by rfl, ?_⟩) (fun hHeld => ?_)
        rotate_left
        · (intro wq hSw; (try dsimp only at hSw); go_simp; (try with_reducible rfl))
        try simp only [Act.put, List.setIfInBounds_toArray, List.set_cons_zero, List.set_cons_succ]
        refine wpAnyG_take (i := 13) (v := ?_) rfl (by kernel_rfl) (by kernel_rfl) (by kernel_rfl) (by kernel_rfl) (fun _ _ _ h => h) hHeld (Or.inl ⟨by rfl, ?_⟩) (fun hHeld => ?_)
        rotate_left
        · (intro wq hSw; (try dsimp only at hSw); go_simp; (try with_reducible rfl))
        try simp only [Act.put, List.setIfInBounds_toArray, List.set_cons_zero, List.set_cons_succ]
        refine wpAnyG_take (i := 14) (v := ?_) rfl (by kernel_rfl) (by kernel_rfl) (by kernel_rfl) (by kernel_rfl) (fun _ _ _ h => h) hHeld (Or.inl ⟨by rfl, ?_⟩) (fun hHeld => ?_)
        rotate_left
        · (intro wq hSw; (try dsimp only at hSw); go_simp; (try with_reducible rfl))
        try simp only [Act.put, List.setIfInBounds_toArray, List.set_cons_zero, List.set_cons_succ]
        refine wpAnyG_one (i := 5) rfl (by kernel_rfl) (fun K hK => ?_)
        go_simp
        go_at_call 12
        refine (put4_st (S3.out.drew) _ _ (by first | assumption | exact u64_bounds _ | exact or_bounds _ _ _ | omega) (by omega)).mono ?_
        rintro e x0 ⟨y0, L0, rfl, hs0, hl0, hk0, hb0⟩
        have TT0 := Lib.hid (hk0.2 _ _ _ _ (TT3.out) (by decide) (by decide) (by decide) (by decide))
        have P0 := Lib.hid hs0
        have PK0 := Lib.hid ((SKeep.drew w3).trans hk0)
        have PB0 := Lib.hid ((below_draws (Below.refl W0.heap.size w3) 1).trans hb0)
        clear hs0 hk0 hb0 hHeld
        first | (refine hK.out _ _ ?_ (fun hHeld => ?_)) | (go_wp2_with fail; refine hK.out _ _ ?_ (fun hHeld => ?_))
        · exact ⟨cellAt TT0.out rfl, cellAt TT0.out rfl, cellAt TT0.out rfl⟩
        clear hK K
        try simp only [Act.put, List.setIfInBounds_toArray, List.set_cons_zero, List.set_cons_succ]
        refine wpAnyG_one (i := 10) rfl (by kernel_rfl) (fun K hK => ?_)
        go_simp
        go_at_call 12
        refine (put4_st (P0.out) _ _ (by first | assumption | exact u64_bounds _ | exact or_bounds _ _ _ | omega) (by omega)).mono ?_
        rintro e x1 ⟨y1, L1, rfl, hs1, hl1, hk1, hb1⟩
        have TT1 := Lib.hid (hk1.2 _ _ _ _ (TT0.out) (by decide) (by decide) (by decide) (by decide))
        have P1 := Lib.hid hs1
        have PK1 := Lib.hid (PK0.out.trans hk1)
        have PB1 := Lib.hid (PB0.out.trans hb1)
        clear hs1 hk1 hb1 hHeld
        first | (refine hK.out _ _ ?_ (fun hHeld => ?_)) | (go_wp2_with fail; refine hK.out _ _ ?_ (fun hHeld => ?_))
        · exact ⟨cellAt TT1.out rfl, cellAt TT1.out rfl, cellAt TT1.out rfl⟩
        clear hK K
        try simp only [Act.put, List.setIfInBounds_toArray, List.set_cons_zero, List.set_cons_succ]
        refine wpAnyG_one (i := 15) rfl (by kernel_rfl) (fun K hK => ?_)
        go_simp
        go_at_call 12
        refine (put4_st (P1.out) _ _ (by first | assumption | exact u64_bounds _ | exact or_bounds _ _ _ | omega) (by omega)).mono ?_
        rintro e x2 ⟨y2, L2, rfl, hs2, hl2, hk2, hb2⟩
        have TT2 := Lib.hid (hk2.2 _ _ _ _ (TT1.out) (by decide) (by decide) (by decide) (by decide))
        have P2 := Lib.hid hs2
        have PK2 := Lib.hid (PK1.out.trans hk2)
        have PB2 := Lib.hid (PB1.out.trans hb2)
        clear hs2 hk2 hb2 hHeld
        first | (refine hK.out _ _ ?_ (fun hHeld => ?_)) | (go_wp2_with fail; refine hK.out _ _ ?_ (fun hHeld => ?_))
        · exact ⟨cellAt TT2.out rfl, cellAt TT2.out rfl, cellAt TT2.out rfl⟩
        clear hK K
        try simp only [Act.put, List.setIfInBounds_toArray, List.set_cons_zero, List.set_cons_succ]
        refine wpAnyG_one (i := 16) rfl (by kernel_rfl) (fun K hK => ?_)
        go_simp
        first | (refine hK.out _ _ hHeld (fun hHeld => ?_)) | (go_wp2_with fail; refine hK.out _ _ hHeld (fun hHeld => ?_))
        clear hK K
        try simp only [Act.put, List.setIfInBounds_toArray, List.set_cons_zero, List.set_cons_succ]
        refine wpAnyG_done (by kernel_rfl) ?_ _
        refine NoPanic.normal ?_
        go_wp2_with fail
        go_meet
        exact ⟨_, P2.out, by omega, by omega, PK2.out, PB2.out⟩
      · have q3 : (T.kind == 3) = false := by simp [h3]
        clear h3
        by_cases h14 : T.kind = 14
        · have q14 : (T.kind == 14) = true := by rw [h14]; rfl
          clear h14
          go_wp2_with fail
          refine (put4_st S3.out _ _ (by first | assumption | exact u64_bounds _ | exact or_bounds _ _ _ | omega) (by omega)).mono ?_
          rintro e x0 ⟨y0, L0, rfl, hs0, hl0, hk0, hb0⟩
          have HQ := Lib.hid (And.intro hs0 (And.intro hk0 hb0))
          clear hs0 hk0 hb0
          go_wp2_with fail
          go_meet
          exact ⟨_, HQ.out.1, by omega, by omega, HQ.out.2.1, HQ.out.2.2⟩
        · have q14 : (T.kind == 14) = false := by simp [h14]
          clear h14
          go_wp2_with fail
          go_meet
          exact ⟨_, S3.out, by omega, by omega, SKeep.refl _, Below.refl _ _⟩
  case rest =>
  obtain ⟨L2, hs, hl2a, hl2, hks, hbs⟩ := hcut
  obtain ⟨w4, rfl⟩ : ∃ x : World, x = wc := ⟨_, rfl⟩
  clear c0 c2 c3 c4 c5 c6
  have TT4 := Lib.hid (hks.2 _ _ _ _ TT3.out (by decide) (by decide) (by decide) (by decide))
  have S4 := Lib.hid hs
  have K4 := Lib.hid (K3.out.trans hks)
  have B4 := Lib.hid (B3.out.trans hbs)
  clear hs hks hbs TT3 S3 K3 B3
  have c7 := cellAt (i := 7) TT4.out rfl
  unfold maxLen at hml
  go_wp2_with fail
  clear c7
  go_loopw [0, 129] (fun q0 qi wr => ∃ (j : Nat) (L3 : List UInt8), j ≤ T.mems.length ∧ qi = .int .i64 j ∧ St wr W0.heap.size g q0 L3 (mm + 13 + 13 * j) (k + 1 + j) ∧ L.length + 12 ≤ L3.length ∧ L3.length ≤ L.length + 24 + 12 * j ∧ SKeep w4 wr ∧ Below W0.heap.size w4 wr) (fun _ qi _ => T.mems.length - (intOf qi).toNat)
  case atStart => exact ⟨0, L2, Nat.zero_le _, rfl, S4.out, hl2a, by omega, SKeep.refl _, Below.refl _ _⟩
  case round =>
    obtain ⟨j, L3, hj, rfl, hs, hl3a, hl3, hkr, hbr⟩ := hrel
    by_cases hlt : j < T.mems.length
    · have hwr := HW.out.trans (B4.out.trans hbr)
      obtain ⟨am', cm', hv', _, _, hmc⟩ := HM.out.after hwr (Nat.le_refl _)
      injection hv' with q1 _ q3
      subst q1
      subst q3
      obtain ⟨mb, off, rfl, hc⟩ : ∃ mb off, am = some ⟨mb, off, none⟩ ∧ ∀ i, i < T.mems.length → HasMem wr mb (off + i * 5) (mem T.mems i) := by
        rcases hmc with h0 | h
        · omega
        · exact h
      have hmk : mem T.mems j ∈ T.mems := by simp only [mem, List.getD, List.getElem?_eq_getElem hlt, Option.getD_some]; exact List.getElem_mem hlt
      have hnm := HMN.out _ hmk
      obtain ⟨m0, m1, m2, m3, m4⟩ := hc j hlt
      have t1 := hkr.2 _ _ _ _ TT4.out (by decide) (by decide) (by decide) (by decide)
      have hltw := heap_lt t1
      have c0 := cellAt (i := 0) t1 rfl
      have c1 := cellAt (i := 1) t1 rfl
      have c2 := cellAt (i := 2) t1 rfl
      have c3 := cellAt (i := 3) t1 rfl
      have c4 := cellAt (i := 4) t1 rfl
      have c5 := cellAt (i := 5) t1 rfl
      have c6 := cellAt (i := 6) t1 rfl
      have c7 := cellAt (i := 7) t1 rfl
      have hal : Below wr.heap.size wr (wr.alloc (.cells #[.string (mem T.mems j).name, .int .i64 (mem T.mems j).of_, .int .i64 (mem T.mems j).offset, .int .i64 (mem T.mems j).bits, .int .i64 (mem T.mems j).value] tM)) := (Below.refl _ _).alloc (Nat.le_refl _) _
      have hmw := member_walk (hs.after hal) T (some ⟨mb, off, none⟩) T.mems.length cm (mem T.mems j) b9 big hnm (by omega) (by omega) (by omega)
      unfold aggT aggM at hmw
      have HMW := Lib.hid hmw
      have HK := Lib.hid (hkr.trans (SKeep.below hal))
      have HB := Lib.hid (hbr.trans (hal.mono hs.size))
      clear hmw hkr hbr hs hwr hc hmc t1 hal hmk
      go_wp2_with fail
      refine HMW.out.mono ?_
      rintro e wn ⟨vn, L5, rfl, hs5, hl5a, hl5, hk5, hb5⟩
      have HQ := Lib.hid (And.intro hs5 (And.intro (HK.out.trans hk5) (HB.out.trans hb5)))
      clear hs5 hk5 hb5 m0 m1 m2 m3 m4 c0 c1 c2 c3 c4 c5 c6 c7
      go_wp2_with fail
      go_roundw
      case rel => exact ⟨j + 1, L5, by omega, by go_num, HQ.out.1.more (by omega) (by omega), by omega, by omega, HQ.out.2.1, HQ.out.2.2⟩
      case measure => simp [intOf]; omega
    · have hge : T.mems.length ≤ j := by omega
      have HQ := Lib.hid (And.intro hs (And.intro (K4.out.trans hkr) (B4.out.trans hbr)))
      clear hs hkr hbr
      go_wp2_with fail
      go_ret
      exact ⟨_, L3, rfl, HQ.out.1.more (by omega) (by omega), by omega, by omega, HQ.out.2.1, HQ.out.2.2⟩

end Go.Proofs.Ytkhohocfdjpnpaa.henc
