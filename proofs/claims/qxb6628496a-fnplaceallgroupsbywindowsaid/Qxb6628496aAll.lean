/-
  THE WALK of 'FnPlaceAllGroupsByWindow'.
-/
import Derived.Test.Qxb6628496aStep
import Derived.Deep.QuietTactic
import Derived.BigQuiet
namespace Go.Proofs.Qxb6628496a
open Go.RowKit
set_option linter.unusedVariables false

set_option maxHeartbeats 4000000 in
set_option maxRecDepth 100000 in
theorem all4 (a : Option Addr) (n c : Nat) (F : Nat → Int) (w : World) (hI : Inp .i64 w a n F) (hn : n ≤ 131072) :
    Calls Try.prog 4 #[.slice a n c] w fun e w' => e = .returned (.bool true) ∧ Below w.heap.size w w' := by
  obtain ⟨i0, hi, hz0, hz1, hz2⟩ := info_parts info3
  go_enter Try.func4, Try.ntmps4
  go_wp2_with (go_at_call 12; refine (bytes12_yes a n c _ (by omega)).mono ?_; rintro e w ⟨rfl, rfl⟩)
  go_loop [3] (fun i => ∃ j : Nat, j ≤ n ∧ i = .int .i64 j ∧ ∀ t, t < j → 0 ≤ F t ∧ F t < 4294967296) (fun i => n - (intOf i).toNat)
  case atStart => exact ⟨0, Nat.zero_le _, rfl, fun t ht => absurd ht (Nat.not_lt_zero t)⟩
  case round =>
    obtain ⟨j, hj, rfl, hv⟩ := hrel
    by_cases hjn : j < n
    · obtain ⟨b, off, rfl, hc⟩ := hI.at hjn
      by_cases h1 : F j < 0
      · generalize F j = z at hc h1
        go_wp2
        go_ret
        exact ⟨rfl, Below.refl _ _⟩
      · by_cases h2 : 4294967296 ≤ F j
        · generalize F j = z at hc h1 h2
          go_wp2
          go_ret
          exact ⟨rfl, Below.refl _ _⟩
        · have hv' : ∀ t, t < j + 1 → 0 ≤ F t ∧ F t < 4294967296 := fun t ht => by
            by_cases e : t = j
            · subst e; omega
            · exact hv t (by omega)
          have HV : Hid (∀ t, t < j + 1 → 0 ≤ F t ∧ F t < 4294967296) := hv'
          clear hv hv'
          generalize F j = z at hc h1 h2
          go_wp2
          go_round
          case rel => exact ⟨j + 1, by omega, by go_num, HV.out⟩
          case measure => simp [intOf]; omega
    · have e : n = j := by omega
      subst e
      have HV : Hid (∀ t, t < n → 0 ≤ F t ∧ F t < 4294967296) := hv
      clear hv hjn hj
      go_wp2
      obtain ⟨W, hW⟩ : ∃ W : Nat → Nat, ∀ t, W t = (F t / 65536).toNat := ⟨fun t => (F t / 65536).toNat, fun _ => rfl⟩
      have HW : Hid (∀ t, W t = (F t / 65536).toNat) := hW
      clear hW
      have wat : ∀ t, t < n → F t / 65536 = (W t : Int) ∧ W t < 65536 := fun t ht => by
        have := HV.out t ht; have := HW.out t; omega
      have WAT : Hid (∀ t, t < n → F t / 65536 = (W t : Int) ∧ W t < 65536) := wat
      clear wat
      go_loop [4, 5] (fun kv i => ∃ j k : Nat, j ≤ n ∧ i = .int .i64 j ∧ kv = .int .i64 k ∧ k ≤ 65536 ∧ ∀ t, t < j → W t < k) (fun _ i => n - (intOf i).toNat)
      case atStart => exact ⟨0, 0, Nat.zero_le _, rfl, rfl, Nat.zero_le _, fun t ht => absurd ht (Nat.not_lt_zero t)⟩
      case round =>
        obtain ⟨j, k, hj, rfl, rfl, hk, hv⟩ := hrel
        by_cases hjn : j < n
        · obtain ⟨b, off, rfl, hc⟩ := hI.at hjn
          obtain ⟨hw1, hw2⟩ := WAT.out j hjn
          have hz0 := HV.out j hjn
          have HV2 : Hid (∀ t, t < j → W t < k) := hv
          clear hv
          obtain ⟨x, hx⟩ : ∃ x, W j = x := ⟨_, rfl⟩
          rw [hx] at hw1 hw2
          have HX : Hid (W j = x) := hx
          clear hx
          generalize F j = z at hc hw1 hz0
          by_cases h1 : k < x + 1
          · go_wp2
            go_round
            case rel => exact ⟨j + 1, x + 1, by omega, by go_num, by go_num, by omega, fun t ht => by
              by_cases e : t = j
              · subst e; have := HX.out; omega
              · have := HV2.out t (by omega); omega⟩
            case measure => simp [intOf]; omega
          · go_wp2
            go_round
            case rel => exact ⟨j + 1, k, by omega, by go_num, rfl, hk, fun t ht => by
              by_cases e : t = j
              · subst e; have := HX.out; omega
              · have := HV2.out t (by omega); omega⟩
            case measure => simp [intOf]; omega
        · have e : n = j := by omega
          subst e
          have HWK : Hid (∀ t, t < n → W t < k) := hv
          clear hv hjn hj
          go_wp2_with (at_make; refine wpList_make_arr _ rfl _ _ 23 rfl 3 i0 .i64 Try.underlying23 hi hz0 hz1 .i64 .i64 _ _ k rfl rfl rfl rfl (by omega) (by omega) ?_)
          intro w0 hK0 hs0 hA0
          obtain ⟨B, hB⟩ : ∃ B, w.heap.size = B := ⟨_, rfl⟩
          rw [hB] at hs0 hA0 ⊢
          have HB : Hid (w.heap.size = B) := hB
          have HS0 : Hid (w0.heap.size = B + 1) := hs0
          have hb0 : Below B w w0 := hK0.below (Below.refl _ _) (by rw [hB]; exact Nat.le_refl _) (fun b hb => by cases hb)
          have hI0 : Inp .i64 w0 a n F := hI.below (by rw [hB]; exact hb0)
          clear hB hs0 hK0
          go_wp2
          go_loopw [8] (fun i wr => ∃ j : Nat, j ≤ n ∧ i = .int .i64 j ∧ Arr .i64 wr B k (cnI W j) ∧ Below B w wr ∧ wr.heap.size = B + 1) (fun i _ => n - (intOf i).toNat)
          case atStart => exact ⟨0, Nat.zero_le _, rfl, hA0.congr (fun j _ => by simp [cnI, cn]), hb0, HS0.out⟩
          case round =>
            obtain ⟨j, hj, rfl, hA, hb, hs⟩ := hrel
            have HSr : Hid (wr.heap.size = B + 1) := hs
            have hIr : Inp .i64 wr a n F := hI.below (by rw [HB.out]; exact hb)
            clear hs hI0 hA0 hb0
            by_cases hjn : j < n
            · obtain ⟨b, off, rfl, hc⟩ := hIr.at hjn
              obtain ⟨hw1, hw2⟩ := WAT.out j hjn
              have hwk := HWK.out j hjn
              have hz0 := HV.out j hjn
              have hst := (hA.set hwk (cnI W j (W j) + 1)).congr (g := cnI W (j + 1)) (fun t _ => by
                by_cases e : t = W j
                · subst e; rw [upd_same]; unfold cnI; rw [cn_self]; omega
                · rw [upd_other _ _ e]; unfold cnI; rw [cn_other W j e])
              have hcx := hA.cell hwk
              have hcf := hA.free hwk
              have hbd : 0 ≤ cnI W j (W j) ∧ cnI W j (W j) ≤ j := ⟨cnI_nonneg _ _ _, by unfold cnI; have := cn_le W j (W j); omega⟩
              have hbt : Below B w (wr.setCell ⟨B, W j, none⟩ (.int .i64 (cnI W j (W j) + 1))) := hb.setCell (Nat.le_refl _) _
              generalize cnI W j (W j) = y at hst hcx hbd hbt
              generalize W j = x at hw1 hw2 hwk hst hcx hcf hbt
              generalize F j = z at hc hw1 hz0
              clear hA hIr hI
              go_wp2
              go_roundw
              case rel => exact ⟨j + 1, by omega, by go_num, hst, hbt, by simpa using HSr.out⟩
              case measure => simp [intOf]; omega
            · have e : n = j := by omega
              subst e
              clear hjn hj
              go_wp2_with (at_make; refine wpList_make_arr _ rfl _ _ 23 rfl 3 i0 .i64 Try.underlying23 hi hz0 hz1 .i64 .i64 _ _ k rfl rfl rfl rfl (by omega) (by omega) ?_)
              intro w1 hK1 hs1 hA1
              rw [HSr.out] at hs1 hA1 ⊢
              have HS1 : Hid (w1.heap.size = B + 2) := hs1
              have hb1 : Below B w w1 := hK1.below hb (by have := HSr.out; omega) (fun b hb => by cases hb)
              have hC1 : Arr .i64 w1 B k (cnI W n) := hA.keep hK1 (by have := HSr.out; omega) (by simp)
              clear hs1 hK1 hIr hA hb
              go_wp2
              go_loopw [11] (fun i wr => ∃ j : Nat, j ≤ k ∧ i = .int .i64 j ∧ Arr .i64 wr B k (cnI W n) ∧ Arr .i64 wr (B + 1) k (cpy (cnI W n) j) ∧ Below B w wr ∧ wr.heap.size = B + 2) (fun i _ => k - (intOf i).toNat)
              case atStart => exact ⟨0, Nat.zero_le _, rfl, hC1, hA1.congr (fun j _ => by simp [cpy]), hb1, HS1.out⟩
              case round =>
                obtain ⟨j, hj, rfl, hC, hA, hb, hs⟩ := hrel
                have HSr : Hid (wr.heap.size = B + 2) := hs
                clear hs hA1 hb1 hC1
                by_cases hjk : j < k
                · have hst := (hA.set hjk (cnI W n j)).congr (g := cpy (cnI W n) (j + 1)) (fun t _ => cpy_step _ _ _)
                  have hcx := hC.cell hjk
                  have hcy := hA.cell hjk
                  have hcf := hA.free hjk
                  have hCt := hC.other (p := ⟨B + 1, j, none⟩) (by show B + 1 ≠ B; omega) (.int .i64 (cnI W n j))
                  have hbt : Below B w (wr.setCell ⟨B + 1, j, none⟩ (.int .i64 (cnI W n j))) := hb.setCell (by show B ≤ B + 1; omega) _
                  generalize cnI W n j = y at hst hcx hbt hCt
                  generalize cpy (cnI W n) j j = y' at hcy
                  clear hA hC
                  go_wp2
                  go_roundw
                  case rel => exact ⟨j + 1, by omega, by go_num, hCt, hst, hbt, by simpa using HSr.out⟩
                  case measure => simp [intOf]; omega
                · have e : k = j := by omega
                  subst e
                  have hA' : Arr .i64 wr (B + 1) k (cnI W n) := hA.congr (fun t ht => by simp [cpy, ht])
                  clear hjk hj hA
                  go_wp2_with (go_at_call 8; refine (new8 none (some ⟨B + 1, 0, none⟩) 0 0 k k _).mono ?_)
                  rintro e w2 ⟨rfl, hw2⟩
                  rw [HSr.out]
                  have hPS : PS W F n k B w w2 0 := by
                    have hsz := HSr.out
                    subst hw2
                    refine ⟨hb.alloc (by omega) _, hC.alloc (by omega) _, ?_, .inl ⟨rfl, ?_, ?_, hA'.alloc (by omega) _, by simp [hsz]⟩⟩
                    · rw [← hsz, World.cell?_alloc_new]; rfl
                    · rw [← hsz, World.cell?_alloc_new]; rfl
                    · rw [← hsz]; exact World.frozen?_alloc_new _ _ _ _
                  clear hw2 hC hA' hb
                  go_wp2
                  go_loopw [13] (fun i wr => ∃ j : Nat, j ≤ n ∧ i = .int .i64 j ∧ PS W F n k B w wr j) (fun i _ => n - (intOf i).toNat)
                  case atStart => exact ⟨0, Nat.zero_le _, rfl, hPS⟩
                  case round =>
                    obtain ⟨j, hj, rfl, hps⟩ := hrel
                    have hIr : Inp .i64 wr a n F := hI.below (by rw [HB.out]; exact hps.1)
                    clear hPS
                    by_cases hjn : j < n
                    · obtain ⟨b, off, rfl, hc⟩ := hIr.at hjn
                      clear hI hIr
                      go_wp2_with (go_at_call 9; refine (place_step W F n k B w _ j hps hjn hn hk HB.out HV.out WAT.out HWK.out).mono ?_)
                      rintro e w3 ⟨rfl, hps3⟩
                      clear hps
                      go_wp2
                      go_roundw
                      case rel => exact ⟨j + 1, by omega, by go_num, hps3⟩
                      case measure => simp [intOf]; omega
                    · have e : n = j := by omega
                      subst e
                      obtain ⟨la, lc, l, X, q0, q1, hC, hS, hX, hX1, hLow⟩ := place_end W F n k B w wr hps
                      have hb : Below B w wr := hps.1
                      have HX : Hid (wr.heap.size = X) := hX
                      have HLow : Hid (0 < n → la = some ⟨B + 3, 0, none⟩ ∧ B + 3 < X ∧ Arr .u16 wr (B + 3) n l ∧ ∀ i, i < n → l (st W n (i + 1) (W i)).toNat = IntKind.u16.wrap (F i)) := hLow
                      have HI : Hid (Inp .i64 w a n F) := hI
                      have htot := pre_cn W k n HWK.out
                      have hpb : ∀ v, v ≤ k → 0 ≤ pre (cnI W n) v ∧ pre (cnI W n) v ≤ n := fun v hv => ⟨pre_nonneg (cnI_nonneg W n) v, by rw [← htot]; exact pre_mono (cnI_nonneg W n) hv⟩
                      clear htot hps hIr hI hX hLow
                      go_wp2_with (first | (go_at_call 10; refine (low10 (B + 2) _ _ q0).mono ?_; rintro e w4 ⟨rfl, hw4⟩; subst hw4) | (go_at_call 11; refine (starts11 (B + 2) _ _ q1).mono ?_; rintro e w5 ⟨rfl, hw5⟩; subst hw5))
                      go_loop [16, 17] (fun pv i => ∃ j : Nat, j ≤ k ∧ i = .int .i64 j ∧ pv = .int .i64 (pre (cnI W n) j)) (fun _ i => k - (intOf i).toNat)
                      case atStart => exact ⟨0, Nat.zero_le _, rfl, rfl⟩
                      case round =>
                        obtain ⟨j, hj, rfl, rfl⟩ := hrel
                        by_cases hjk : j < k
                        · have hcx := hC.cell hjk
                          have hcy := hS.cell hjk
                          have b1 := hpb j hj
                          have b2 := hpb (j + 1) hjk
                          have b3 := cnI_nonneg W n j
                          rw [st_end] at hcy
                          rw [show pre (cnI W n) (j + 1) = pre (cnI W n) j + cnI W n j from rfl] at b2
                          obtain ⟨y, hy⟩ : ∃ y, cnI W n j = y := ⟨_, rfl⟩
                          obtain ⟨x, hx⟩ : ∃ x, pre (cnI W n) j = x := ⟨_, rfl⟩
                          rw [hy] at hcx b2 b3
                          rw [hx] at hcy b1 b2 ⊢
                          have HXY : Hid (pre (cnI W n) (j + 1) = x + y) := by show pre (cnI W n) j + cnI W n j = x + y; rw [hx, hy]
                          clear hx hy hpb hC hS
                          go_wp2
                          go_round
                          case rel => exact ⟨j + 1, by omega, by go_num, by rw [HXY.out]⟩
                          case measure => simp [intOf]; omega
                        · have e : k = j := by omega
                          subst e
                          clear hjk hj hpb
                          go_wp2_with (at_make; refine wpList_make_arr _ rfl _ _ 23 rfl 3 i0 .i64 Try.underlying23 hi hz0 hz1 .i64 .i64 _ _ k rfl rfl rfl rfl (by omega) (by omega) ?_)
                          intro w6 hK6 hs6 hA6
                          rw [HX.out] at hs6 hA6 ⊢
                          have HS6 : Hid (w6.heap.size = X + 1) := hs6
                          have hb6 : Below B w w6 := hK6.below hb (by have := HX.out; omega) (fun b hb => by cases hb)
                          have hS6 : Arr .i64 w6 (B + 1) k (st W n n) := hS.keep hK6 (by have := HX.out; omega) (by simp)
                          have HL6 : Hid (0 < n → la = some ⟨B + 3, 0, none⟩ ∧ B + 3 < X ∧ Arr .u16 w6 (B + 3) n l ∧ ∀ i, i < n → l (st W n (i + 1) (W i)).toNat = IntKind.u16.wrap (F i)) := fun h => by
                            obtain ⟨l1, l2, l3, l4⟩ := HLow.out h
                            exact ⟨l1, l2, l3.keep hK6 (by have := HX.out; omega) (by simp), l4⟩
                          clear hs6 hK6 hC hS HLow hb q0 q1
                          go_wp2
                          go_loopw [19] (fun i wr => ∃ j : Nat, j ≤ k ∧ i = .int .i64 j ∧ Arr .i64 wr X k (cpy (st W n n) j) ∧ Keep [X] w6 wr) (fun i _ => k - (intOf i).toNat)
                          case atStart => exact ⟨0, Nat.zero_le _, rfl, hA6.congr (fun j _ => by simp [cpy]), Keep.refl _ _⟩
                          case round =>
                            obtain ⟨j, hj, rfl, hA, hKr⟩ := hrel
                            have hSr : Arr .i64 wr (B + 1) k (st W n n) := hS6.keep hKr (by have := HS6.out; omega) (by simp; omega)
                            by_cases hjk : j < k
                            · have hst := (hA.set hjk (st W n n j)).congr (g := cpy (st W n n) (j + 1)) (fun t _ => cpy_step _ _ _)
                              have hcx := hSr.cell hjk
                              have hcy := hA.cell hjk
                              have hcf := hA.free hjk
                              have hKt : Keep [X] w6 (wr.setCell ⟨X, j, none⟩ (.int .i64 (st W n n j))) := hKr.setCell (by simp) _
                              generalize st W n n j = y at hst hcx hKt
                              generalize cpy (st W n n) j j = y' at hcy
                              clear hA hSr hS6 hA6
                              go_wp2
                              go_roundw
                              case rel => exact ⟨j + 1, by omega, by go_num, hst, hKt⟩
                              case measure => simp [intOf]; omega
                            · have e : k = j := by omega
                              subst e
                              have hA7 : Arr .i64 wr X k (st W n n) := hA.congr (fun t ht => by simp [cpy, ht])
                              clear hjk hj hA hSr hS6 hA6
                              go_wp2
                              have hKs : Keep [X] w6 wr := hKr
                              go_loopw [20] (fun i wr => ∃ m : Nat, m ≤ n ∧ i = .int .i64 ((m : Int) - 1) ∧ Arr .i64 wr X k (st W n m) ∧ Keep [X] w6 wr) (fun i _ => ((intOf i) + 1).toNat)
                              case atStart => exact ⟨n, Nat.le_refl _, rfl, hA7, hKs⟩
                              case round =>
                                obtain ⟨m, hm, rfl, hA, hKr⟩ := hrel
                                have hbr : Below B w wr := hKr.below hb6 (by have := HS6.out; omega) (fun b hb => by simp at hb; omega)
                                clear hA7 hKs
                                cases m with
                                | zero =>
                                  clear hA
                                  go_wp2
                                  go_ret
                                  exact ⟨rfl, by rw [HB.out]; exact hbr⟩
                                | succ j =>
                                  rw [show (((j + 1 : Nat) : Int) - 1) = (j : Int) from by omega]
                                  have hjn : j < n := hm
                                  obtain ⟨b, off, rfl, hc⟩ := (HI.out.below (by rw [HB.out]; exact hbr)).at hjn
                                  obtain ⟨rfl, hBX, hL, hl⟩ := HL6.out (by omega)
                                  have hLr : Arr .u16 wr (B + 3) n l := hL.keep hKr (by have := HS6.out; omega) (by simp; omega)
                                  obtain ⟨hw1, hw2⟩ := WAT.out j hjn
                                  have hwk := HWK.out j hjn
                                  have hz0' := HV.out j hjn
                                  have hst := (hA.set hwk (st W n (j + 1) (W j) + 1)).congr (g := st W n j) (fun t _ => st_back W n j t)
                                  have hcx := hA.cell hwk
                                  have hcf := hA.free hwk
                                  have hy0 := st_nonneg W (n := n) (m := j + 1) (W j) hm
                                  have hyn := st_lt W k n j HWK.out hjn
                                  have hlj := hl j hjn
                                  have hKt : Keep [X] w6 (wr.setCell ⟨X, W j, none⟩ (.int .i64 (st W n (j + 1) (W j) + 1))) := hKr.setCell (by simp) _
                                  obtain ⟨y, hy⟩ : ∃ y : Nat, st W n (j + 1) (W j) = (y : Int) := ⟨_, (Int.toNat_of_nonneg hy0).symm⟩
                                  rw [hy] at hst hcx hy0 hyn hlj hKt
                                  rw [Int.toNat_natCast] at hlj
                                  have hyn' : y < n := by omega
                                  have hcl := hLr.cell hyn'
                                  rw [hlj] at hcl
                                  clear hy hlj hA hLr hl hL
                                  generalize W j = x at hw1 hw2 hwk hst hcx hcf hKt
                                  generalize F j = z at hc hw1 hz0' hcl
                                  have htest : (IntKind.u16.wrap z != IntKind.u16.wrap (bits BinOp.and IntKind.i64 z 65535)) = false := by rw [low16]; simp
                                  go_wp2
                                  go_quiet (fail)
                                  go_wp2
                                  go_roundw
                                  case rel => exact ⟨j, by omega, rfl, hst, hKt.drewN nq⟩
                                  case measure => simp [intOf]

set_option maxHeartbeats 400000 in
set_option maxRecDepth 100000 in
theorem all4_long (a : Option Addr) (n c : Nat) (w : World) (hn : 131072 < n) :
    Calls Try.prog 4 #[.slice a n c] w fun e w' => e = .returned (.bool true) ∧ Below w.heap.size w w' := by
  by_cases h : n ≤ 1048576
  · go_enter Try.func4, Try.ntmps4
    go_wp2_with (go_at_call 12; refine (bytes12_yes a n c _ h).mono ?_; rintro e w ⟨rfl, rfl⟩)
    go_ret
    exact ⟨rfl, Below.refl _ _⟩
  · go_enter Try.func4, Try.ntmps4
    go_wp2_with (go_at_call 12; refine (bytes12_no a n c _ (by omega)).mono ?_; rintro e w ⟨rfl, rfl⟩)
    go_ret
    exact ⟨rfl, Below.refl _ _⟩
end Go.Proofs.Qxb6628496a
