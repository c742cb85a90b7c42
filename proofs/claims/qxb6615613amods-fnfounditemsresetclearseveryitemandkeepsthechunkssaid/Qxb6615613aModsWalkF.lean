/-
  The law's own function (5), walked: tracked = false.
-/
import Derived.Test.Qxb6615613aModsSteps2
import Derived.Deep.CutRange
import Derived.Deep.RegionHeld3
namespace Go.Proofs.Qxb6615613aMods
open Go.RowKit

set_option maxRecDepth 100000 in
set_option maxHeartbeats 6000000 in
theorem walk5F (ss ts : Nat → ByteArray) (a a' : Option Addr) (n cp m cp' : Nat) (x : ByteArray) (v : Int) (w : World) (h : NamesAt ss w a n cp) (h' : NamesAt ts w a' m cp') (hx : x.size ≤ 9223372036854775807) :
    Calls Trym.prog 5 #[.slice a n cp, .bool false, .string x, .int .i64 v, .slice a' m cp'] w fun e w' => e = .returned (.bool true) ∧ Below w.heap.size w w' := by
  have H : Hid _ := h; have H' : Hid _ := h'
  clear h h'
  go_enter Trym.func5, Trym.ntmps5
  go_wp2_with fail
  refine (guard15_any ss ts a a' n cp m cp' false x v w H.out H'.out hx).mono ?_
  rintro e w1 ⟨hg, rfl⟩
  rcases hg with rfl | ⟨rfl, hS, hT⟩
  · go_wp2_with fail
    go_ret
    exact ⟨rfl, Below.refl _ _⟩
  · have HS : Hid _ := hS; have HT : Hid _ := hT
    have hn := hS.num
    have hm := hT.num
    clear hS hT
    by_cases hxl : x.size ≤ 65536
    · by_cases hv : 0 ≤ v ∧ v ≤ 64
      · obtain ⟨p, rfl⟩ : ∃ p : Nat, v = (p : Int) := ⟨v.toNat, by omega⟩
        have hp : p ≤ 64 := by omega
        have hd1 : decide ((p : Int) < 0) = false := by simp
        have hd2 : decide ((64 : Int) < (p : Int)) = false := by simp; omega
        clear hv
        go_wp2_with fail
        go_loop [11, 12] (fun z i => ∃ (k : Nat) (s : Int), k ≤ n ∧ 16 * (k : Int) ≤ s ∧ s ≤ 1048576 ∧ z = .int .i64 s ∧ i = .int .i64 k) (fun _ i => n - (intOf i).toNat)
        case atStart => exact ⟨0, x.size, by omega, by omega, by omega, rfl, rfl⟩
        case round =>
          obtain ⟨k, s, hk, hs0, hs1, rfl, rfl⟩ := hrel
          by_cases hlt : k < n
          · have hlt' : (k : Int) < n := by omega
            obtain ⟨b, off, rfl, _, hc⟩ := H.out.cell k hlt
            have hsz := HS.out.each k hlt
            by_cases hl : s + (16 + (ss k).size) ≤ 1048576
            · go_wp2_with fail
              go_round
              case rel => exact ⟨k + 1, s + (16 + (ss k).size), by omega, by omega, hl, by go_num, by go_num⟩
              case measure => simp [intOf]; omega
            · go_wp2_with fail
              go_ret
              exact ⟨rfl, Below.refl _ _⟩
          · have hlt' : ¬ (k : Int) < n := by omega
            have hn6 : n ≤ 65536 := by omega
            go_wp2_with fail
            go_loop [11, 13] (fun z i => ∃ (k : Nat) (s : Int), k ≤ m ∧ 16 * (k : Int) ≤ s ∧ s ≤ 1048576 ∧ z = .int .i64 s ∧ i = .int .i64 k) (fun _ i => m - (intOf i).toNat)
            case atStart => exact ⟨0, s, by omega, by omega, by omega, rfl, rfl⟩
            case round =>
              clear hlt hlt' hs0 hs1 hk
              obtain ⟨k, s, hk, hs0, hs1, rfl, rfl⟩ := hrel
              by_cases hlt : k < m
              · have hlt' : (k : Int) < m := by omega
                obtain ⟨b, off, rfl, _, hc⟩ := H'.out.cell k hlt
                have hsz := HT.out.each k hlt
                by_cases hl : s + (16 + (ts k).size) ≤ 1048576
                · go_wp2_with fail
                  go_round
                  case rel => exact ⟨k + 1, s + (16 + (ts k).size), by omega, by omega, hl, by go_num, by go_num⟩
                  case measure => simp [intOf]; omega
                · go_wp2_with fail
                  go_ret
                  exact ⟨rfl, Below.refl _ _⟩
              · have hlt' : ¬ (k : Int) < m := by omega
                have hm6 : m ≤ 65536 := by omega
                clear hlt hs0 hs1 hk HS HT hn hm hd1 hd2
                go_wp2_with fail
                have HST : Hid (Start w1 _ x _ _) := Start.mk' w1 x (some ⟨w1.heap.size, 0, none⟩) false
                generalize (w1.alloc (ruleO x)).alloc (.cells #[.pointer (some ⟨w1.heap.size, 0, none⟩), .bool false] 49) = W at HST ⊢
                obtain ⟨ro, tb, HST⟩ : ∃ ro tb, Hid (Start w1 W x ro tb) := ⟨_, _, HST⟩
                obtain ⟨N, hN, hN1, hN2⟩ : ∃ N : Nat, ((n : Int) + 1024 - 1) / 1024 + (p : Int) = (N : Int) ∧ n ≤ N * 1024 ∧ N ≤ 128 := ⟨((n + 1024 - 1) / 1024 + p), by omega, by omega, by omega⟩
                rw [hN]
                clear hN
                go_loopw [17, 18, 19] (fun cv fv i wr => ∃ (B : Nat → Nat) (k : Nat), k ≤ N ∧ i = .int .i64 k ∧ Hold W wr B k 0 cv fv) (fun _ _ i _ => N - (intOf i).toNat)
                case atStart => exact ⟨fun _ => 0, 0, by omega, rfl, Hold.start _ _⟩
                case round =>
                  obtain ⟨B, k, hk, rfl, hI⟩ := hrel
                  have HI : Hid _ := hI; clear hI
                  by_cases hlt : k < N
                  · have hlt' : (k : Int) < N := by omega
                    go_wp2_with fail
                    refine (newChunk_any _).mono ?_
                    rintro e w3 ⟨rfl, rfl⟩
                    obtain ⟨i52, hi, hz0, hz1, hz2⟩ := info_parts Trym.info52
                    obtain ⟨i54, ji, jz0, jz1, jz2⟩ := info_parts Trym.info54
                    have hbs := HI.out.below.size
                    go_wp2_with (first
                      | (at_builtin; refine wpList_append_own _ rfl (.tmp 97) (.tmp 99) 50 rfl W.heap.size 52 i52 (.slice none 0 0) 1 24 Trym.underlying50 hi hz0 hz1 hz2 rfl (by decide) u17 k _ rfl ((HI.out.crow.alloc _).alloc _) ⟨_, 0, none⟩ 1 1 [.slice (some ⟨wr.heap.size, 0, none⟩) 1024 1024] rfl rfl (new_cell (by simp)) (by intro u hu; simp at hu; subst hu; rfl) (by unfold maxLen; omega) (by omega) (by simp; omega) ?_; intro v3 w3 hown3 hg3 hnil3; have hfk := HI.out.fkept hg3; have hw3s := hown3.lt; have hg3s := hg3.size)
                      | (at_builtin; refine wpList_append_own _ rfl (.tmp 101) (.tmp 104) 51 rfl W.heap.size 54 i54 (.pointer none) 1 8 Trym.underlying51 ji jz0 jz1 jz2 rfl (by decide) u18 k _ rfl (hfk.alloc _) ⟨_, 0, none⟩ 1 1 [.pointer (some ⟨wr.heap.size, 0, none⟩)] rfl rfl (new_cell rfl) (by intro u hu; simp at hu; subst hu; rfl) (by unfold maxLen; omega) (by omega) (by simp at hg3s ⊢; omega) ?_; intro v5 w5 hown5 hg5 hnil5))
                    have HI5 : Hid _ := HI.out.grow hown3 hg3 hown5 hg5
                    clear hown3 hg3 hown5 hg5 hnil3 hnil5 hfk hw3s hg3s hi hz0 hz1 hz2 ji jz0 jz1 jz2 HI
                    go_wp2_with fail
                    go_roundw
                    case rel => exact ⟨_, k + 1, by omega, by go_num, HI5.out⟩
                    case measure => simp [intOf]; omega
                  · have ek : k = N := by omega
                    subst ek
                    clear hlt hk
                    go_wp2_with fail
                    obtain ⟨ca, ccp, rfl, _, _⟩ := row_of_owns HI.out.crow
                    obtain ⟨fa, fcp, rfl, _, _⟩ := row_of_owns HI.out.frow
                    go_loopw [21] (fun i wx => ∃ q : Nat, q ≤ n ∧ i = .int .i64 q ∧ Hold W wx B k q (.slice ca k ccp) (.slice fa k fcp)) (fun i _ => n - (intOf i).toNat)
                    case atStart => exact ⟨0, by omega, rfl, HI.out⟩
                    case round =>
                      clear HI
                      obtain ⟨q, hqn, rfl, hI⟩ := hrel
                      have HI : Hid _ := hI
                      by_cases hlt : q < n
                      · have hlt' : (q : Int) < n := by omega
                        have hBw : Below w1.heap.size w1 wr := HST.out.below.trans (hI.below.mono HST.out.below.size)
                        obtain ⟨b, off, rfl, hbl, hc⟩ := (H.out.later hBw).cell q hlt
                        have hbw1 : b < w1.heap.size := by
                          obtain ⟨b', off', e', hb', _⟩ := H.out.cell q hlt
                          injection e' with e'
                          injection e' with e1 _ _
                          omega
                        obtain ⟨j, r, hq, hr⟩ : ∃ j r : Nat, q = 1024 * j + r ∧ r < 1024 := ⟨q / 1024, q % 1024, by omega, by omega⟩
                        have hjk : j < k := by omega
                        obtain ⟨a2, cp2, e2, hrow, hown⟩ := row_of_owns hI.crow
                        injection e2 with e2 _ e3
                        subst e2
                        obtain ⟨g, rfl, hgl, hcc⟩ := hrow.cells j hjk
                        simp only [chunkV] at hcc
                        have hgne : g ≠ B j := hI.cne rfl j hjk
                        have hv0 := (hI.below.cell (p := ⟨w1.heap.size + 1, 0, none⟩) (by have := HST.out.size; simp; omega)).trans HST.out.v0
                        have hv1 := (hI.below.cell (p := ⟨w1.heap.size + 1, 1, none⟩) (by have := HST.out.size; simp; omega)).trans HST.out.v1
                        have hown := hI.own j hjk
                        have hWs := HST.out.size
                        have hbne : b ≠ B j := by omega
                        have hvne : w1.heap.size + 1 ≠ B j := by omega
                        have hq1 : (q : Int) / 1024 = (j : Int) := by omega
                        have hq2 : (q : Int) % 1024 = (r : Int) := by omega
                        have hq3 : (q : Int).tmod 1024 = (r : Int) := by rw [Int.tmod_eq_emod_of_nonneg (by omega)]; exact hq2
                        have hwj : IntKind.i64.wrap (j : Int) = j := by rw [IntKind.wrap_i64]; omega
                        have hwrr : IntKind.i64.wrap (r : Int) = r := by rw [IntKind.wrap_i64]; omega
                        have hjk' : (j : Int) < k := by omega
                        have hr' : (r : Int) < 1024 := by omega
                        have HQ : Hid _ := hq
                        have HS0 : Hid (wr.cell? ⟨b, off + q, none⟩ = some (.string (ss q)) ∧ wr.cell? ⟨g, j, none⟩ = some (.slice (some ⟨B j, 0, none⟩) 1024 1024) ∧ wr.cell? ⟨w1.heap.size + 1, 0, none⟩ = some (.pointer ro) ∧ wr.cell? ⟨w1.heap.size + 1, 1, none⟩ = some (.bool tb)) := ⟨hc, hcc, hv0, hv1⟩
                        clear hI hBw hq hrow hc hcc hv0 hv1 hown hWs e3
                        go_wp2_with fail
                        go_region_held3 (fun w' => w'.cell? ⟨b, off + q, none⟩ = some (.string (ss q)) ∧ w'.cell? ⟨g, j, none⟩ = some (.slice (some ⟨B j, 0, none⟩) 1024 1024) ∧ w'.cell? ⟨w1.heap.size + 1, 0, none⟩ = some (.pointer ro) ∧ w'.cell? ⟨w1.heap.size + 1, 1, none⟩ = some (.bool tb))
                          (first
                            | exact HS0.out
                            | exact hS3
                            | exact keep4 hS3 hbne hgne hvne hvne)
                          (first
                            | (go_at_call 17; refine (newItem_any (ss q) ro tb _).mono ?_; rintro e w3 ⟨rfl, hb3⟩; have hB3 : Below wr.heap.size wr w3 := (Below.refl _ _).drew.trans hb3; have hS3 := keepB HS0.out hB3; obtain ⟨y0, y1, y2, y3, ⟨c0, c1, c2, c3⟩, g0, g1, g2, g3⟩ := ((HI.out.later hB3).blk j hjk).there r hr))
                        have HN : Hid _ := fun y0 y1 y2 y3 => HI.out.store hB3 j r HQ.out hr hjk y0 y1 y2 y3
                        clear c0 c1 c2 c3 g0 g1 g2 g3 hS3 HS0 HI hb3
                        go_wp2_with fail
                        go_roundw
                        case rel => exact ⟨q + 1, by omega, by go_num, HN.out _ _ _ _⟩
                        case measure => simp [intOf]; omega
                      · have eq : q = n := by omega
                        subst eq
                        clear hlt hqn hI
                        go_wp2_with fail
                        refine (newFound_any ca k ccp q wr).mono ?_
                        rintro e w3 ⟨rfl, rfl⟩
                        go_wp2_with fail
                        refine (HI.out.resets hN1 (by omega)).mono ?_
                        rintro e w3 ⟨rfl, hI3, hF3⟩
                        have HI3 : Hid _ := hI3; have HF3 : Hid _ := hF3
                        clear hI3 hF3
                        go_wp2_with fail
                        refine (Hold.clears HI3.out HF3.out).mono ?_
                        rintro e w4 ⟨rfl, hI4, hF4⟩
                        have HI4 : Hid _ := hI4
                        have f0 := cell_of_row _ _ 0 _ _ _ hF4
                        simp at f0
                        have hWs := HST.out.size
                        have r0 := (hI4.below.cell (p := ⟨w1.heap.size, 0, none⟩) (by simp; omega)).trans HST.out.r0
                        have r1 := (hI4.below.cell (p := ⟨w1.heap.size, 1, none⟩) (by simp; omega)).trans HST.out.r1
                        have r3 := (hI4.below.cell (p := ⟨w1.heap.size, 3, none⟩) (by simp; omega)).trans HST.out.r3
                        clear hI4 hF4 HI3 HF3 HI
                        go_wp2_with fail
                        refine (foundChunks_any _ ca k ccp _ f0).mono ?_
                        rintro e w5 ⟨rfl, rfl⟩
                        clear f0 r0 r1 r3 hWs
                        go_wp2_with fail
                        go_loopw [18, 23] (fun fv kv wr => ∃ (B : Nat → Nat) (K : Nat), K ≤ 200 ∧ Hold W wr B K 0 kv fv) (fun _ kv _ => m - 1024 * lenV kv)
                        case atStart => exact ⟨B, k, by omega, HI4.out⟩
                        case round =>
                          clear HI4
                          obtain ⟨B, K, hK, hI⟩ := hrel
                          have HI : Hid _ := hI; clear hI
                          obtain ⟨ca, ccp, rfl, _, _⟩ := row_of_owns HI.out.crow
                          obtain ⟨fa, fcp, rfl, _, _⟩ := row_of_owns HI.out.frow
                          by_cases hlt : K * 1024 < m
                          · have hlt' : (K : Int) * 1024 < m := by omega
                            go_wp2_with fail
                            refine (newChunk_any _).mono ?_
                            rintro e w3 ⟨rfl, rfl⟩
                            obtain ⟨i52, hi, hz0, hz1, hz2⟩ := info_parts Trym.info52
                            obtain ⟨i54, ji, jz0, jz1, jz2⟩ := info_parts Trym.info54
                            have hbs := HI.out.below.size
                            go_wp2_with (first
                              | (at_builtin; refine wpList_append_own _ rfl (.tmp 164) (.tmp 166) 50 rfl W.heap.size 52 i52 (.slice none 0 0) 1 24 Trym.underlying50 hi hz0 hz1 hz2 rfl (by decide) (.slice ca K ccp) K _ rfl ((HI.out.crow.alloc _).alloc _) ⟨_, 0, none⟩ 1 1 [.slice (some ⟨wr.heap.size, 0, none⟩) 1024 1024] rfl rfl (new_cell (by simp)) (by intro u hu; simp at hu; subst hu; rfl) (by unfold maxLen; omega) (by omega) (by simp; omega) ?_; intro v3 w3 hown3 hg3 hnil3; have hfk := HI.out.fkept hg3; have hw3s := hown3.lt; have hg3s := hg3.size)
                              | (at_builtin; refine wpList_append_own _ rfl (.tmp 168) (.tmp 171) 51 rfl W.heap.size 54 i54 (.pointer none) 1 8 Trym.underlying51 ji jz0 jz1 jz2 rfl (by decide) (.slice fa K fcp) K _ rfl (hfk.alloc _) ⟨_, 0, none⟩ 1 1 [.pointer (some ⟨wr.heap.size, 0, none⟩)] rfl rfl (new_cell rfl) (by intro u hu; simp at hu; subst hu; rfl) (by unfold maxLen; omega) (by omega) (by simp at hg3s ⊢; omega) ?_; intro v5 w5 hown5 hg5 hnil5))
                            have HI5 : Hid _ := HI.out.grow hown3 hg3 hown5 hg5
                            obtain ⟨ca5, ccp5, rfl, _, _⟩ := row_of_owns HI5.out.crow
                            clear hown3 hg3 hown5 hg5 hnil3 hnil5 hfk hw3s hg3s hi hz0 hz1 hz2 ji jz0 jz1 jz2 HI
                            go_wp2_with fail
                            go_roundw
                            case rel => exact ⟨_, K + 1, by omega, HI5.out⟩
                            case measure => simp [lenV]; omega
                          · have hlt' : ¬ (K : Int) * 1024 < m := by omega
                            have hmK : m ≤ K * 1024 := by omega
                            clear hlt
                            go_wp2_with fail
                            go_loopw [25] (fun i wx => ∃ q : Nat, q ≤ m ∧ i = .int .i64 q ∧ Hold W wx B K q (.slice ca K ccp) (.slice fa K fcp)) (fun i _ => m - (intOf i).toNat)
                            case atStart => exact ⟨0, by omega, rfl, HI.out⟩
                            case round =>
                              clear HI
                              obtain ⟨q, hqn, rfl, hI⟩ := hrel
                              have HI : Hid _ := hI
                              by_cases hlt : q < m
                              · have hlt' : (q : Int) < m := by omega
                                have hBw : Below w1.heap.size w1 wr := HST.out.below.trans (hI.below.mono HST.out.below.size)
                                obtain ⟨b, off, rfl, hbl, hc⟩ := (H'.out.later hBw).cell q hlt
                                have hbw1 : b < w1.heap.size := by
                                  obtain ⟨b', off', e', hb', _⟩ := H'.out.cell q hlt
                                  injection e' with e'
                                  injection e' with e1 _ _
                                  omega
                                obtain ⟨j, r, hq, hr⟩ : ∃ j r : Nat, q = 1024 * j + r ∧ r < 1024 := ⟨q / 1024, q % 1024, by omega, by omega⟩
                                have hjk : j < K := by omega
                                obtain ⟨a2, cp2, e2, hrow, hown⟩ := row_of_owns hI.crow
                                injection e2 with e2 _ e3
                                subst e2
                                obtain ⟨g, rfl, hgl, hcc⟩ := hrow.cells j hjk
                                simp only [chunkV] at hcc
                                have hgne : g ≠ B j := hI.cne rfl j hjk
                                have hv0 := (hI.below.cell (p := ⟨w1.heap.size + 1, 0, none⟩) (by have := HST.out.size; simp; omega)).trans HST.out.v0
                                have hv1 := (hI.below.cell (p := ⟨w1.heap.size + 1, 1, none⟩) (by have := HST.out.size; simp; omega)).trans HST.out.v1
                                have hown := hI.own j hjk
                                have hWs := HST.out.size
                                have hbne : b ≠ B j := by omega
                                have hvne : w1.heap.size + 1 ≠ B j := by omega
                                have hq1 : (q : Int) / 1024 = (j : Int) := by omega
                                have hq2 : (q : Int) % 1024 = (r : Int) := by omega
                                have hq3 : (q : Int).tmod 1024 = (r : Int) := by rw [Int.tmod_eq_emod_of_nonneg (by omega)]; exact hq2
                                have hwj : IntKind.i64.wrap (j : Int) = j := by rw [IntKind.wrap_i64]; omega
                                have hwrr : IntKind.i64.wrap (r : Int) = r := by rw [IntKind.wrap_i64]; omega
                                have hjk' : (j : Int) < K := by omega
                                have hr' : (r : Int) < 1024 := by omega
                                have HQ : Hid _ := hq
                                have HS0 : Hid (wr.cell? ⟨b, off + q, none⟩ = some (.string (ts q)) ∧ wr.cell? ⟨g, j, none⟩ = some (.slice (some ⟨B j, 0, none⟩) 1024 1024) ∧ wr.cell? ⟨w1.heap.size + 1, 0, none⟩ = some (.pointer ro) ∧ wr.cell? ⟨w1.heap.size + 1, 1, none⟩ = some (.bool tb)) := ⟨hc, hcc, hv0, hv1⟩
                                clear hI hBw hq hrow hc hcc hv0 hv1 hown hWs e3
                                go_wp2_with fail
                                go_region_held3 (fun w' => w'.cell? ⟨b, off + q, none⟩ = some (.string (ts q)) ∧ w'.cell? ⟨g, j, none⟩ = some (.slice (some ⟨B j, 0, none⟩) 1024 1024) ∧ w'.cell? ⟨w1.heap.size + 1, 0, none⟩ = some (.pointer ro) ∧ w'.cell? ⟨w1.heap.size + 1, 1, none⟩ = some (.bool tb))
                                  (first
                                    | exact HS0.out
                                    | exact hS3
                                    | exact keep4 hS3 hbne hgne hvne hvne)
                                  (first
                                    | (go_at_call 17; refine (newItem_any (ts q) ro tb _).mono ?_; rintro e w3 ⟨rfl, hb3⟩; have hB3 : Below wr.heap.size wr w3 := (Below.refl _ _).drew.trans hb3; have hS3 := keepB HS0.out hB3; obtain ⟨y0, y1, y2, y3, ⟨c0, c1, c2, c3⟩, g0, g1, g2, g3⟩ := ((HI.out.later hB3).blk j hjk).there r hr))
                                have HN : Hid _ := fun y0 y1 y2 y3 => HI.out.store hB3 j r HQ.out hr hjk y0 y1 y2 y3
                                clear c0 c1 c2 c3 g0 g1 g2 g3 hS3 HS0 HI hb3
                                go_wp2_with fail
                                go_roundw
                                case rel => exact ⟨q + 1, by omega, by go_num, HN.out _ _ _ _⟩
                                case measure => simp [intOf]; omega
                              · have eq : q = m := by omega
                                subst eq
                                clear hlt hqn hI
                                go_wp2_with fail
                                refine (newFound_any ca K ccp q wr).mono ?_
                                rintro e w3 ⟨rfl, rfl⟩
                                go_wp2_with fail
                                refine (HI.out.resets hmK (by omega)).mono ?_
                                rintro e w3 ⟨rfl, hI3, hF3⟩
                                have HI3 : Hid _ := hI3; have HF3 : Hid _ := hF3
                                clear hI3 hF3
                                go_wp2_with fail
                                refine (Hold.clears HI3.out HF3.out).mono ?_
                                rintro e w4 ⟨rfl, hI4, hF4⟩
                                have HB : Hid (Below w1.heap.size w1 w4) := HST.out.below.trans (hI4.below.mono HST.out.below.size)
                                clear hI4 hF4 HI3 HF3 HI
                                go_wp2_with fail
                                go_ret
                                exact ⟨rfl, HB.out⟩
      · by_cases hv0 : v < 0
        · have hd1 : decide (v < 0) = true := by simp; omega
          clear hv
          go_wp2_with fail
          go_ret
          exact ⟨rfl, Below.refl _ _⟩
        · have hd1 : decide (v < 0) = false := by simp; omega
          have hd2 : decide (64 < v) = true := by simp; omega
          clear hv
          go_wp2_with fail
          go_ret
          exact ⟨rfl, Below.refl _ _⟩
    · have hxl' : (65536 : Int) < x.size := by omega
      go_wp2_with fail
      go_ret
      exact ⟨rfl, Below.refl _ _⟩
end Go.Proofs.Qxb6615613aMods
