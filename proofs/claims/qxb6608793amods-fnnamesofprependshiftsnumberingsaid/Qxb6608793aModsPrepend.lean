import Derived.Test.Qxb6608793aModsTable
namespace Go.Proofs.Qxb6608793aMods
open Go.RowKit

set_option maxRecDepth 100000 in
set_option maxHeartbeats 1000000 in
theorem walk3 (ss : Nat → ByteArray) (a : Option Addr) (n cp : Nat) (x : ByteArray) (v : Int) (w : World) (h : NamesAt ss w a n cp) (hx : x.size ≤ 9223372036854775807) (hv0 : -9223372036854775808 ≤ v) (hv1 : v ≤ 9223372036854775807) (hnil : a = none → n = 0 ∧ cp = 0) :
    Calls Trym.prog 3 #[.slice a n cp, .string x, .int .i64 v] w fun e w' => e = .returned (.bool true) ∧ Below w.heap.size w w' := by
  have H : Hid _ := h; have HNIL : Hid _ := hnil
  clear h hnil
  go_enter Trym.func3, Trym.ntmps3
  go_wp2_with fail
  refine (guard7_any ss a n cp x v w H.out hx).mono ?_
  rintro e w1 ⟨hg, rfl⟩
  rcases hg with rfl | ⟨rfl, hn⟩
  · go_wp2
    go_ret
    exact ⟨rfl, Below.refl _ _⟩
  · go_wp2_with fail
    refine (namesBytes_any ss a n cp x _ H.out hx).mono ?_
    rintro e w1 ⟨⟨r, hr0, hr1, rfl⟩, rfl⟩
    by_cases hr : 1048576 < r
    · go_wp2
      go_ret
      exact ⟨rfl, Below.refl _ _⟩
    · by_cases hv : v = 9223372036854775807
      · go_wp2
        go_ret
        exact ⟨rfl, Below.refl _ _⟩
      · have hdr : decide (1048576 < r) = false := by simp; omega
        have hv2 : v < 9223372036854775807 := by omega
        cases a with
        | none =>
          obtain ⟨rfl, rfl⟩ := HNIL.out rfl
          clear HNIL
          have hmade := madeCells_get (.string ⟨#[]⟩) (0 + 1) 0 (by omega)
          go_wp2_with (first
            | (at_make; refine wpList_make_two w1 rfl _ _ 22 rfl 9 (.string ⟨#[]⟩) 16 Trym.underlying22 (by kernel_rfl) rfl .i64 .i64 0 1 0 (0 + 1) (by rfl) (by rfl) (by rfl) (by simp) (by omega) (by omega) (by omega) ?_))
          have HN : Hid (NamesAt ss w1 none 0 0) := H.out
          clear hmade H hv hr
          go_loopw [8, 9] (fun m i wr => m = .slice (some ⟨w1.heap.size, 0, none⟩) 1 1 ∧ i = .int .i64 0 ∧ MInv (cons1 x ss) w1 wr 1 1) (fun _ i _ => 0)
          case atStart => exact ⟨rfl, rfl, MInv.start w1 _ 1 _ (by omega)⟩
          case round =>
            obtain ⟨rfl, rfl, hI⟩ := hrel
            have HNn : Hid (NamesAt ss wr none 0 0) := HN.out.later hI.below
            have HNm : Hid (NamesAt (cons1 x ss) wr (some ⟨w1.heap.size, 0, none⟩) 1 1) := hI.names (by omega) (by omega) (fun i hi => by
              match i, hi with
              | 0, _ => exact hx)
            have HBf : Hid (Below w1.heap.size w1 wr) := hI.below
            clear hI HN
            go_wp2_with fail
            refine (zof_no _ _ _ 0 wr (by omega) (Or.inl (by omega))).mono ?_
            rintro e w5 ⟨rfl, rfl⟩
            go_wp2_with fail
            refine (zof_no _ _ _ 1 _ (by omega) (Or.inr (by omega))).mono ?_
            rintro e w6 ⟨rfl, rfl⟩
            go_wp2_with fail
            by_cases hv3 : 1 ≤ v
            · by_cases hv4 : v < 0
              · obtain ⟨j, rfl⟩ : ∃ j : Nat, v = (j : Int) := ⟨v.toNat, by omega⟩
                refine (zof_yes2 ss _ _ _ _ j rfl _ HNn.out (by omega) (by omega)).mono ?_
                rintro e w7 ⟨rfl, rfl⟩
                go_wp2_with fail
                refine (zof_yes2 (cons1 x ss) _ _ _ _ (j + 1) (by omega) _ HNm.out (by omega) (by omega)).mono ?_
                rintro e w8 ⟨rfl, rfl⟩
                rw [show cons1 x ss (j + 1) = ss j from rfl]
                go_wp2
                go_ret
                exact ⟨rfl, HBf.out⟩
              · refine (zof_no _ _ _ v _ (by omega) (Or.inr (by omega))).mono ?_
                rintro e w7 ⟨rfl, rfl⟩
                go_wp2_with fail
                refine (zof_no _ _ _ (v + 1) _ (by omega) (Or.inr (by omega))).mono ?_
                rintro e w8 ⟨rfl, rfl⟩
                go_wp2
                go_ret
                exact ⟨rfl, HBf.out⟩
            · refine (zof_no _ _ _ v _ (by omega) (Or.inl (by omega))).mono ?_
              rintro e w7 ⟨rfl, rfl⟩
              go_wp2_with fail
              refine (zof_no _ _ _ v _ (by omega) (Or.inl (by omega))).mono ?_
              rintro e w8 ⟨rfl, rfl⟩
              go_wp2
              go_ret
              exact ⟨rfl, HBf.out⟩
        | some ad =>
          clear HNIL
          have hmade := madeCells_get (.string ⟨#[]⟩) (n + 1) 0 (by omega)
          go_wp2_with (first
            | (at_make; refine wpList_make_two _ rfl _ _ 22 rfl 9 (.string ⟨#[]⟩) 16 Trym.underlying22 (by kernel_rfl) rfl .i64 .i64 n n n n rfl rfl rfl rfl (by omega) (by omega) (by omega) ?_)
            | ((with_reducible show wpList _ _ _ (_ :: _) _ (World.alloc _ _)); refine wpList_copy_splice rfl (.tmp 36) (.tmp 37) 22 22 rfl 9 Trym.underlying22 (by kernel_rfl) (some ⟨w1.heap.size, 0, none⟩) (some ad) n n n cp (by rfl) (by rfl) w1.heap.size 0 (madeCells #[.string ⟨#[]⟩] n).toList 9 (by simpa using heap_new_at (w := w1) rfl) (sl ss n) (by rw [sl_len]; exact (Nat.min_self n).symm) (fun hl => ⟨rfl, ad, rfl, namesSrc H.out⟩) (by rw [sl_len]; simp [size_madeCells]) (sl_one ss n) w1.heap.size w1 ((Below.refl _ _).alloc (Nat.le_refl _) _) (Nat.le_refl _) ?_; intro w2 HR2 hB2)
            | (at_make; refine wpList_make_two w2 rfl _ _ 22 rfl 9 (.string ⟨#[]⟩) 16 Trym.underlying22 (by kernel_rfl) rfl .i64 .i64 0 (n + 1) 0 (n + 1) rfl rfl rfl (by simp) (by omega) (by omega) (by omega) ?_))
          have HN : Hid (NamesAt ss w2 (some ⟨w1.heap.size, 0, none⟩) n n) := by
            have hr := HR2.out
            rw [splice_all _ _ (by rw [sl_len]; simp [size_madeCells])] at hr
            exact namesCopy H.out hr
          have HB2 : Hid _ := hB2
          clear hmade HR2 hB2 H hv hr
          have hszm : ∀ i, i < (n + 1) → (cons1 x ss i).size ≤ 9223372036854775807 := fun i hi => by
            match i, hi with
            | 0, _ => exact hx
            | i + 1, hi => exact HN.out.sizes i (by omega)
          have HSM : Hid _ := hszm; clear hszm
          go_loopw [8, 9] (fun m i wr => ∃ k : Nat, k ≤ n ∧ m = .slice (some ⟨w2.heap.size, 0, none⟩) (k + 1) (n + 1) ∧ i = .int .i64 k ∧ MInv (cons1 x ss) w2 wr (n + 1) (k + 1)) (fun _ i _ => n - (intOf i).toNat)
          case atStart => exact ⟨0, by omega, rfl, rfl, MInv.start w2 _ (n + 1) _ (by omega)⟩
          case round =>
            obtain ⟨k, hk, rfl, rfl, hI⟩ := hrel
            have HI : Hid _ := hI
            by_cases hlt : k < n
            · have hlt' : (k : Int) < n := by omega
              obtain ⟨b, off, eA, hc⟩ := (HN.out.later hI.below).cell k hlt
              obtain ⟨u, hu, hfu⟩ := hI.cellAt (k + 1) (by omega)
              have hltW := hI.lt
              clear hI
              injection eA with eA
              injection eA with eb eo _
              subst eb
              have eo' : off = 0 := eo.symm
              subst eo'
              rw [Nat.zero_add] at hc
              clear eo
              go_wp2
              go_roundw
              case rel => exact ⟨k + 1, by omega, rfl, by go_num, HI.out.step (by omega) _⟩
              case measure => simp [intOf]; omega
            · have ek : k = n := by omega
              subst ek
              have HNn : Hid (NamesAt ss wr (some ⟨w1.heap.size, 0, none⟩) k k) := HN.out.later hI.below
              have HNm : Hid (NamesAt (cons1 x ss) wr (some ⟨w2.heap.size, 0, none⟩) (k + 1) (k + 1)) := hI.names (by omega) (by omega) HSM.out
              have HBf : Hid (Below w1.heap.size w1 wr) := HB2.out.trans (hI.below.mono HB2.out.size)
              clear hI HI HN HB2 HSM hk
              go_wp2_with fail
              refine (zof_no _ _ _ 0 wr (by omega) (Or.inl (by omega))).mono ?_
              rintro e w5 ⟨rfl, rfl⟩
              go_wp2_with fail
              by_cases h1 : 1 ≤ k
              · have h1' : (1 : Int) ≤ k := by omega
                obtain ⟨b, off, eA, hc⟩ := HNn.out.cell 0 (by omega)
                injection eA with eA
                injection eA with eb eo _
                subst eb
                have eo' : off = 0 := eo.symm
                subst eo'
                rw [Nat.zero_add] at hc
                clear eo
                refine (zof_yes2 (cons1 x ss) _ _ _ 1 1 rfl _ HNm.out (by omega) (by omega)).mono ?_
                rintro e w6 ⟨rfl, rfl⟩
                rw [show cons1 x ss 1 = ss 0 from rfl]
                go_wp2_with fail
                by_cases hv3 : 1 ≤ v
                · by_cases hv4 : v < k
                  · obtain ⟨j, rfl⟩ : ∃ j : Nat, v = (j : Int) := ⟨v.toNat, by omega⟩
                    refine (zof_yes2 ss _ _ _ _ j rfl _ HNn.out (by omega) (by omega)).mono ?_
                    rintro e w7 ⟨rfl, rfl⟩
                    go_wp2_with fail
                    refine (zof_yes2 (cons1 x ss) _ _ _ _ (j + 1) (by omega) _ HNm.out (by omega) (by omega)).mono ?_
                    rintro e w8 ⟨rfl, rfl⟩
                    rw [show cons1 x ss (j + 1) = ss j from rfl]
                    go_wp2
                    go_ret
                    exact ⟨rfl, HBf.out⟩
                  · refine (zof_no _ _ _ v _ (by omega) (Or.inr (by omega))).mono ?_
                    rintro e w7 ⟨rfl, rfl⟩
                    go_wp2_with fail
                    refine (zof_no _ _ _ (v + 1) _ (by omega) (Or.inr (by omega))).mono ?_
                    rintro e w8 ⟨rfl, rfl⟩
                    go_wp2
                    go_ret
                    exact ⟨rfl, HBf.out⟩
                · refine (zof_no _ _ _ v _ (by omega) (Or.inl (by omega))).mono ?_
                  rintro e w7 ⟨rfl, rfl⟩
                  go_wp2_with fail
                  refine (zof_no _ _ _ v _ (by omega) (Or.inl (by omega))).mono ?_
                  rintro e w8 ⟨rfl, rfl⟩
                  go_wp2
                  go_ret
                  exact ⟨rfl, HBf.out⟩
              · have h1' : ¬ (1 : Int) ≤ k := by omega
                refine (zof_no _ _ _ 1 _ (by omega) (Or.inr (by omega))).mono ?_
                rintro e w6 ⟨rfl, rfl⟩
                go_wp2_with fail
                by_cases hv3 : 1 ≤ v
                · by_cases hv4 : v < k
                  · obtain ⟨j, rfl⟩ : ∃ j : Nat, v = (j : Int) := ⟨v.toNat, by omega⟩
                    refine (zof_yes2 ss _ _ _ _ j rfl _ HNn.out (by omega) (by omega)).mono ?_
                    rintro e w7 ⟨rfl, rfl⟩
                    go_wp2_with fail
                    refine (zof_yes2 (cons1 x ss) _ _ _ _ (j + 1) (by omega) _ HNm.out (by omega) (by omega)).mono ?_
                    rintro e w8 ⟨rfl, rfl⟩
                    rw [show cons1 x ss (j + 1) = ss j from rfl]
                    go_wp2
                    go_ret
                    exact ⟨rfl, HBf.out⟩
                  · refine (zof_no _ _ _ v _ (by omega) (Or.inr (by omega))).mono ?_
                    rintro e w7 ⟨rfl, rfl⟩
                    go_wp2_with fail
                    refine (zof_no _ _ _ (v + 1) _ (by omega) (Or.inr (by omega))).mono ?_
                    rintro e w8 ⟨rfl, rfl⟩
                    go_wp2
                    go_ret
                    exact ⟨rfl, HBf.out⟩
                · refine (zof_no _ _ _ v _ (by omega) (Or.inl (by omega))).mono ?_
                  rintro e w7 ⟨rfl, rfl⟩
                  go_wp2_with fail
                  refine (zof_no _ _ _ v _ (by omega) (Or.inl (by omega))).mono ?_
                  rintro e w8 ⟨rfl, rfl⟩
                  go_wp2
                  go_ret
                  exact ⟨rfl, HBf.out⟩
end Go.Proofs.Qxb6608793aMods
