import Derived.Test.Qxb6608793aModsTable
namespace Go.Proofs.Qxb6608793aMods
open Go.RowKit

/-- x behind the first n of ss. -/
def snoc1 (ss : Nat → ByteArray) (n : Nat) (x : ByteArray) (q : Nat) : ByteArray := if q < n then ss q else x
theorem snoc1_lt (ss : Nat → ByteArray) (n : Nat) (x : ByteArray) (q : Nat) (h : q < n) : snoc1 ss n x q = ss q := if_pos h
theorem snoc1_at (ss : Nat → ByteArray) (n : Nat) (x : ByteArray) : snoc1 ss n x n = x := if_neg (Nat.lt_irrefl n)

theorem MInv.start0 {mm : Nat → ByteArray} (W : World) (z : Value) (m : Nat) : MInv mm W (W.alloc (.cells (madeCells #[z] m) 9)) m 0 :=
  ⟨(Below.refl _ _).alloc (Nat.le_refl _) _, _, heap_new_at rfl, size_madeCells _ _, fun i hi => by omega⟩

set_option maxRecDepth 100000 in
set_option maxHeartbeats 1000000 in
theorem walk4 (ss : Nat → ByteArray) (a : Option Addr) (n cp : Nat) (x : ByteArray) (v : Int) (w : World) (h : NamesAt ss w a n cp) (hx : x.size ≤ 9223372036854775807) (hnil : a = none → n = 0 ∧ cp = 0) :
    Calls Trym.prog 4 #[.slice a n cp, .string x, .int .i64 v] w fun e w' => e = .returned (.bool true) ∧ Below w.heap.size w w' := by
  have H : Hid _ := h; have HNIL : Hid _ := hnil
  clear h hnil
  go_enter Trym.func4, Trym.ntmps4
  go_wp2_with fail
  refine (guard10_any ss a n cp x v w H.out hx).mono ?_
  rintro e w1 ⟨hg, rfl⟩
  rcases hg with rfl | ⟨rfl, hn⟩
  · go_wp2
    go_ret
    exact ⟨rfl, Below.refl _ _⟩
  · go_wp2_with fail
    refine (namesBytes_any ss a n cp x _ H.out hx).mono ?_
    rintro e w1 ⟨⟨r, hr0, hr1, rfl⟩, rfl⟩
    by_cases hr : 1048576 < r
    · go_wp2
      go_ret
      exact ⟨rfl, Below.refl _ _⟩
    · have hdr : decide (1048576 < r) = false := by simp; omega
      cases a with
      | none =>
        obtain ⟨rfl, rfl⟩ := HNIL.out rfl
        clear HNIL
        go_wp2_with (first
          | (at_make; refine wpList_make_two w1 rfl _ _ 22 rfl 9 (.string ⟨#[]⟩) 16 Trym.underlying22 (by kernel_rfl) rfl .i64 .i64 0 1 0 (0 + 1) (by rfl) (by rfl) (by rfl) (by simp) (by omega) (by omega) (by omega) ?_))
        have HN : Hid (NamesAt ss w1 none 0 0) := H.out
        clear H hr
        go_loopw [8, 9] (fun m i wr => m = .slice (some ⟨w1.heap.size, 0, none⟩) 0 1 ∧ i = .int .i64 0 ∧ MInv (snoc1 ss 0 x) w1 wr 1 0) (fun _ i _ => 0)
        case atStart => exact ⟨rfl, rfl, MInv.start0 w1 _ 1⟩
        case round =>
          obtain ⟨rfl, rfl, hI⟩ := hrel
          have HI : Hid _ := hI
          obtain ⟨u, hu, hfu⟩ := hI.cellAt 0 (by omega)
          have hltW := hI.lt
          have HI2 := hI.step (by omega) (.cells #[.string (snoc1 ss 0 x 0)] 9)
          rw [snoc1_at] at HI2
          have HNn : Hid (NamesAt ss _ none 0 0) := HN.out.later HI2.below
          have HNm : Hid (NamesAt (snoc1 ss 0 x) _ (some ⟨w1.heap.size, 0, none⟩) (0 + 1) 1) := HI2.names (by omega) (by omega) (fun i hi => by
            have e : i = 0 := by omega
            subst e; rw [snoc1_at]; exact hx)
          have HBf : Hid (Below w1.heap.size w1 _) := HI2.below
          clear hI HI HN HI2
          go_wp2_with fail
          refine (zof_no _ _ _ 0 _ (by omega) (Or.inl (by omega))).mono ?_
          rintro e w5 ⟨rfl, rfl⟩
          go_wp2_with fail
          refine (zof_no _ _ _ 0 _ (by omega) (Or.inl (by omega))).mono ?_
          rintro e w6 ⟨rfl, rfl⟩
          by_cases hvl : v = 0
          · have hvl' : (v != 0) = false := by simpa using hvl
            clear hvl
            go_wp2
            go_ret
            exact ⟨rfl, HBf.out⟩
          · have hvl' : (v != 0) = true := by simpa using hvl
            go_wp2_with fail
            refine (zof_no _ _ _ v _ (by omega) (by omega)).mono ?_
            rintro e w7 ⟨rfl, rfl⟩
            go_wp2_with fail
            refine (zof_no _ _ _ v _ (by omega) (by omega)).mono ?_
            rintro e w8 ⟨rfl, rfl⟩
            go_wp2
            go_ret
            exact ⟨rfl, HBf.out⟩
      | some ad =>
        clear HNIL
        go_wp2_with (first
          | (at_make; refine wpList_make_two _ rfl _ _ 22 rfl 9 (.string ⟨#[]⟩) 16 Trym.underlying22 (by kernel_rfl) rfl .i64 .i64 n n n n rfl rfl rfl rfl (by omega) (by omega) (by omega) ?_)
          | ((with_reducible show wpList _ _ _ (_ :: _) _ (World.alloc _ _)); refine wpList_copy_splice rfl (.tmp 33) (.tmp 34) 22 22 rfl 9 Trym.underlying22 (by kernel_rfl) (some ⟨w1.heap.size, 0, none⟩) (some ad) n n n cp (by rfl) (by rfl) w1.heap.size 0 (madeCells #[.string ⟨#[]⟩] n).toList 9 (by simpa using heap_new_at (w := w1) rfl) (sl ss n) (by rw [sl_len]; exact (Nat.min_self n).symm) (fun hl => ⟨rfl, ad, rfl, namesSrc H.out⟩) (by rw [sl_len]; simp [size_madeCells]) (sl_one ss n) w1.heap.size w1 ((Below.refl _ _).alloc (Nat.le_refl _) _) (Nat.le_refl _) ?_; intro w2 HR2 hB2)
          | (at_make; refine wpList_make_two w2 rfl _ _ 22 rfl 9 (.string ⟨#[]⟩) 16 Trym.underlying22 (by kernel_rfl) rfl .i64 .i64 0 (n + 1) 0 (n + 1) rfl rfl rfl (by simp) (by omega) (by omega) (by omega) ?_))
        have HN : Hid (NamesAt ss w2 (some ⟨w1.heap.size, 0, none⟩) n n) := by
          have hr := HR2.out
          rw [splice_all _ _ (by rw [sl_len]; simp [size_madeCells])] at hr
          exact namesCopy H.out hr
        have HB2 : Hid (Below w1.heap.size w1 w2) := hB2
        clear HR2 hB2 H hr
        have hszm : ∀ i, i < n + 1 → (snoc1 ss n x i).size ≤ 9223372036854775807 := fun i hi => by
          by_cases h : i < n
          · rw [snoc1_lt ss n x i h]; exact HN.out.sizes i h
          · have e : i = n := by omega
            subst e; rw [snoc1_at]; exact hx
        have HSM : Hid _ := hszm; clear hszm
        go_loopw [8, 9] (fun m i wr => ∃ k : Nat, k ≤ n ∧ m = .slice (some ⟨w2.heap.size, 0, none⟩) k (n + 1) ∧ i = .int .i64 k ∧ MInv (snoc1 ss n x) w2 wr (n + 1) k) (fun _ i _ => n - (intOf i).toNat)
        case atStart => exact ⟨0, by omega, rfl, rfl, MInv.start0 w2 _ (n + 1)⟩
        case round =>
          obtain ⟨k, hk, rfl, rfl, hI⟩ := hrel
          have HI : Hid _ := hI
          obtain ⟨u, hu, hfu⟩ := hI.cellAt k (by omega)
          have hltW := hI.lt
          by_cases hlt : k < n
          · have hlt' : (k : Int) < n := by omega
            obtain ⟨b, off, eA, hc⟩ := (HN.out.later hI.below).cell k hlt
            clear hI
            injection eA with eA
            injection eA with eb eo _
            subst eb
            have eo' : off = 0 := eo.symm
            subst eo'
            rw [Nat.zero_add] at hc
            clear eo
            go_wp2
            go_roundw
            case rel => exact ⟨k + 1, by omega, rfl, by go_num, by have h := HI.out.step (by omega) (.cells #[.string (snoc1 ss n x k)] 9); rw [snoc1_lt ss n x k hlt] at h; exact h⟩
            case measure => simp [intOf]; omega
          · have ek : k = n := by omega
            subst ek
            have hlt' : ¬ (k : Int) < k := by omega
            have HI2 := HI.out.step (by omega) (.cells #[.string (snoc1 ss k x k)] 9)
            rw [snoc1_at] at HI2
            have HNn : Hid (NamesAt ss _ (some ⟨w1.heap.size, 0, none⟩) k k) := HN.out.later HI2.below
            have HNm : Hid (NamesAt (snoc1 ss k x) _ (some ⟨w2.heap.size, 0, none⟩) (k + 1) (k + 1)) := HI2.names (by omega) (by omega) HSM.out
            have HBf : Hid (Below w1.heap.size w1 _) := HB2.out.trans (HI2.below.mono HB2.out.size)
            clear hI HI HN HB2 HSM hk HI2
            go_wp2_with fail
            refine (zof_no _ _ _ (k : Int) _ (by omega) (Or.inr (by omega))).mono ?_
            rintro e w5 ⟨rfl, rfl⟩
            go_wp2_with fail
            by_cases h1 : 1 ≤ k
            · have h1' : (1 : Int) ≤ k := by omega
              refine (zof_yes2 (snoc1 ss k x) _ _ _ _ k rfl _ HNm.out (by omega) (by omega)).mono ?_
              rintro e w6 ⟨rfl, rfl⟩
              rw [snoc1_at]
              by_cases hvl : v = (k : Int)
              · have hvl' : (v != (k : Int)) = false := by simpa using hvl
                clear hvl
                go_wp2
                go_ret
                exact ⟨rfl, HBf.out⟩
              · have hvl' : (v != (k : Int)) = true := by simpa using hvl
                go_wp2_with fail
                by_cases hv3 : 1 ≤ v ∧ v < k
                · obtain ⟨j, rfl⟩ : ∃ j : Nat, v = (j : Int) := ⟨v.toNat, by omega⟩
                  refine (zof_yes2 ss _ _ _ _ j rfl _ HNn.out (by omega) (by omega)).mono ?_
                  rintro e w7 ⟨rfl, rfl⟩
                  go_wp2_with fail
                  refine (zof_yes2 (snoc1 ss k x) _ _ _ _ j rfl _ HNm.out (by omega) (by omega)).mono ?_
                  rintro e w8 ⟨rfl, rfl⟩
                  rw [snoc1_lt ss k x j (by omega)]
                  go_wp2
                  go_ret
                  exact ⟨rfl, HBf.out⟩
                · refine (zof_no _ _ _ v _ (by omega) (by omega)).mono ?_
                  rintro e w7 ⟨rfl, rfl⟩
                  go_wp2_with fail
                  refine (zof_no _ _ _ v _ (by omega) (by omega)).mono ?_
                  rintro e w8 ⟨rfl, rfl⟩
                  go_wp2
                  go_ret
                  exact ⟨rfl, HBf.out⟩
            · have h1' : ¬ (1 : Int) ≤ k := by omega
              refine (zof_no _ _ _ (k : Int) _ (by omega) (Or.inl (by omega))).mono ?_
              rintro e w6 ⟨rfl, rfl⟩
              by_cases hvl : v = (k : Int)
              · have hvl' : (v != (k : Int)) = false := by simpa using hvl
                clear hvl
                go_wp2
                go_ret
                exact ⟨rfl, HBf.out⟩
              · have hvl' : (v != (k : Int)) = true := by simpa using hvl
                go_wp2_with fail
                by_cases hv3 : 1 ≤ v ∧ v < k
                · obtain ⟨j, rfl⟩ : ∃ j : Nat, v = (j : Int) := ⟨v.toNat, by omega⟩
                  refine (zof_yes2 ss _ _ _ _ j rfl _ HNn.out (by omega) (by omega)).mono ?_
                  rintro e w7 ⟨rfl, rfl⟩
                  go_wp2_with fail
                  refine (zof_yes2 (snoc1 ss k x) _ _ _ _ j rfl _ HNm.out (by omega) (by omega)).mono ?_
                  rintro e w8 ⟨rfl, rfl⟩
                  rw [snoc1_lt ss k x j (by omega)]
                  go_wp2
                  go_ret
                  exact ⟨rfl, HBf.out⟩
                · refine (zof_no _ _ _ v _ (by omega) (by omega)).mono ?_
                  rintro e w7 ⟨rfl, rfl⟩
                  go_wp2_with fail
                  refine (zof_no _ _ _ v _ (by omega) (by omega)).mono ?_
                  rintro e w8 ⟨rfl, rfl⟩
                  go_wp2
                  go_ret
                  exact ⟨rfl, HBf.out⟩
end Go.Proofs.Qxb6608793aMods
