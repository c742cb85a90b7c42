import Derived.Test.Qxb6608765aModsMag
namespace Go.Proofs.Qxb6608765aMods
open Go.RowKit

theorem brow_eq (z : Nat → Int) (w : World) : (Op.equalIn 10000 24 (.agg (brow z 32)) (.agg (brow z 32))).run Trym.prog w = .ok true w := by
  obtain ⟨i, hi⟩ := info5
  exact run_equalIn_refl w 9998 _ Trym.underlying24 hi Trym.underlying5 (by kernel_rfl) (fun j hj => ⟨_, brow_get z 32 j hj⟩)

theorem acc_eq (f : Nat → Int) (hf : IsBytes f) (neg : Bool) (n L : Nat) (hp : ∀ p, n ≤ p → f p = 0) (hL : ∀ i, L ≤ i → wd f i = 0) (ht : ∀ k, L = k + 1 → wd f k ≠ 0) :
    accB neg L = (ftB f n n && !(neg && nzB f n n)) := by
  have e1 : ftB f n n = decide (L ≤ 4) := by
    rw [Bool.eq_iff_iff, ftB_iff f n hp n (Nat.le_refl _), decide_eq_true_iff]
    constructor
    · intro h
      by_cases c : L ≤ 4
      · exact c
      · exfalso
        exact ht (L - 1) (by omega) (wd_zero f (L - 1) (fun p hq => h p (by omega) (by omega)))
    · intro h p _ h32
      have e : p = 8 * (p / 8) + p % 8 := by omega
      rw [e]
      exact wd_eq_zero f hf (p / 8) (hL _ (by omega)) (p % 8) (by omega)
  have e2 : nzB f n n = decide (0 < L) := by
    rw [Bool.eq_iff_iff, nzB_iff f n hp n (Nat.le_refl _), decide_eq_true_iff]
    constructor
    · rintro ⟨p, _, h⟩
      by_cases c : 0 < L
      · exact c
      · exfalso
        apply h
        have e : p = 8 * (p / 8) + p % 8 := by omega
        rw [e]
        exact wd_eq_zero f hf (p / 8) (hL _ (by omega)) (p % 8) (by omega)
    · intro h
      apply Classical.byContradiction
      intro c
      refine ht (L - 1) (by omega) (wd_zero f (L - 1) (fun p _ => ?_))
      apply Classical.byContradiction
      intro d
      exact c ⟨p, by omega, d⟩
  rw [e1, e2]; rfl

/-- The bytes as a list of values, from the head. -/
def bl (f : Nat → Int) (n : Nat) : List Value := (List.range n).map fun q => .int .u8 (f (n - 1 - q))
theorem bl_len (f : Nat → Int) (n : Nat) : (bl f n).length = n := by simp [bl]
theorem bl_get (f : Nat → Int) (n q : Nat) (h : q < n) : (bl f n)[q]? = some (.int .u8 (f (n - 1 - q))) := by simp [bl, h]
theorem splice_all {α : Type} (L cs : List α) (h : cs.length = L.length) : splice L 0 cs = cs := by
  simp [splice, h]

theorem magCopy {f : Nat → Int} {a : Option Addr} {n cp : Nat} {w w2 : World} {g : Nat} (hf : BytesAt f w a n cp) (hr : w2.heap[g]? = some (.cells (bl f n).toArray 5 (0, 0))) : BytesAt f w2 (some ⟨g, 0, none⟩) n n :=
  ⟨hf.isb, hf.past, hf.short, fun _ => ⟨g, 0, rfl, (Array.getElem?_eq_some_iff.1 hr).1, Nat.le_refl _, fun q hq => by
    rw [cell_of_row _ _ _ _ _ _ hr, Nat.zero_add]
    simpa using bl_get f n q hq⟩⟩

theorem bl_one (f : Nat → Int) (n : Nat) : ∀ v ∈ bl f n, v.oneCell' = true := by
  intro v hv
  obtain ⟨q, _, rfl⟩ := List.mem_map.1 hv
  rfl
theorem magSrc {f : Nat → Int} {ad : Addr} {n cp : Nat} {w w1 : World} {o : Obj} (hf : BytesAt f w (some ad) n cp) (hb : Below w.heap.size w w1) : ∀ j v, (bl f n)[j]? = some v → (w1.alloc o).cell? (ad.add j) = some v := by
  intro j v hv
  have hj : j < n := by have := (List.getElem?_eq_some_iff.1 hv).1; rwa [bl_len] at this
  obtain ⟨b, off, e, hbw, _, hc⟩ := hf.cells (by omega)
  injection e with e
  subst e
  rw [Addr.add_mid, World.cell?_alloc_lt _ _ _ (Nat.lt_of_lt_of_le hbw hb.size), hb.cell (p := ⟨b, off + j, none⟩) hbw, hc j hj, ← bl_get f n j hj, hv]
theorem BytesAt.later {f : Nat → Int} {w w1 : World} {a : Option Addr} {n cp : Nat} (h : BytesAt f w a n cp) (hb : Below w.heap.size w w1) : BytesAt f w1 a n cp :=
  ⟨h.isb, h.past, h.short, fun hn => by
    obtain ⟨b, off, e, hbw, hc, hcell⟩ := h.cells hn
    exact ⟨b, off, e, Nat.lt_of_lt_of_le hbw hb.size, hc, fun q hq => (hb.cell (p := ⟨b, off + q, none⟩) hbw).trans (hcell q hq)⟩⟩
theorem BytesAt.alloc {f : Nat → Int} {w : World} {a : Option Addr} {n cp : Nat} (h : BytesAt f w a n cp) (o : Obj) : BytesAt f (w.alloc o) a n cp := h.later ((Below.refl _ _).alloc (Nat.le_refl _) _)

set_option maxHeartbeats 2000000 in
theorem walk4 (f z : Nat → Int) (neg : Bool) (a : Option Addr) (n cp : Nat) (w : World) (hn : n ≤ 9223372036854775807) (hf : n ≤ 1048576 → BytesAt f w a n cp) (hnil : a = none → n = 0 ∧ cp = 0) :
    Calls Trym.prog 4 #[.agg #[.int .u64 (z 0), .int .u64 (z 1), .int .u64 (z 2), .int .u64 (z 3)], .bool neg, .slice a n cp] w fun e w' => e = .returned (.bool true) ∧ Below w.heap.size w w' := by
  have HF : Hid _ := hf; have HNIL : Hid _ := hnil
  clear hf hnil
  go_enter Trym.func4, Trym.ntmps4
  go_wp2_with fail
  refine (guard_any _ neg a n cp _ hn).mono ?_
  rintro e w1 ⟨rfl, hb1⟩
  have r0 : w1.heap[w.heap.size]? = some (.cells #[.int .u64 (z 0), .int .u64 (z 1), .int .u64 (z 2), .int .u64 (z 3)] 23 (0, 0)) := (hb1.block _ (by simp)).trans (heap_new_at rfl)
  have hB1 : Below w.heap.size w w1 := ((Below.refl _ _).alloc (Nat.le_refl _) _).trans (hb1.mono (by simp))
  have hs1 : w.heap.size < w1.heap.size := by have := hb1.size; simp at this; omega
  have R0 : Hid _ := r0; have HB1 : Hid _ := hB1
  clear r0 hB1 hb1
  by_cases hbig : n ≤ 1048576
  · have hbig' : ¬ (1048576 : Int) < n := by omega
    have hd : decide (n ≤ 1048576) = true := by simp [hbig]
    have HF1 : Hid (BytesAt f w a n cp) := HF.out hbig
    cases a with
    | none =>
      obtain ⟨rfl, rfl⟩ := HNIL.out rfl
      have BY : Hid (BytesAt f w1 none 0 0) := ⟨HF1.out.isb, HF1.out.past, HF1.out.short, fun h => by omega⟩
      have hsW := hs1
      clear HF HNIL HF1
      go_wp2_with fail
      refine (magnitude_any f none 0 0 _ BY.out).mono ?_
      rintro e w5 ⟨rfl, rfl⟩
      have hacc : ∀ L, (∀ i, L ≤ i → wd f i = 0) → (∀ k, L = k + 1 → wd f k ≠ 0) → accB neg L = (ftB f 0 0 && !(neg && nzB f 0 0)) := fun L h1 h2 => acc_eq f BY.out.isb neg 0 L BY.out.past h1 h2
      have HACC : Hid _ := hacc; clear hacc
      generalize ftB f 0 0 = ft at *
      generalize nzB f 0 0 = nz at *
      obtain ⟨c0, c1, c2, c3⟩ := cells4 R0.out
      cases ft
      · go_wp2_with fail
        refine (zsetBig_any f z neg none 0 0 _ BY.out).mono ?_
        rintro e w6 ⟨L, hL, hp, ht, hB6, h⟩
        have ha := HACC.out L hp ht
        rcases h with ⟨h1, rfl⟩ | ⟨h1, rfl⟩
        · rw [h1] at ha; cases ha
        clear ha h1 hL hp ht
        have q0 : w6.heap[w.heap.size]? = _ := (hB6.block _ hsW).trans R0.out
        have HB6 : Hid (Below w.heap.size w w6) := HB1.out.trans (hB6.mono (Nat.le_of_lt hsW))
        have hs6 : w.heap.size < w6.heap.size := Nat.lt_of_lt_of_le hsW hB6.size
        clear c0 c1 c2 c3 hB6
        obtain ⟨c0, c1, c2, c3⟩ := cells4 q0
        clear q0
        have hq := limbs_eq z
        go_wp2
        go_ret
        exact ⟨rfl, HB6.out.alloc (Nat.le_of_lt hs6) _⟩
      · cases neg
        · go_wp2_with fail
          refine (zsetBig_any f z false none 0 0 _ BY.out).mono ?_
          rintro e w6 ⟨L, hL, hp, ht, hB6, h⟩
          have ha := HACC.out L hp ht
          rcases h with ⟨h1, rfl⟩ | ⟨h1, rfl⟩
          case inr => rw [h1] at ha; cases ha
          clear ha h1 hL hp ht
          have HB6 : Hid (Below w.heap.size w w6) := HB1.out.trans (hB6.mono (Nat.le_of_lt hsW))
          have hs6 : w.heap.size < w6.heap.size := Nat.lt_of_lt_of_le hsW hB6.size
          have BY6 : Hid (BytesAt f w6 none 0 0) := BY.out.later hB6
          clear c0 c1 c2 c3 hB6
          go_wp2_with fail
          refine (zbytes_any (wd f) _).mono ?_
          rintro e w7 ⟨rfl, hB7⟩
          have BY7 : Hid (BytesAt f w7 none 0 0) := (BY6.out.alloc _).later hB7
          have HB7 : Hid (Below w.heap.size w w7) := (HB6.out.alloc (Nat.le_of_lt hs6) _).trans (hB7.mono (by simp; omega))
          have hs7 : w.heap.size < w7.heap.size := by have := hB7.size; simp at this; omega
          clear hB7
          go_wp2_with fail
          refine (rightAligned_any f none 0 0 _ BY7.out).mono ?_
          rintro e w8 ⟨rfl, hB8⟩
          have HB8 : Hid (Below w.heap.size w w8) := HB7.out.trans (hB8.mono (Nat.le_of_lt hs7))
          clear hB8
          have hq := brow_eq (wd f)
          go_wp2
          go_ret
          exact ⟨rfl, HB8.out⟩
        · cases nz
          · go_wp2_with fail
            refine (zsetBig_any f z true none 0 0 _ BY.out).mono ?_
            rintro e w6 ⟨L, hL, hp, ht, hB6, h⟩
            have ha := HACC.out L hp ht
            rcases h with ⟨h1, rfl⟩ | ⟨h1, rfl⟩
            case inr => rw [h1] at ha; cases ha
            clear ha h1 hL hp ht
            have HB6 : Hid (Below w.heap.size w w6) := HB1.out.trans (hB6.mono (Nat.le_of_lt hsW))
            have hs6 : w.heap.size < w6.heap.size := Nat.lt_of_lt_of_le hsW hB6.size
            have BY6 : Hid (BytesAt f w6 none 0 0) := BY.out.later hB6
            clear c0 c1 c2 c3 hB6
            go_wp2_with fail
            refine (zbytes_any (wd f) _).mono ?_
            rintro e w7 ⟨rfl, hB7⟩
            have BY7 : Hid (BytesAt f w7 none 0 0) := (BY6.out.alloc _).later hB7
            have HB7 : Hid (Below w.heap.size w w7) := (HB6.out.alloc (Nat.le_of_lt hs6) _).trans (hB7.mono (by simp; omega))
            have hs7 : w.heap.size < w7.heap.size := by have := hB7.size; simp at this; omega
            clear hB7
            go_wp2_with fail
            refine (rightAligned_any f none 0 0 _ BY7.out).mono ?_
            rintro e w8 ⟨rfl, hB8⟩
            have HB8 : Hid (Below w.heap.size w w8) := HB7.out.trans (hB8.mono (Nat.le_of_lt hs7))
            clear hB8
            have hq := brow_eq (wd f)
            go_wp2
            go_ret
            exact ⟨rfl, HB8.out⟩
          · go_wp2_with fail
            refine (zsetBig_any f z true none 0 0 _ BY.out).mono ?_
            rintro e w6 ⟨L, hL, hp, ht, hB6, h⟩
            have ha := HACC.out L hp ht
            rcases h with ⟨h1, rfl⟩ | ⟨h1, rfl⟩
            · rw [h1] at ha; cases ha
            clear ha h1 hL hp ht
            have q0 : w6.heap[w.heap.size]? = _ := (hB6.block _ hsW).trans R0.out
            have HB6 : Hid (Below w.heap.size w w6) := HB1.out.trans (hB6.mono (Nat.le_of_lt hsW))
            have hs6 : w.heap.size < w6.heap.size := Nat.lt_of_lt_of_le hsW hB6.size
            clear c0 c1 c2 c3 hB6
            obtain ⟨c0, c1, c2, c3⟩ := cells4 q0
            clear q0
            have hq := limbs_eq z
            go_wp2
            go_ret
            exact ⟨rfl, HB6.out.alloc (Nat.le_of_lt hs6) _⟩
    | some ad =>
      clear HF HNIL
      go_wp2_with (first
        | (at_make; refine wpList_make_two _ rfl _ _ 30 rfl 5 (.int .u8 0) 1 Trym.underlying30 (by kernel_rfl) rfl .i64 .i64 n n n n rfl rfl rfl rfl (by omega) (by omega) (by omega) ?_)
        | ((with_reducible show wpList _ _ _ (_ :: _) _ (World.alloc _ _)); refine wpList_copy_splice rfl (.tmp 26) (.tmp 27) 30 30 rfl 5 Trym.underlying30 (by kernel_rfl) (some ⟨w1.heap.size, 0, none⟩) (some ad) n n n cp (by rfl) (by rfl) w1.heap.size 0 (madeCells #[.int .u8 0] n).toList 5 (by simpa using heap_new_at (w := w1) rfl) (bl f n) (by rw [bl_len]; exact (Nat.min_self n).symm) (fun hl => ⟨rfl, ad, rfl, magSrc HF1.out HB1.out⟩) (by rw [bl_len]; simp [size_madeCells]) (bl_one f n) w1.heap.size w1 ((Below.refl _ _).alloc (Nat.le_refl _) _) (Nat.le_refl _) ?_; intro w2 HR2 hB2))
      have BY : Hid (BytesAt f w2 (some ⟨w1.heap.size, 0, none⟩) n n) := by
        have hr := HR2.out
        rw [splice_all _ _ (by rw [bl_len]; simp [size_madeCells])] at hr
        exact magCopy HF1.out hr
      replace R0 : Hid (w2.heap[w.heap.size]? = _) := (hB2.block _ hs1).trans R0.out
      replace HB1 : Hid (Below w.heap.size w w2) := HB1.out.trans (hB2.mono (Nat.le_of_lt hs1))
      have hsW : w.heap.size < w2.heap.size := Nat.lt_of_lt_of_le hs1 hB2.size
      clear HR2 hB2 HF1 hs1
      refine (magnitude_any f (some ⟨w1.heap.size, 0, none⟩) n n _ BY.out).mono ?_
      rintro e w5 ⟨rfl, rfl⟩
      have hacc : ∀ L, (∀ i, L ≤ i → wd f i = 0) → (∀ k, L = k + 1 → wd f k ≠ 0) → accB neg L = (ftB f n n && !(neg && nzB f n n)) := fun L h1 h2 => acc_eq f BY.out.isb neg n L BY.out.past h1 h2
      have HACC : Hid _ := hacc; clear hacc
      generalize ftB f n n = ft at *
      generalize nzB f n n = nz at *
      obtain ⟨c0, c1, c2, c3⟩ := cells4 R0.out
      cases ft
      · go_wp2_with fail
        refine (zsetBig_any f z neg (some ⟨w1.heap.size, 0, none⟩) n n _ BY.out).mono ?_
        rintro e w6 ⟨L, hL, hp, ht, hB6, h⟩
        have ha := HACC.out L hp ht
        rcases h with ⟨h1, rfl⟩ | ⟨h1, rfl⟩
        · rw [h1] at ha; cases ha
        clear ha h1 hL hp ht
        have q0 : w6.heap[w.heap.size]? = _ := (hB6.block _ hsW).trans R0.out
        have HB6 : Hid (Below w.heap.size w w6) := HB1.out.trans (hB6.mono (Nat.le_of_lt hsW))
        have hs6 : w.heap.size < w6.heap.size := Nat.lt_of_lt_of_le hsW hB6.size
        clear c0 c1 c2 c3 hB6
        obtain ⟨c0, c1, c2, c3⟩ := cells4 q0
        clear q0
        have hq := limbs_eq z
        go_wp2
        go_ret
        exact ⟨rfl, HB6.out.alloc (Nat.le_of_lt hs6) _⟩
      · cases neg
        · go_wp2_with fail
          refine (zsetBig_any f z false (some ⟨w1.heap.size, 0, none⟩) n n _ BY.out).mono ?_
          rintro e w6 ⟨L, hL, hp, ht, hB6, h⟩
          have ha := HACC.out L hp ht
          rcases h with ⟨h1, rfl⟩ | ⟨h1, rfl⟩
          case inr => rw [h1] at ha; cases ha
          clear ha h1 hL hp ht
          have HB6 : Hid (Below w.heap.size w w6) := HB1.out.trans (hB6.mono (Nat.le_of_lt hsW))
          have hs6 : w.heap.size < w6.heap.size := Nat.lt_of_lt_of_le hsW hB6.size
          have BY6 : Hid (BytesAt f w6 (some ⟨w1.heap.size, 0, none⟩) n n) := BY.out.later hB6
          clear c0 c1 c2 c3 hB6
          go_wp2_with fail
          refine (zbytes_any (wd f) _).mono ?_
          rintro e w7 ⟨rfl, hB7⟩
          have BY7 : Hid (BytesAt f w7 (some ⟨w1.heap.size, 0, none⟩) n n) := (BY6.out.alloc _).later hB7
          have HB7 : Hid (Below w.heap.size w w7) := (HB6.out.alloc (Nat.le_of_lt hs6) _).trans (hB7.mono (by simp; omega))
          have hs7 : w.heap.size < w7.heap.size := by have := hB7.size; simp at this; omega
          clear hB7
          go_wp2_with fail
          refine (rightAligned_any f (some ⟨w1.heap.size, 0, none⟩) n n _ BY7.out).mono ?_
          rintro e w8 ⟨rfl, hB8⟩
          have HB8 : Hid (Below w.heap.size w w8) := HB7.out.trans (hB8.mono (Nat.le_of_lt hs7))
          clear hB8
          have hq := brow_eq (wd f)
          go_wp2
          go_ret
          exact ⟨rfl, HB8.out⟩
        · cases nz
          · go_wp2_with fail
            refine (zsetBig_any f z true (some ⟨w1.heap.size, 0, none⟩) n n _ BY.out).mono ?_
            rintro e w6 ⟨L, hL, hp, ht, hB6, h⟩
            have ha := HACC.out L hp ht
            rcases h with ⟨h1, rfl⟩ | ⟨h1, rfl⟩
            case inr => rw [h1] at ha; cases ha
            clear ha h1 hL hp ht
            have HB6 : Hid (Below w.heap.size w w6) := HB1.out.trans (hB6.mono (Nat.le_of_lt hsW))
            have hs6 : w.heap.size < w6.heap.size := Nat.lt_of_lt_of_le hsW hB6.size
            have BY6 : Hid (BytesAt f w6 (some ⟨w1.heap.size, 0, none⟩) n n) := BY.out.later hB6
            clear c0 c1 c2 c3 hB6
            go_wp2_with fail
            refine (zbytes_any (wd f) _).mono ?_
            rintro e w7 ⟨rfl, hB7⟩
            have BY7 : Hid (BytesAt f w7 (some ⟨w1.heap.size, 0, none⟩) n n) := (BY6.out.alloc _).later hB7
            have HB7 : Hid (Below w.heap.size w w7) := (HB6.out.alloc (Nat.le_of_lt hs6) _).trans (hB7.mono (by simp; omega))
            have hs7 : w.heap.size < w7.heap.size := by have := hB7.size; simp at this; omega
            clear hB7
            go_wp2_with fail
            refine (rightAligned_any f (some ⟨w1.heap.size, 0, none⟩) n n _ BY7.out).mono ?_
            rintro e w8 ⟨rfl, hB8⟩
            have HB8 : Hid (Below w.heap.size w w8) := HB7.out.trans (hB8.mono (Nat.le_of_lt hs7))
            clear hB8
            have hq := brow_eq (wd f)
            go_wp2
            go_ret
            exact ⟨rfl, HB8.out⟩
          · go_wp2_with fail
            refine (zsetBig_any f z true (some ⟨w1.heap.size, 0, none⟩) n n _ BY.out).mono ?_
            rintro e w6 ⟨L, hL, hp, ht, hB6, h⟩
            have ha := HACC.out L hp ht
            rcases h with ⟨h1, rfl⟩ | ⟨h1, rfl⟩
            · rw [h1] at ha; cases ha
            clear ha h1 hL hp ht
            have q0 : w6.heap[w.heap.size]? = _ := (hB6.block _ hsW).trans R0.out
            have HB6 : Hid (Below w.heap.size w w6) := HB1.out.trans (hB6.mono (Nat.le_of_lt hsW))
            have hs6 : w.heap.size < w6.heap.size := Nat.lt_of_lt_of_le hsW hB6.size
            clear c0 c1 c2 c3 hB6
            obtain ⟨c0, c1, c2, c3⟩ := cells4 q0
            clear q0
            have hq := limbs_eq z
            go_wp2
            go_ret
            exact ⟨rfl, HB6.out.alloc (Nat.le_of_lt hs6) _⟩
  · have hd : decide (n ≤ 1048576) = false := by simp [hbig]
    go_wp2
    go_ret
    exact ⟨rfl, HB1.out⟩
end Go.Proofs.Qxb6608765aMods
