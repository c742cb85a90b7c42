/-
  (*foundItems).reset (functions 29 and 19), walked.
-/
import Derived.Test.Qxb6615613aModsCleared
import Derived.Deep.RegionLaw
namespace Go.Proofs.Qxb6615613aMods
open Go.RowKit

theorem zeroCells_get (n c : Nat) (h : c < n * 4) : (Builtin.zeroCells Z4 n).toList[c]? = some (zc c) := by
  have h4 : c % 4 < 4 := Nat.mod_lt _ (by omega)
  have := zero4_get c
  rw [Array.getElem?_eq_getElem (by simpa using h4)] at this
  injection this with this
  rw [Array.getElem?_toList, Array.getElem?_eq_getElem (by simp [Builtin.zeroCells]; exact h)]
  simp only [Builtin.zeroCells, Array.getElem_map, Array.getElem_range]
  rw [← this]
  simp [h4]

theorem zeroCells_len (n : Nat) : (Builtin.zeroCells Z4 n).toList.length = n * 4 := by simp [Builtin.zeroCells]

theorem zc_one (c : Nat) : (zc c).oneCell' = true := by
  unfold zc
  split
  · rfl
  · split <;> rfl

theorem zeroCells_one (n : Nat) : ∀ v ∈ (Builtin.zeroCells Z4 n).toList, v.oneCell' = true := by
  intro v hv
  obtain ⟨c, hc, rfl⟩ := List.getElem_of_mem hv
  have := zeroCells_get n c (by rw [zeroCells_len] at hc; exact hc)
  rw [List.getElem?_eq_getElem hc] at this
  injection this with this
  rw [this]
  exact zc_one c

theorem Blk.cap {w : World} {b m : Nat} (h : Blk w b m) : Blk w b (min m 4096) := by
  obtain ⟨C, hC, hs, r⟩ := h
  exact ⟨C, hC, hs, fun c h1 h2 => r c (by omega) h2⟩

/-- w' is w, but that block b holds zero items alone. -/
structure Wiped (b : Nat) (w w' : World) : Prop where
  os : w'.os = w.os
  tape : w'.tape = w.tape
  output : w'.output = w.output
  size : w'.heap.size = w.heap.size
  other : ∀ i, i ≠ b → w'.heap[i]? = w.heap[i]?
  blk : Blk w' b 0

theorem run_clear_chunk (w : World) (ty : TypeId) (b n c m : Nat) (hb : Blk w b m) (hn : n ≤ 1024) (hm : m ≤ n * 4) (h0 : 0 < n) :
    ∃ w', (Builtin.clear_ #[52] ty #[.slice (some ⟨b, 0, none⟩) n c]).run Trym.prog w = .ok (.tuple #[]) w' ∧ Wiped b w w' := by
  obtain ⟨C, hC, hs, hz⟩ := hb
  have hst := run_storeCells_at (P := Trym.prog) b 0 57 (Builtin.zeroCells Z4 n).toList 0 C w hC (by rw [zeroCells_len]; omega) (zeroCells_one n)
  have hzv : (zeroValue 57).run Trym.prog w = .ok (.agg Z4) w := by
    have : (Trym.prog.info? 57).map (·.zero) = some (some (.agg Z4)) := by kernel_rfl
    cases hq : Trym.prog.info? 57 with
    | none => simp [hq] at this
    | some i => simp [hq] at this; simp [zeroValue, typeInfo, hq, this]
  obtain ⟨n, rfl⟩ : ∃ k, n = k + 1 := ⟨n - 1, by omega⟩
  have hrun : (Builtin.clear_ #[52] ty #[.slice (some ⟨b, 0, none⟩) (n + 1) c]).run Trym.prog w = .ok (.tuple #[]) (w.setRow b ((Builtin.zeroCells Z4 (n + 1)).toList ++ List.drop (Builtin.zeroCells Z4 (n + 1)).size C.toList).toArray) := by
    simp [Builtin.clear_, run_underlying Trym.underlying52, hzv, Value.cells, hst]
  refine ⟨_, hrun, ⟨rfl, rfl, rfl, by simp [World.setRow], fun i hi => setRow_other _ _ _ _ hi, ?_⟩⟩
  refine ⟨_, setRow_heap _ _ _ _ _ _ hC, ?_, fun c _ hc => ?_⟩
  · simp only [List.size_toArray, List.length_append, List.length_drop, Array.length_toList, size_zeroCells, hs]
    simp
    omega
  · rw [List.getElem?_toArray]
    by_cases h : c < (n + 1) * 4
    · rw [List.getElem?_append_left (by rw [zeroCells_len]; exact h)]
      exact zeroCells_get _ _ h
    · rw [List.getElem?_append_right (by rw [zeroCells_len]; omega), zeroCells_len, List.getElem?_drop]
      have e : (Builtin.zeroCells Z4 (n + 1)).size = (n + 1) * 4 := by rw [size_zeroCells]; rfl
      rw [e, show (n + 1) * 4 + (c - (n + 1) * 4) = c by omega, Array.getElem?_toList]
      exact hz c (by omega) hc

/-- 'clear(chunk[:n])' as one step of a region that draws. -/
theorem step_clear {ops : Array Oper} {o : Oper} {a : Act} {w : World} {K : Act → World → Prop} {Q : Exit → Act → World → Prop} {E : Prop}
    (hg : o.guard = none) (x : Operand) (hop : o.op = Op.call { callee := Callee.builtin Builtin.clear, args := #[x], argTypes := #[52] })
    (b n c m : Nat) (hx : a.eval x = .slice (some ⟨b, 0, none⟩) n c) (hb : Blk w b m) (hn : n ≤ 1024) (hm : m ≤ n * 4) (h0 : 0 < n)
    (hK : ∀ w', Wiped b w w' → K (a.put o.dst (.tuple #[])) w') :
    if Region.wanted o (yielded ops a.tmps) = true then Oper.wp Trym.prog o a w K Q else E := by
  have hw : Region.wanted o (yielded ops a.tmps) = true := by simp [Region.wanted, hg]
  rw [if_pos hw]
  obtain ⟨w', hrun, hwi⟩ := run_clear_chunk w o.type b n c m hb hn hm h0
  unfold Oper.wp
  simp [execOp, hop, resolve, invoke, builtin, hx, hrun, Result.andThen]
  exact hK w' hwi

/-- The chunks while they are wiped: the first j are. -/
structure Rst (w wr : World) (B : Nat → Nat) (K n j : Nat) : Prop where
  os : wr.os = w.os
  tape : wr.tape = w.tape
  output : wr.output = w.output
  size : wr.heap.size = w.heap.size
  other : ∀ i, (∀ k, k < K → i ≠ B k) → wr.heap[i]? = w.heap[i]?
  done : ∀ k, k < K → Blk wr (B k) (if k < j then 0 else 4 * n - 4096 * k)

theorem Rst.step {w wr wr' wx : World} {B : Nat → Nat} {K n j : Nat} (h : Rst w wr B K n j) (hj : j < K) (inj : ∀ i k, i < K → k < K → B i = B k → i = k) (hq : ∃ q, wr' = wr.drewN q) (hw : Wiped (B j) wr' wx) : Rst w wx B K n (j + 1) := by
  obtain ⟨q, rfl⟩ := hq
  refine ⟨hw.os.trans h.os, hw.tape.trans h.tape, hw.output.trans h.output, hw.size.trans h.size, fun i hi => (hw.other i (hi j hj)).trans (h.other i hi), fun k hk => ?_⟩
  by_cases e : k = j
  · subst e
    exact hw.blk.mono (by omega)
  · have h2 := (h.done k hk).same (hw.other (B k) (fun x => e (inj k j hk hj x)))
    by_cases hkj : k < j
    · rw [if_pos hkj] at h2; rw [if_pos (by omega)]; exact h2
    · rw [if_neg hkj] at h2; rw [if_neg (by omega)]; exact h2

/-- What reset leaves. -/
structure RstPost (w w' : World) (F : Nat) (B : Nat → Nat) (K : Nat) (a : Option Addr) (cp : Nat) : Prop where
  os : w'.os = w.os
  tape : w'.tape = w.tape
  output : w'.output = w.output
  size : w'.heap.size = w.heap.size
  other : ∀ i, i ≠ F → (∀ k, k < K → i ≠ B k) → w'.heap[i]? = w.heap[i]?
  found : w'.heap[F]? = some (.cells #[.slice a K cp, .int .i64 0] 85 (0, 0))
  zero : ∀ k, k < K → Blk w' (B k) 0

set_option maxHeartbeats 800000 in
theorem reset_any (F : Nat) (a : Option Addr) (K cp n : Nat) (B : Nat → Nat) (w : World)
    (hF : w.heap[F]? = some (.cells #[.slice a K cp, .int .i64 n] 85 (0, 0))) (hn : n ≤ K * 1024) (hK : K ≤ 1000000)
    (hC : RowAt w a K cp (chunkV B)) (hg : ∀ g, a = some ⟨g, 0, none⟩ → ∀ k, k < K → g ≠ B k)
    (inj : ∀ i k, i < K → k < K → B i = B k → i = k) (hz : ∀ k, k < K → Blk w (B k) (4 * n - 4096 * k)) :
    Calls Trym.prog 29 #[.pointer (some ⟨F, 0, none⟩)] w fun e w' => e = .returned (.tuple #[]) ∧ RstPost w w' F B K a cp := by
  have hFB : ∀ k, k < K → F ≠ B k := fun k hk e => by
    obtain ⟨C, h1, _⟩ := hz k hk
    rw [← e, hF] at h1
    simp at h1
  have HF : Hid _ := hF; have HN : Hid _ := hn; have HC : Hid _ := hC; have HG : Hid _ := hg; have HI : Hid _ := inj; have HZ : Hid _ := hz; have HFB : Hid _ := hFB
  clear hF hC hg inj hz hFB
  go_enter Trym.func29, Trym.ntmps29
  go_wp2_with fail
  go_loopw [2] (fun i wr => ∃ j : Nat, 1024 * j ≤ n + 1023 ∧ i = .int .i64 ((1024 * j : Nat) : Int) ∧ Rst w wr B K n j) (fun i _ => n + 1024 - (intOf i).toNat)
  case atStart => exact ⟨0, by omega, rfl, rfl, rfl, rfl, rfl, fun _ _ => rfl, fun k hk => by rw [if_neg (by omega)]; exact HZ.out k hk⟩
  case round =>
    obtain ⟨j, hj, rfl, hI⟩ := hrel
    have hFr : wr.heap[F]? = _ := (hI.other F HFB.out).trans HF.out
    have f0 := cell_of_row _ _ 0 _ _ _ hFr
    have f1 := cell_of_row _ _ 1 _ _ _ hFr
    have ff := frozen_of_row _ _ 1 _ _ hFr
    simp at f0 f1
    have HR : Hid _ := hI; have HFR : Hid _ := hFr
    by_cases hlt : 1024 * j < n
    · have hlt' : ((1024 * j : Nat) : Int) < n := by omega
      have hjK : j < K := by omega
      obtain ⟨g, rfl, hgl, hc⟩ := HC.out.cells j hjK
      have hcr : wr.cell? ⟨g, j, none⟩ = some (chunkV B j) := (World.cell?_of_block (w := w) (hI.other g (HG.out g rfl))).trans hc
      simp only [chunkV] at hcr
      have hq : ((1024 * j : Nat) : Int) / 1024 = (j : Int) := by omega
      have hwj : IntKind.i64.wrap (j : Int) = j := by rw [IntKind.wrap_i64]; omega
      have hjK' : (j : Int) < K := by omega
      have hblk := hI.done j hjK
      rw [if_neg (by omega)] at hblk
      have HBK : Hid _ := hblk
      clear hc hI hFr hblk
      obtain ⟨r, hr⟩ : ∃ r : Nat, n = 1024 * j + r := ⟨n - 1024 * j, by omega⟩
      have hwr : IntKind.i64.wrap ((n : Int) - 1024 * (j : Int)) = (r : Int) := by rw [IntKind.wrap_i64]; omega
      have hr0 : 0 < r := by omega
      have HRR : Hid _ := hr; clear hr
      obtain ⟨q, hq⟩ : ∃ q : Nat, q = min r 1024 := ⟨_, rfl⟩
      have hite : (if (1024 : Int) < (r : Int) then (1024 : Int) else (r : Int)) = (q : Int) := by split <;> omega
      have hq0 : 0 < q := by omega
      have hq1 : (q : Int) ≤ 1024 := by omega
      have HQ : Hid _ := hq; clear hq
      have HR0 : Hid _ := hr0; clear hr0
      go_wp2_with fail
      go_region_law (refine step_clear rfl (.tmp 26) rfl (B j) q 1024 (min (4 * n - 4096 * j) 4096) (by simp [Act.eval, Act.put]) (Blk.cap HBK.out) (by omega) (by have := HRR.out; have := HQ.out; omega) hq0 ?_; intro w' hwi)
      all_goals (go_wp2_with fail)
      all_goals go_roundw
      all_goals try case rel => exact ⟨j + 1, by omega, by go_num, HR.out.step hjK HI.out ⟨1, rfl⟩ hwi⟩
      all_goals try case measure => simp [intOf]; omega
    · have hlt' : ¬ ((1024 * j : Nat) : Int) < n := by omega
      clear hI hFr
      go_wp2_with fail
      go_end0
      have h := HR.out
      refine ⟨rfl, h.os, h.tape, h.output, by simpa [World.setCell] using h.size, fun i h1 h2 => (heap_setCell_other _ _ _ _ h1).trans (h.other i h2), ?_, fun k hk => ?_⟩
      · rw [heap_setCell_same _ _ _ _ _ _ HFR.out]
        simp
      · have hb := h.done k hk
        refine (Blk.mono hb ?_).same (heap_setCell_other _ _ _ _ (fun e => HFB.out k hk e.symm))
        split
        · omega
        · omega

set_option maxHeartbeats 400000 in
theorem zreset_any (F : Nat) (a : Option Addr) (K cp n : Nat) (B : Nat → Nat) (w : World)
    (hF : w.heap[F]? = some (.cells #[.slice a K cp, .int .i64 n] 85 (0, 0))) (hn : n ≤ K * 1024) (hK : K ≤ 1000000)
    (hC : RowAt w a K cp (chunkV B)) (hg : ∀ g, a = some ⟨g, 0, none⟩ → ∀ k, k < K → g ≠ B k)
    (inj : ∀ i k, i < K → k < K → B i = B k → i = k) (hz : ∀ k, k < K → Blk w (B k) (4 * n - 4096 * k)) :
    Calls Trym.prog 19 #[.pointer (some ⟨F, 0, none⟩)] w fun e w' => e = .returned (.tuple #[]) ∧ RstPost w w' F B K a cp := by
  have H : Hid _ := reset_any F a K cp n B w hF hn hK hC hg inj hz
  clear hF hn hK hC hg inj hz
  go_enter Trym.func19, Trym.ntmps19
  go_wp2_with fail
  refine Calls.mono H.out ?_
  rintro e w1 ⟨rfl, hp⟩
  have HP : Hid _ := hp; clear hp
  go_wp2_with fail
  go_end0
  exact ⟨rfl, HP.out⟩
end Go.Proofs.Qxb6615613aMods
