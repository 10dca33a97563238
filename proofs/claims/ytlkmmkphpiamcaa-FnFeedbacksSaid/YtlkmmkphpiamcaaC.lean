/-
  impl.Unwrap gives the unwrapped numbers, one by one. Conditions: at most 1000 numbers, of 16 bits. By an AI agent.
-/
import Derived.Test.YtlkmmkphpiamcaaB
namespace Go.Proofs.Ytlkmmkphpiamcaa
open Go.RowKit

theorem info_i64 : (Try.prog.info? 2).map (fun i => (i.zero, i.size, i.bytes)) = some (some (.int .i64 0), 1, 8) := by kernel_rfl

/-- The unwrapped numbers, one by one. -/
def unwrapAt (ls : List Int) : Nat → Int
  | 0 => ls.getD 0 0
  | i + 1 => unwrapF (unwrapAt ls i) (ls.getD (i + 1) 0)
def unwrapL (ls : List Int) : List Int := (List.range ls.length).map (unwrapAt ls)

theorem unwrapF_range (l x : Int) (h0 : 0 ≤ l) : 0 ≤ unwrapF l x ∧ unwrapF l x ≤ l + 65535 := by
  unfold unwrapF
  split
  · omega
  · split <;> omega

theorem unwrapAt_range (ls : List Int) (h : ∀ x ∈ ls, 0 ≤ x ∧ x ≤ 65535) : ∀ i, 0 ≤ unwrapAt ls i ∧ unwrapAt ls i ≤ 65535 * (i + 1 : Nat)
  | 0 => by
    have : 0 ≤ ls.getD 0 0 ∧ ls.getD 0 0 ≤ 65535 := by
      cases ls with
      | nil => simp
      | cons a t => exact h a (by simp)
    simpa [unwrapAt] using this
  | i + 1 => by
    have ih := unwrapAt_range ls h i
    have := unwrapF_range (unwrapAt ls i) (ls.getD (i + 1) 0) ih.1
    simp only [unwrapAt]
    omega


def UInv (bo bu : Nat) (ls : List Int) (w : World) (k : Nat) (wr : World) : Prop :=
  ∃ v, Blk wr bo 23 #[v] ∧ Blk wr bu 84 #[.bool (decide (0 < k)), .int .i64 (if k = 0 then 0 else unwrapAt ls (k - 1))] ∧
    wr.ownsRow w.heap.size 2 1 v k (((List.range k).map (unwrapAt ls)).map (Value.int .i64)) ∧ Touch (fun b => b = bo ∨ b = bu) w wr

theorem uinv_step {bo bu k gg cap : Nat} {ls : List Int} {w wr w1 w2 : World} {v : Value} {l x : Int} {o : Obj}
    (HL : (if k = 0 then 0 else unwrapAt ls (k - 1)) = l) (HX : x = ls.getD k 0) (HT : Touch (fun b => b = bo ∨ b = bu) w wr) (HT1 : Touch (· = bu) wr w1)
    (HU1 : Blk w1 bu 84 #[.bool true, .int .i64 (stepF (decide (0 < k)) l x)]) (HV1 : Blk w1 bo 23 #[v])
    (HO1 : w1.ownsRow w.heap.size 2 1 v k (((List.range k).map (unwrapAt ls)).map (Value.int .i64)))
    (hown2 : w2.ownsRow w.heap.size 2 1 (.slice (some ⟨gg, 0, none⟩) (k + 1) cap) (k + 1) (((List.range k).map (unwrapAt ls)).map (Value.int .i64) ++ [.int .i64 (stepF (decide (0 < k)) l x)]))
    (hgrow : (w1.alloc o).grownBy w2 v.ownBlock) (ob : bo < w.heap.size) (ou : bu < w.heap.size) (d3 : bo ≠ bu) :
    UInv bo bu ls w (k + 1) (w2.setCell ⟨bo, 0, none⟩ (.slice (some ⟨gg, 0, none⟩) (k + 1) cap)) := by
  have hx : stepF (decide (0 < k)) l x = unwrapAt ls k := by
    cases k with
    | zero => simp [stepF, HX, unwrapAt]
    | succ j => simp [stepF, HX, unwrapAt, ← HL]
  rw [hx] at hown2 HU1
  have hb2 := (HV1.alloc o).grown hgrow (own_apart HO1 ob).symm
  have hu2 := (HU1.alloc o).grown hgrow (own_apart HO1 ou).symm
  refine ⟨_, by simpa using hb2.put 0 _, ?_, ?_, ?_⟩
  · have := hu2.far (p := ⟨bo, 0, none⟩) (Ne.symm d3) (.slice (some ⟨gg, 0, none⟩) (k + 1) cap)
    simpa using this
  · have := own_far hown2 (p := ⟨bo, 0, none⟩) ob (.slice (some ⟨gg, 0, none⟩) (k + 1) cap)
    simpa [List.range_succ] using this
  · have t1 : Touch (fun b => b = bo ∨ b = bu) w w1 := HT.trans HT1 fun i _ h => .inr h
    have t2 : Touch (fun b => b = bo ∨ b = bu) w w2 := (t1.alloc o).grown hgrow fun g hg hlt => by
      have := (HO1.lt g hg).1
      omega
    exact t2.setCell (p := ⟨bo, 0, none⟩) (fun _ => .inl rfl) _

set_option maxRecDepth 100000 in
set_option maxHeartbeats 800000 in
theorem unwrap_closure (bl bo bu n c base : Nat) (A : Option Addr) (ls : List Int) (w : World)
    (hbl : Blk w bl 22 #[.slice A n c]) (hbo : Blk w bo 23 #[.slice none 0 0]) (hbu : Blk w bu 84 #[.bool false, .int .i64 0])
    (hr : Reads w base 1 A n (ls.map (Value.int .u16))) (hn : n ≤ 1000) (hls : ∀ x ∈ ls, 0 ≤ x ∧ x ≤ 65535)
    (o1 : base ≤ bl) (o2 : base ≤ bo) (o3 : base ≤ bu) (d3 : bo ≠ bu) :
    Calls Try.prog 33 #[.pointer (some ⟨bl, 0, none⟩), .pointer (some ⟨bo, 0, none⟩), .pointer (some ⟨bu, 0, none⟩)] w fun e w' => e = .returned (.tuple #[]) ∧
      ∃ v, Blk w' bo 23 #[v] ∧ w'.ownsRow w.heap.size 2 1 v n ((unwrapL ls).map (Value.int .i64)) ∧ Touch (fun b => b = bo ∨ b = bu) w w' := by
  obtain ⟨i0, hi0, hz0, hz1, hz2⟩ := info_parts info_i64
  have cl := hbl.cell 0
  simp at cl
  have hB : base ≤ w.heap.size := by have := hbl.lt; omega
  have ob := hbo.lt
  have ou := hbu.lt
  have hlen : ls.length = n := by simpa using hr.1
  have HBL := Lib.hid hbl
  have HBO := Lib.hid hbo
  have HBU := Lib.hid hbu
  have HR := Lib.hid hr
  have HLS := Lib.hid hls
  have HLEN := Lib.hid hlen
  clear hbl hbo hbu hr hls hlen
  go_enter Try.func33, Try.ntmps33
  go_wp2_with fail
  go_loopw [7] (fun i wr => ∃ k : Nat, k ≤ n ∧ i = .int .i64 k ∧ Hid (UInv bo bu ls w k wr)) (fun i _ => n - (intOf i).toNat)
  case atStart => exact ⟨0, by omega, rfl, ⟨_, HBO.out, HBU.out, World.ownsRow_nil _ _ _ _, Touch.refl _ _⟩⟩
  case round =>
    obtain ⟨k, hk, rfl, hinv⟩ := hrel
    by_cases hlt : k < n
    · obtain ⟨v, hv, hu, hown, ht⟩ := hinv.out
      have hr2 := HR.out.touch ht hB (by intro i hi; omega)
      obtain ⟨ad, u, rfl, hab, hu1, hc⟩ := hr2.at1 hlt
      obtain ⟨x, rfl, hx, x0, x1⟩ : ∃ x, u = .int .u16 x ∧ x = ls.getD k 0 ∧ 0 ≤ x ∧ x ≤ 65535 := by
        have hl := HLEN.out
        rw [List.getElem?_map, List.getElem?_eq_getElem (by omega)] at hu1
        simp only [Option.map_some, Option.some.injEq] at hu1
        refine ⟨ls[k], hu1.symm, by simp [List.getD, List.getElem?_eq_getElem (show k < ls.length by omega)], ?_⟩
        exact HLS.out _ (List.getElem_mem _)
      have HX := Lib.hid hx
      obtain ⟨l, hl, l0, l1⟩ : ∃ l, (if k = 0 then 0 else unwrapAt ls (k - 1)) = l ∧ 0 ≤ l ∧ l ≤ 140737488355328 := by
        refine ⟨_, rfl, ?_⟩
        split
        · omega
        · have := unwrapAt_range ls HLS.out (k - 1)
          omega
      rw [hl] at hu
      have HL := Lib.hid hl
      have co := hv.cell 0
      have fo := hv.free 0
      simp at co
      have lbo := hv.lt
      have HV := Lib.hid hv
      have HU := Lib.hid hu
      have HOWN := Lib.hid hown
      have HT := Lib.hid ht
      clear hu1 hinv hr2 hx hl hv hu hown ht
      go_wp2_with fail
      go_region_law
        (first
          | (go_simp; go_at_call 34; refine (unwrap_any bu (decide (0 < k)) l x _ ?_ x0 x1 l0 l1).mono ?_; (exact HU.out); rintro e w1 ⟨rfl, hu1, hsz1, ht1⟩; have HO1 := Lib.hid (own_touch1 HOWN.out ht1.undrew ou); have HU1 := Lib.hid hu1; have HS1 := Lib.hid hsz1; have hv1 := HV.out.touch ht1.undrew d3; have co1 : w1.cell? ⟨bo, 0, none⟩ = some v := hv1.cell 0; have lbo1 := hv1.lt; have HV1 := Lib.hid hv1; have HT1 := Lib.hid ht1.undrew; clear hsz1 hu1 hv1 ht1)
          | (refine step_append_lies _ (by rfl) _ _ _ (by rfl) w.heap.size 2 i0 _ 1 8 Try.underlying23 hi0 hz0 hz1 hz2 rfl (by omega) v k _ (by rfl) (HO1.out.alloc _) ⟨w1.heap.size, 0, none⟩ 1 1 [.int .i64 (stepF (decide (0 < k)) l x)] (by rfl) (by rfl) (World.news_of_block (cs := #[.int .i64 (stepF (decide (0 < k)) l x)]) (t := 2) (fr := (0, 0)) (heap_alloc_new w1 _)) (by simp [Value.oneCell']) (by omega) (by simp only [maxLen]; omega) (by omega) (by have := HT.out.size; have := HT1.out.size; simp; omega) (w1.heap.size + 1) (by simp) ?_; intro gg cap w2 hown2 hgrow hat hlt; have hv2 := (HV1.out.alloc _).grown hgrow (own_apart HO1.out ob).symm; have co2 : w2.cell? ⟨bo, 0, none⟩ = some v := hv2.cell 0; have fo2 := hv2.free 0))
      all_goals go_wp2_with fail
      all_goals exact ⟨⟨k + 1, by omega, by go_num, uinv_step HL.out HX.out HT.out HT1.out HU1.out HV1.out HO1.out hown2 hgrow ob ou d3⟩, by simp [intOf]; omega⟩
    · obtain ⟨v, hv, hu, hown, ht⟩ := hinv.out
      obtain rfl : k = n := by omega
      have HV := Lib.hid hv
      have HU := Lib.hid hu
      have HOWN := Lib.hid hown
      have HT := Lib.hid ht
      clear hv hu hown ht hinv
      go_wp2_with fail
      go_end0
      refine ⟨rfl, v, HV.out, ?_, HT.out⟩
      unfold unwrapL
      rw [HLEN.out]
      exact HOWN.out

theorem unwrap_quiet (bl bo bu n c base : Nat) (A : Option Addr) (ls : List Int) (w : World)
    (hbl : Blk w bl 22 #[.slice A n c]) (hbo : Blk w bo 23 #[.slice none 0 0]) (hbu : Blk w bu 84 #[.bool false, .int .i64 0])
    (hr : Reads w base 1 A n (ls.map (Value.int .u16))) (hn : n ≤ 1000) (hls : ∀ x ∈ ls, 0 ≤ x ∧ x ≤ 65535)
    (o1 : base ≤ bl) (o2 : base ≤ bo) (o3 : base ≤ bu) (d3 : bo ≠ bu) :
    Calls Try.prog 32 #[.func (.func 33) #[] #[.pointer (some ⟨bl, 0, none⟩), .pointer (some ⟨bo, 0, none⟩), .pointer (some ⟨bu, 0, none⟩)]] w fun e w' => e = .returned (.bool true) ∧
      ∃ v, Blk w' bo 23 #[v] ∧ w'.ownsRow (w.heap.size + 1) 2 1 v n ((unwrapL ls).map (Value.int .i64)) ∧ Touch (fun b => b = bo ∨ b = bu) w w' := by
  have l1 := hbl.lt
  have l2 := hbo.lt
  have l3 := hbu.lt
  refine (quietly_33 _ _ _ w (fun w1 => ∃ v, Blk w1 bo 23 #[v] ∧ w1.ownsRow (w.heap.size + 1) 2 1 v n ((unwrapL ls).map (Value.int .i64)) ∧ Touch (fun b => b = bo ∨ b = bu) (w.alloc (.cells #[.bool false] 4)) w1) ?_).mono ?_
  · refine (unwrap_closure bl bo bu n c base A ls _ (hbl.alloc _) (hbo.alloc _) (hbu.alloc _) (hr.keep fun p hp => World.cell?_alloc_lt w _ p (by omega)) hn hls o1 o2 o3 d3).mono ?_
    rintro e w' ⟨rfl, v, hv, hown, ht⟩
    refine ⟨rfl, ⟨v, hv, by simpa using hown, ht⟩, ?_⟩
    exact (Blk.new w 4 _).touch ht (by omega)
  · rintro e w' ⟨rfl, w1, ⟨v, hv, hown, ht⟩, rfl⟩
    refine ⟨rfl, v, hv.far (by simp; omega) _, own_far hown (by simp) _, ?_⟩
    have t1 : Touch (fun b => b = bo ∨ b = bu) w w1 := ((Touch.refl _ w).alloc _).trans ht fun _ _ h => h
    exact t1.setCell (by simp) _

set_option maxHeartbeats 800000 in
theorem unwrap_list (n c : Nat) (A : Option Addr) (ls : List Int) (w : World) (B : Nat)
    (hr : Reads w B 1 A n (ls.map (Value.int .u16))) (hB : B ≤ w.heap.size) (hn : n ≤ 1000) (hls : ∀ x ∈ ls, 0 ≤ x ∧ x ≤ 65535) :
    Calls Try.prog 12 #[.slice A n c] w fun e w' => ∃ A' c', e = .returned (.slice A' n c') ∧
      Reads w' w'.heap.size 1 A' n ((unwrapL ls).map (Value.int .i64)) ∧ Below w.heap.size w w' := by
  have HR := Lib.hid hr
  have HLS := Lib.hid hls
  clear hr hls
  have hmf : ∀ (fn : Fn) (first cap : Array Value) (w : World), (Instr.makeFunc fn first cap).run Try.prog w = .ok (.func fn first cap) w := fun _ _ _ _ => rfl
  go_enter Try.func12, Try.ntmps12
  go_wp2_with fail
  refine (unwrap_quiet w.heap.size (w.heap.size + 1) (w.heap.size + 1 + 1) n c w.heap.size A ls _ (((Blk.new w 22 _).alloc _).alloc _) ?_ ?_ ?_ hn HLS.out (by omega) (by omega) (by omega) (by omega)).mono ?_
  · have := (Blk.new (w.alloc (.cells #[.slice A n c] 22)) 23 #[.slice none 0 0]).alloc (.cells #[.bool false, .int .i64 0] 84)
    simpa using this
  · have := Blk.new ((w.alloc (.cells #[.slice A n c] 22)).alloc (.cells #[.slice none 0 0] 23)) 84 #[.bool false, .int .i64 0]
    simpa using this
  · exact (HR.out.more hB).below ((((Below.refl _ _).alloc (Nat.le_refl _) _).alloc (by simp) _).alloc (by simp; omega) _)
  rintro e w1 ⟨rfl, v, hv, hown, ht⟩
  obtain ⟨A1, c1, rfl⟩ := own_slice hown
  have cv := hv.cell 0
  have fv := hv.free 0
  simp at cv
  have HV := Lib.hid hv
  have HO := Lib.hid hown
  have HT := Lib.hid ht
  clear hv hown ht
  go_wp2_with fail
  have hb2 := HV.out.put 0 (.slice A1 n c1)
  simp at hb2
  have cv2 := hb2.cell 0
  simp at cv2
  refine bodyPost_ret_by (v := .slice A1 n c1) ?_ rfl ?_
  · simp [results, Try.results12, go_sem, cv2]
  have t0 : Touch (fun b => w.heap.size ≤ b) w w1 := (((Touch.refl _ w).alloc _).alloc _ |>.alloc _).trans HT.out fun i hi h => by exact (by rcases h with h | h <;> omega)
  have t1 := t0.setCell (p := ⟨w.heap.size + 1, 0, none⟩) (fun _ => Nat.le_succ _) (.slice A1 n c1)
  refine ⟨A1, c1, rfl, ?_, t1.below (Nat.le_refl _) (fun i hi => by omega)⟩
  have h1 := own_far HO.out (p := ⟨w.heap.size + 1, 0, none⟩) (by simp) (.slice A1 n c1)
  exact Reads.own h1
end Go.Proofs.Ytlkmmkphpiamcaa
