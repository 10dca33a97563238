/-
  spec.Steps and works. Conditions: fewer than 2 to the 31st numbers, of 16 bits. By an AI agent.
-/
import Derived.Test.YtlkmmkphpiamcaaC
namespace Go.Proofs.Ytlkmmkphpiamcaa
open Go.RowKit

theorem reads_block {w : World} {g : Nat} {t : TypeId} {cs : Array Value} (h : Blk w g t cs) (size n : Nat) (hs : cs.size = n * size) : Reads w w.heap.size size (some ⟨g, 0, none⟩) n cs.toList := by
  refine ⟨by simpa using hs, fun _ => ⟨_, rfl, h.lt, fun j u hu => ?_⟩⟩
  have hadd : (⟨g, 0, none⟩ : Addr).add j = ⟨g, j, none⟩ := by unfold Addr.add; split <;> simp_all
  rw [hadd, h.cell]
  simpa using hu

set_option maxHeartbeats 800000 in
theorem works_true (w : World) : Calls Try.prog 11 #[] w fun e w' => e = .returned (.bool true) ∧ Below w.heap.size w w' := by
  go_enter Try.func11, Try.ntmps11
  go_wp2_with fail
  refine (unwrap_list 2 2 _ [65535, 0] _ (w.heap.size + 1) ?_ (by simp) (by omega) (by simp)).mono ?_
  · simpa using reads_block (Blk.new w 33 #[.int .u16 65535, .int .u16 0]) 1 2 rfl
  rintro e w1 ⟨A, c, rfl, hr, hb⟩
  have e1 : unwrapL [65535, 0] = [65535, 65536] := by decide
  rw [e1] at hr
  obtain ⟨ad, u, rfl, _, hu, hc⟩ := hr.at1 (k := 1) (by omega)
  simp at hu
  subst hu
  simp [Addr.add] at hc
  have HB := Lib.hid hb
  clear hb hr e1
  go_wp2_with fail
  go_ret
  refine ⟨rfl, ((Below.refl _ _).alloc (Nat.le_refl _) _).trans (HB.out.mono (by simp))⟩

/-- What spec.Steps gives where it gives something: each number nearest to the one before. -/
def StepsRel (ls outs : List Int) : Prop :=
  outs.length = ls.length ∧ ∀ i, i < ls.length → 0 ≤ outs.getD i 0 ∧
    (i = 0 → outs.getD i 0 = ls.getD i 0) ∧ (0 < i → outs.getD i 0 = outs.getD (i - 1) 0 + nearD (outs.getD (i - 1) 0) (ls.getD i 0) ∧ nearD (outs.getD (i - 1) 0) (ls.getD i 0) ≠ -32768)

def StepsPost (ls : List Int) (n : Nat) (w : World) (e : Ending) (w' : World) : Prop :=
  Below w.heap.size w w' ∧ (e = .returned (.tuple #[.slice none 0 0, .bool false]) ∨
    ∃ A c outs, e = .returned (.tuple #[.slice A n c, .bool true]) ∧ Reads w' w'.heap.size 1 A n (outs.map (Value.int .i64)) ∧ StepsRel ls outs)

def SInv (ls : List Int) (w : World) (k : Nat) (v : Value) (wr : World) : Prop :=
  ∃ outs, wr.ownsRow w.heap.size 2 1 v k (outs.map (Value.int .i64)) ∧ StepsRel (ls.take k) outs ∧ Below w.heap.size w wr

theorem steps_range {ls outs : List Int} (h : StepsRel ls outs) (hls : ∀ x ∈ ls, 0 ≤ x ∧ x ≤ 65535) : ∀ i, i < ls.length → 0 ≤ outs.getD i 0 ∧ outs.getD i 0 ≤ 65535 + 32768 * (i : Int)
  | 0, hi => by
    obtain ⟨h0, h1, _⟩ := h.2 0 hi
    have := hls _ (List.getElem_mem hi)
    rw [h1 rfl]
    simp [List.getD, List.getElem?_eq_getElem hi]
    omega
  | i + 1, hi => by
    have ih := steps_range h hls i (by omega)
    obtain ⟨h0, _, h2⟩ := h.2 (i + 1) hi
    have h3 := (h2 (by omega)).1
    have := nearD_range (outs.getD i 0) (ls.getD (i + 1) 0)
    simp only [Nat.add_sub_cancel] at h3
    omega

theorem steps_snoc {ls outs : List Int} {k : Nat} {y : Int} (hk : k < ls.length) (h : StepsRel (ls.take k) outs) (h0 : 0 ≤ y) (h1 : k = 0 → y = ls.getD k 0)
    (h2 : 0 < k → y = outs.getD (k - 1) 0 + nearD (outs.getD (k - 1) 0) (ls.getD k 0) ∧ nearD (outs.getD (k - 1) 0) (ls.getD k 0) ≠ -32768) : StepsRel (ls.take (k + 1)) (outs ++ [y]) := by
  obtain ⟨hl, hr⟩ := h
  have hlk : (ls.take k).length = k := by simp; omega
  rw [hlk] at hl hr
  have hlk1 : (ls.take (k + 1)).length = k + 1 := by simp; omega
  refine ⟨by rw [hlk1]; simp [hl], fun i hi => ?_⟩
  rw [hlk1] at hi
  have hg : (ls.take (k + 1)).getD i 0 = ls.getD i 0 := by simp [List.getD, hi]
  rw [hg]
  by_cases hik : i < k
  · have hg' : (ls.take k).getD i 0 = ls.getD i 0 := by simp [List.getD, hik]
    have ho : (outs ++ [y]).getD i 0 = outs.getD i 0 := by simp [List.getD, List.getElem?_append_left (show i < outs.length by omega)]
    have ho' : (outs ++ [y]).getD (i - 1) 0 = outs.getD (i - 1) 0 := by simp [List.getD, List.getElem?_append_left (show i - 1 < outs.length by omega)]
    have := hr i hik
    rw [hg'] at this
    rw [ho, ho']
    exact this
  · obtain rfl : i = k := by omega
    have ho : (outs ++ [y]).getD i 0 = y := by simp [List.getD, ← hl]
    rw [ho]
    refine ⟨h0, h1, fun hp => ?_⟩
    have ho' : (outs ++ [y]).getD (i - 1) 0 = outs.getD (i - 1) 0 := by simp [List.getD, List.getElem?_append_left (show i - 1 < outs.length by omega)]
    rw [ho']
    exact h2 hp

theorem sinv_step {ls : List Int} {w wr w1 : World} {v : Value} {k : Nat} {y : Int} {outs : List Int} {gg cap : Nat} {o : Obj} (hk : k < ls.length) (hst : StepsRel (ls.take k) outs)
    (h0 : 0 ≤ y) (h1 : k = 0 → y = ls.getD k 0)
    (h2 : 0 < k → y = outs.getD (k - 1) 0 + nearD (outs.getD (k - 1) 0) (ls.getD k 0) ∧ nearD (outs.getD (k - 1) 0) (ls.getD k 0) ≠ -32768)
    (hown : wr.ownsRow w.heap.size 2 1 v k (outs.map (Value.int .i64))) (hb : Below w.heap.size w wr)
    (hown1 : w1.ownsRow w.heap.size 2 1 (.slice (some ⟨gg, 0, none⟩) (k + 1) cap) (k + 1) (outs.map (Value.int .i64) ++ [.int .i64 y]))
    (hgrow : (wr.alloc o).grownBy w1 v.ownBlock) : SInv ls w (k + 1) (.slice (some ⟨gg, 0, none⟩) (k + 1) cap) w1 := by
  refine ⟨outs ++ [y], by simpa using hown1, steps_snoc hk hst h0 h1 h2, ?_⟩
  exact (hb.alloc hb.size o).grown hgrow (by have := hb.size; simp; omega) fun g hg => (hown.lt g hg).1

set_option maxRecDepth 100000 in
set_option maxHeartbeats 800000 in
theorem steps_any (n c : Nat) (A : Option Addr) (ls : List Int) (w : World)
    (hr : Reads w w.heap.size 1 A n (ls.map (Value.int .u16))) (hn : n ≤ 2147483647) (hls : ∀ x ∈ ls, 0 ≤ x ∧ x ≤ 65535) :
    Calls Try.prog 10 #[.slice A n c] w (StepsPost ls n w) := by
  obtain ⟨i0, hi0, hz0, hz1, hz2⟩ := info_parts info_i64
  have hlen : ls.length = n := by simpa using hr.1
  have HR := Lib.hid hr
  have HLS := Lib.hid hls
  have HLEN := Lib.hid hlen
  clear hr hls hlen
  go_enter Try.func10, Try.ntmps10
  go_wp2_with fail
  go_loopw [4, 11] (fun v i wr => ∃ k : Nat, k ≤ n ∧ i = .int .i64 k ∧ Hid (SInv ls w k v wr)) (fun _ i _ => n - (intOf i).toNat)
  case atStart => exact ⟨0, by omega, rfl, ⟨[], World.ownsRow_nil _ _ _ _, ⟨rfl, fun i hi => by simp at hi⟩, Below.refl _ _⟩⟩
  case round =>
    obtain ⟨k, hk, rfl, hinv⟩ := hrel
    by_cases hlt : k < n
    · obtain ⟨outs, hown, hst, hb⟩ := hinv.out
      obtain ⟨ad, u, rfl, hab, hu1, hc⟩ := (HR.out.below hb).at1 hlt
      obtain ⟨x, rfl, hx, x0, x1⟩ : ∃ x, u = .int .u16 x ∧ x = ls.getD k 0 ∧ 0 ≤ x ∧ x ≤ 65535 := by
        have hl := HLEN.out
        rw [List.getElem?_map, List.getElem?_eq_getElem (by omega)] at hu1
        simp only [Option.map_some, Option.some.injEq] at hu1
        refine ⟨ls[k], hu1.symm, by simp [List.getD, List.getElem?_eq_getElem (show k < ls.length by omega)], ?_⟩
        exact HLS.out _ (List.getElem_mem _)
      have HX := Lib.hid hx
      have HST := Lib.hid hst
      have HOWN := Lib.hid hown
      have HB := Lib.hid hb
      have hlk : k < ls.length := by have := HLEN.out; omega
      clear hx hst hown hb hu1 hinv
      by_cases hk0 : k = 0
      · have h2 : 0 < k → x = outs.getD (k - 1) 0 + nearD (outs.getD (k - 1) 0) (ls.getD k 0) ∧ nearD (outs.getD (k - 1) 0) (ls.getD k 0) ≠ -32768 := fun h => by omega
        have H2 := Lib.hid h2
        have hk0' : k ≤ 0 := by omega
        have HB0 := HB.out.size
        clear h2 hk0
        go_wp2_with (at_builtin; (refine wpList_append_lies _ rfl _ _ _ rfl w.heap.size 2 i0 _ 1 8 Try.underlying23 hi0 hz0 hz1 hz2 rfl (by omega) u4 k _ rfl (HOWN.out.alloc _) ⟨wr.heap.size, 0, none⟩ 1 1 [.int .i64 x] rfl rfl (World.news_of_block (cs := #[.int .i64 x]) (t := 2) (fr := (0, 0)) (heap_alloc_new wr _)) (by simp [Value.oneCell']) (by omega) (by simp only [maxLen]; omega) (by omega) (by simp; omega) (wr.heap.size + 1) (by simp) ?_); intro gg cap w1 hown1 hgrow hat hlt1)
        exact ⟨⟨k + 1, by omega, by go_num, sinv_step hlk HST.out x0 (fun _ => HX.out) H2.out HOWN.out HB.out hown1 hgrow⟩, by simp [intOf]; omega⟩
      · obtain ⟨A1, c1, rfl⟩ := own_slice HOWN.out
        obtain ⟨ad1, u, rfl, _, hu1, hc1⟩ := (Reads.own HOWN.out).at1 (k := k - 1) (by omega)
        have hol : outs.length = k := by
          have h := HST.out.1
          rw [List.length_take] at h
          omega
        obtain ⟨q, rfl, hq⟩ : ∃ q, u = .int .i64 q ∧ q = outs.getD (k - 1) 0 := by
          rw [List.getElem?_map, List.getElem?_eq_getElem (show k - 1 < outs.length by omega)] at hu1
          simp only [Option.map_some, Option.some.injEq] at hu1
          exact ⟨_, hu1.symm, by simp [List.getD, List.getElem?_eq_getElem (show k - 1 < outs.length by omega)]⟩
        have hqr := steps_range HST.out (fun x hx => HLS.out x (List.mem_of_mem_take hx)) (k - 1) (by rw [List.length_take]; omega)
        rw [← hq] at hqr
        obtain ⟨q0, q1⟩ := hqr
        have hnr := nearD_range q x
        have HQ := Lib.hid hq
        have HOL := Lib.hid hol
        have HB0 := HB.out.size
        have hk0' : 0 < k := by omega
        clear hq hol hu1 hk0
        have q2 : q ≤ 140737488355328 := by omega
        by_cases hnd : nearD q x = -32768
        · have hne : (nearD q x != -32768) = false := by simp [hnd]
          clear hnd hnr
          go_wp2_with (go_at_call 31; refine (near_any q x _ (by omega) q2).mono ?_; rintro e w' ⟨rfl, rfl⟩)
          go_ret2
          exact ⟨HB.out, .inl rfl⟩
        · have hne : (nearD q x != -32768) = true := by simp [hnd]
          have HND := Lib.hid hnd
          clear hnd
          by_cases hneg : q + nearD q x < 0
          · go_wp2_with (go_at_call 31; refine (near_any q x _ (by omega) q2).mono ?_; rintro e w' ⟨rfl, rfl⟩)
            go_ret2
            exact ⟨HB.out, .inl rfl⟩
          · have h2 : 0 < k → q + nearD q x = outs.getD (k - 1) 0 + nearD (outs.getD (k - 1) 0) (ls.getD k 0) ∧ nearD (outs.getD (k - 1) 0) (ls.getD k 0) ≠ -32768 := fun _ => by
              rw [← HQ.out, ← HX.out]
              exact ⟨rfl, HND.out⟩
            have H2 := Lib.hid h2
            clear h2
            go_wp2_with (first
              | (go_at_call 31; refine (near_any q x _ (by omega) q2).mono ?_; rintro e w' ⟨rfl, rfl⟩)
              | (at_builtin; (refine wpList_append_lies _ rfl _ _ _ rfl w.heap.size 2 i0 _ 1 8 Try.underlying23 hi0 hz0 hz1 hz2 rfl (by omega) (.slice (some ad1) k c1) k _ rfl (HOWN.out.alloc _) ⟨wr.heap.size, 0, none⟩ 1 1 [.int .i64 (q + nearD q x)] rfl rfl (World.news_of_block (cs := #[.int .i64 (q + nearD q x)]) (t := 2) (fr := (0, 0)) (heap_alloc_new wr _)) (by simp [Value.oneCell']) (by omega) (by simp only [maxLen]; omega) (by omega) (by simp; omega) (wr.heap.size + 1) (by simp) ?_); intro gg cap w1 hown1 hgrow hat hlt1))
            exact ⟨⟨k + 1, by omega, by go_num, sinv_step hlk HST.out (by omega) (by omega) H2.out HOWN.out HB.out hown1 hgrow⟩, by simp [intOf]; omega⟩
    · obtain ⟨outs, hown, hst, hb⟩ := hinv.out
      obtain rfl : k = n := by omega
      obtain ⟨A1, c1, rfl⟩ := own_slice hown
      have HST := Lib.hid hst
      have HOWN := Lib.hid hown
      have HB := Lib.hid hb
      clear hst hown hb hinv
      go_wp2_with fail
      go_ret2
      refine ⟨HB.out, .inr ⟨A1, c1, outs, rfl, Reads.own HOWN.out, ?_⟩⟩
      have h := HST.out
      rwa [List.take_of_length_le (by have := HLEN.out; omega)] at h
end Go.Proofs.Ytlkmmkphpiamcaa
