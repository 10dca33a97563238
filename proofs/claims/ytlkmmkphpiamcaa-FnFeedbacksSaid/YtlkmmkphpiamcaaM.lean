/-
  spec.Line. Conditions: fewer than 2 to the 31st numbers, of 16 bits. By an AI agent.
-/
import Derived.Test.YtlkmmkphpiamcaaD
namespace Go.Proofs.Ytlkmmkphpiamcaa
open Go.RowKit

/-- The greatest of the first ones, up to place i. -/
def topAt (outs : List Int) : Nat → Int
  | 0 => outs.getD 0 0
  | i + 1 => max (topAt outs i) (outs.getD (i + 1) 0)

/-- What spec.Line gives where it gives something: each number nearest to the greatest one before. -/
def LineRel (ls outs : List Int) : Prop :=
  outs.length = ls.length ∧ ∀ i, i < ls.length → 0 ≤ outs.getD i 0 ∧
    (i = 0 → outs.getD i 0 = ls.getD i 0) ∧ (0 < i → outs.getD i 0 = topAt outs (i - 1) + nearD (topAt outs (i - 1)) (ls.getD i 0) ∧ nearD (topAt outs (i - 1)) (ls.getD i 0) ≠ -32768)

theorem topAt_append (outs r : List Int) : ∀ i, i < outs.length → topAt (outs ++ r) i = topAt outs i
  | 0, h => by simp [topAt, List.getD, List.getElem?_append_left h]
  | i + 1, h => by
    simp only [topAt]
    rw [topAt_append outs r i (by omega)]
    simp [List.getD, List.getElem?_append_left h]

theorem line_range {ls outs : List Int} (h : LineRel ls outs) (hls : ∀ x ∈ ls, 0 ≤ x ∧ x ≤ 65535) : ∀ i, i < ls.length → 0 ≤ topAt outs i ∧ topAt outs i ≤ 65535 + 32768 * (i : Int)
  | 0, hi => by
    obtain ⟨h0, h1, _⟩ := h.2 0 hi
    have := hls _ (List.getElem_mem hi)
    simp only [topAt]
    rw [h1 rfl]
    simp [List.getD, List.getElem?_eq_getElem hi]
    omega
  | i + 1, hi => by
    have ih := line_range h hls i (by omega)
    obtain ⟨h0, _, h2⟩ := h.2 (i + 1) hi
    have h3 := (h2 (by omega)).1
    have := nearD_range (topAt outs i) (ls.getD (i + 1) 0)
    simp only [Nat.add_sub_cancel] at h3
    simp only [topAt]
    omega

theorem line_snoc {ls outs : List Int} {k : Nat} {y : Int} (hk : k < ls.length) (h : LineRel (ls.take k) outs) (h0 : 0 ≤ y) (h1 : k = 0 → y = ls.getD k 0)
    (h2 : 0 < k → y = topAt outs (k - 1) + nearD (topAt outs (k - 1)) (ls.getD k 0) ∧ nearD (topAt outs (k - 1)) (ls.getD k 0) ≠ -32768) : LineRel (ls.take (k + 1)) (outs ++ [y]) := by
  obtain ⟨hl, hr⟩ := h
  have hlk : (ls.take k).length = k := by simp; omega
  rw [hlk] at hl hr
  have hlk1 : (ls.take (k + 1)).length = k + 1 := by simp; omega
  refine ⟨by rw [hlk1]; simp [hl], fun i hi => ?_⟩
  rw [hlk1] at hi
  have hg : (ls.take (k + 1)).getD i 0 = ls.getD i 0 := by simp [List.getD, hi]
  rw [hg]
  by_cases hik : i < k
  · have hg' : (ls.take k).getD i 0 = ls.getD i 0 := by simp [List.getD, hik]
    have ho : (outs ++ [y]).getD i 0 = outs.getD i 0 := by simp [List.getD, List.getElem?_append_left (show i < outs.length by omega)]
    have ho' : topAt (outs ++ [y]) (i - 1) = topAt outs (i - 1) := topAt_append _ _ _ (by omega)
    have := hr i hik
    rw [hg'] at this
    rw [ho, ho']
    exact this
  · obtain rfl : i = k := by omega
    have ho : (outs ++ [y]).getD i 0 = y := by simp [List.getD, ← hl]
    rw [ho]
    refine ⟨h0, h1, fun hp => ?_⟩
    have ho' : topAt (outs ++ [y]) (i - 1) = topAt outs (i - 1) := topAt_append _ _ _ (by omega)
    rw [ho']
    exact h2 hp

def LinePost (ls : List Int) (n : Nat) (w : World) (e : Ending) (w' : World) : Prop :=
  Below w.heap.size w w' ∧ (e = .returned (.tuple #[.slice none 0 0, .bool false]) ∨
    ∃ A c outs, e = .returned (.tuple #[.slice A n c, .bool true]) ∧ Reads w' w'.heap.size 1 A n (outs.map (Value.int .i64)) ∧ LineRel ls outs)

def LnInv (ls : List Int) (w : World) (k : Nat) (v : Value) (h : Int) (wr : World) : Prop :=
  ∃ outs, wr.ownsRow w.heap.size 2 1 v k (outs.map (Value.int .i64)) ∧ LineRel (ls.take k) outs ∧ Below w.heap.size w wr ∧ h = (if k = 0 then 0 else topAt outs (k - 1))

theorem lninv_step {ls : List Int} {w wr w1 : World} {v : Value} {k : Nat} {y h h' : Int} {outs : List Int} {gg cap : Nat} {o : Obj} (hk : k < ls.length) (hst : LineRel (ls.take k) outs)
    (hh : h = (if k = 0 then 0 else topAt outs (k - 1))) (hh' : h' = if k = 0 ∨ h < y then y else h)
    (h0 : 0 ≤ y) (h1 : k = 0 → y = ls.getD k 0)
    (h2 : 0 < k → y = h + nearD h (ls.getD k 0) ∧ nearD h (ls.getD k 0) ≠ -32768)
    (hown : wr.ownsRow w.heap.size 2 1 v k (outs.map (Value.int .i64))) (hb : Below w.heap.size w wr)
    (hown1 : w1.ownsRow w.heap.size 2 1 (.slice (some ⟨gg, 0, none⟩) (k + 1) cap) (k + 1) (outs.map (Value.int .i64) ++ [.int .i64 y]))
    (hgrow : (wr.alloc o).grownBy w1 v.ownBlock) : LnInv ls w (k + 1) (.slice (some ⟨gg, 0, none⟩) (k + 1) cap) h' w1 := by
  have hol : outs.length = k := by
    have h := hst.1
    rw [List.length_take] at h
    omega
  refine ⟨outs ++ [y], by simpa using hown1, line_snoc hk hst h0 h1 (fun hp => ?_), ?_, ?_⟩
  · rw [if_neg (by omega)] at hh
    rw [← hh]
    exact h2 hp
  · exact (hb.alloc hb.size o).grown hgrow (by have := hb.size; simp; omega) fun g hg => (hown.lt g hg).1
  · rw [if_neg (by omega), Nat.add_sub_cancel, hh']
    cases k with
    | zero =>
      have : outs = [] := List.eq_nil_of_length_eq_zero hol
      subst this
      simp [topAt]
    | succ j =>
      simp only [topAt]
      rw [topAt_append _ _ _ (by omega)]
      have ho : (outs ++ [y]).getD (j + 1) 0 = y := by simp [List.getD, ← hol]
      rw [ho]
      simp at hh
      rw [← hh]
      simp
      split <;> omega

set_option maxRecDepth 100000 in
set_option maxHeartbeats 800000 in
theorem line_any (n c : Nat) (A : Option Addr) (ls : List Int) (w : World)
    (hr : Reads w w.heap.size 1 A n (ls.map (Value.int .u16))) (hn : n ≤ 2147483647) (hls : ∀ x ∈ ls, 0 ≤ x ∧ x ≤ 65535) :
    Calls Try.prog 13 #[.slice A n c] w (LinePost ls n w) := by
  obtain ⟨i0, hi0, hz0, hz1, hz2⟩ := info_parts info_i64
  have hlen : ls.length = n := by simpa using hr.1
  have HR := Lib.hid hr
  have HLS := Lib.hid hls
  have HLEN := Lib.hid hlen
  clear hr hls hlen
  go_enter Try.func13, Try.ntmps13
  go_wp2_with fail
  go_loopw [4, 5, 12] (fun v v5 i wr => ∃ (k : Nat) (h : Int), k ≤ n ∧ i = .int .i64 k ∧ v5 = .int .i64 h ∧ Hid (LnInv ls w k v h wr)) (fun _ _ i _ => n - (intOf i).toNat)
  case atStart => exact ⟨0, 0, by omega, rfl, rfl, ⟨[], World.ownsRow_nil _ _ _ _, ⟨rfl, fun i hi => by simp at hi⟩, Below.refl _ _, rfl⟩⟩
  case round =>
    obtain ⟨k, h, hk, rfl, rfl, hinv⟩ := hrel
    by_cases hlt : k < n
    · obtain ⟨outs, hown, hst, hb, hh⟩ := hinv.out
      obtain ⟨ad, u, rfl, hab, hu1, hc⟩ := (HR.out.below hb).at1 hlt
      obtain ⟨x, rfl, hx, x0, x1⟩ : ∃ x, u = .int .u16 x ∧ x = ls.getD k 0 ∧ 0 ≤ x ∧ x ≤ 65535 := by
        have hl := HLEN.out
        rw [List.getElem?_map, List.getElem?_eq_getElem (by omega)] at hu1
        simp only [Option.map_some, Option.some.injEq] at hu1
        refine ⟨ls[k], hu1.symm, by simp [List.getD, List.getElem?_eq_getElem (show k < ls.length by omega)], ?_⟩
        exact HLS.out _ (List.getElem_mem _)
      have hlk : k < ls.length := by have := HLEN.out; omega
      have hhr : 0 ≤ h ∧ h ≤ 140737488355328 := by
        rw [hh]
        split
        · omega
        · have := line_range hst (fun x hx => HLS.out x (List.mem_of_mem_take hx)) (k - 1) (by rw [List.length_take]; omega)
          omega
      obtain ⟨q0, q2⟩ := hhr
      have HX := Lib.hid hx
      have HST := Lib.hid hst
      have HOWN := Lib.hid hown
      have HB := Lib.hid hb
      have HH := Lib.hid hh
      have HB0 := hb.size
      clear hx hst hown hb hu1 hinv hh
      by_cases hk0 : k = 0
      · have h2 : 0 < k → x = h + nearD h (ls.getD k 0) ∧ nearD h (ls.getD k 0) ≠ -32768 := fun h => by omega
        have H2 := Lib.hid h2
        have H3 : Hid (x = if k = 0 ∨ h < x then x else h) := by show x = _; rw [if_pos (.inl hk0)]
        have hk0' : k ≤ 0 := by omega
        have hk1 : ((k : Int) == 0) = true := by simp; omega
        clear h2 hk0
        go_wp2_with (at_builtin; refine wpList_append_lies _ rfl _ _ _ rfl w.heap.size 2 i0 _ 1 8 Try.underlying23 hi0 hz0 hz1 hz2 rfl (by omega) u4 k _ rfl (HOWN.out.alloc _) ⟨wr.heap.size, 0, none⟩ 1 1 [.int .i64 (x)] rfl rfl (World.news_of_block (cs := #[.int .i64 (x)]) (t := 2) (fr := (0, 0)) (heap_alloc_new wr _)) (by simp [Value.oneCell']) (by omega) (by simp only [maxLen]; omega) (by omega) (by simp; omega) (wr.heap.size + 1) (by simp) ?_; intro gg cap w1 hown1 hgrow hat hlt1)
        exact ⟨⟨k + 1, x, by omega, by go_num, rfl, lninv_step hlk HST.out HH.out H3.out x0 (fun _ => HX.out) H2.out HOWN.out HB.out hown1 hgrow⟩, by simp [intOf]; omega⟩
      · have hk0' : 0 < k := by omega
        have hk1 : ((k : Int) == 0) = false := by simp; omega
        have hnr := nearD_range h x
        have HK0 := Lib.hid hk0
        clear hk0
        by_cases hnd : nearD h x = -32768
        · have hne : (nearD h x != -32768) = false := by simp [hnd]
          clear hnd hnr
          go_wp2_with (go_at_call 31; refine (near_any h x _ (by omega) q2).mono ?_; rintro e w' ⟨rfl, rfl⟩)
          go_ret2
          exact ⟨HB.out, .inl rfl⟩
        · have hne : (nearD h x != -32768) = true := by simp [hnd]
          have HND := Lib.hid hnd
          clear hnd
          by_cases hneg : h + nearD h x < 0
          · go_wp2_with (go_at_call 31; refine (near_any h x _ (by omega) q2).mono ?_; rintro e w' ⟨rfl, rfl⟩)
            go_ret2
            exact ⟨HB.out, .inl rfl⟩
          · have h2 : 0 < k → h + nearD h x = h + nearD h (ls.getD k 0) ∧ nearD h (ls.getD k 0) ≠ -32768 := fun _ => by
              rw [← HX.out]
              exact ⟨rfl, HND.out⟩
            have H2 := Lib.hid h2
            clear h2
            by_cases hup : h < h + nearD h x
            · have H3 : Hid (h + nearD h x = if k = 0 ∨ h < h + nearD h x then h + nearD h x else h) := by show h + nearD h x = _; rw [if_pos (.inr hup)]
              go_wp2_with (first
                | (go_at_call 31; refine (near_any h x _ (by omega) q2).mono ?_; rintro e w' ⟨rfl, rfl⟩)
                | (at_builtin; refine wpList_append_lies _ rfl _ _ _ rfl w.heap.size 2 i0 _ 1 8 Try.underlying23 hi0 hz0 hz1 hz2 rfl (by omega) u4 k _ rfl (HOWN.out.alloc _) ⟨wr.heap.size, 0, none⟩ 1 1 [.int .i64 (h + nearD h x)] rfl rfl (World.news_of_block (cs := #[.int .i64 (h + nearD h x)]) (t := 2) (fr := (0, 0)) (heap_alloc_new wr _)) (by simp [Value.oneCell']) (by omega) (by simp only [maxLen]; omega) (by omega) (by simp; omega) (wr.heap.size + 1) (by simp) ?_; intro gg cap w1 hown1 hgrow hat hlt1))
              exact ⟨⟨k + 1, h + nearD h x, by omega, by go_num, rfl, lninv_step hlk HST.out HH.out H3.out (by omega) (by omega) H2.out HOWN.out HB.out hown1 hgrow⟩, by simp [intOf]; omega⟩
            · have H3 : Hid (h = if k = 0 ∨ h < h + nearD h x then h + nearD h x else h) := by show h = _; rw [if_neg (by have := HK0.out; omega)]
              go_wp2_with (first
                | (go_at_call 31; refine (near_any h x _ (by omega) q2).mono ?_; rintro e w' ⟨rfl, rfl⟩)
                | (at_builtin; refine wpList_append_lies _ rfl _ _ _ rfl w.heap.size 2 i0 _ 1 8 Try.underlying23 hi0 hz0 hz1 hz2 rfl (by omega) u4 k _ rfl (HOWN.out.alloc _) ⟨wr.heap.size, 0, none⟩ 1 1 [.int .i64 (h + nearD h x)] rfl rfl (World.news_of_block (cs := #[.int .i64 (h + nearD h x)]) (t := 2) (fr := (0, 0)) (heap_alloc_new wr _)) (by simp [Value.oneCell']) (by omega) (by simp only [maxLen]; omega) (by omega) (by simp; omega) (wr.heap.size + 1) (by simp) ?_; intro gg cap w1 hown1 hgrow hat hlt1))
              exact ⟨⟨k + 1, h, by omega, by go_num, rfl, lninv_step hlk HST.out HH.out H3.out (by omega) (by omega) H2.out HOWN.out HB.out hown1 hgrow⟩, by simp [intOf]; omega⟩
    · obtain ⟨outs, hown, hst, hb, hh⟩ := hinv.out
      obtain rfl : k = n := by omega
      obtain ⟨A1, c1, rfl⟩ := own_slice hown
      have HST := Lib.hid hst
      have HOWN := Lib.hid hown
      have HB := Lib.hid hb
      clear hst hown hb hinv hh
      go_wp2_with fail
      go_ret2
      refine ⟨HB.out, .inr ⟨A1, c1, outs, rfl, Reads.own HOWN.out, ?_⟩⟩
      have h := HST.out
      rwa [List.take_of_length_le (by have := HLEN.out; omega)] at h
end Go.Proofs.Ytlkmmkphpiamcaa
