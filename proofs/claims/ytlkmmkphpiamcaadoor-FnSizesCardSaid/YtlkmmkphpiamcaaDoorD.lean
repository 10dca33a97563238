/-
  spec.Line, Power, within, ends; appends. By an AI agent.
-/
import Derived.Test.YtlkmmkphpiamcaaDoorC
namespace Go.Proofs.YtlkmmkphpiamcaaDoor
open Go.RowKit

open Go.RowKit

/-- The greatest of the first ones, up to place i. -/
def topAt (outs : List Int) : Nat → Int
  | 0 => outs.getD 0 0
  | i + 1 => max (topAt outs i) (outs.getD (i + 1) 0)

/-- What spec.Line gives where it gives something: each number nearest to the greatest one before. -/
def LineRel (ls outs : List Int) : Prop :=
  outs.length = ls.length ∧ ∀ i, i < ls.length → 0 ≤ outs.getD i 0 ∧
    (i = 0 → outs.getD i 0 = ls.getD i 0) ∧ (0 < i → outs.getD i 0 = topAt outs (i - 1) + nearD (topAt outs (i - 1)) (ls.getD i 0) ∧ nearD (topAt outs (i - 1)) (ls.getD i 0) ≠ -32768)

theorem topAt_append (outs r : List Int) : ∀ i, i < outs.length → topAt (outs ++ r) i = topAt outs i
  | 0, h => by simp [topAt, List.getD, List.getElem?_append_left h]
  | i + 1, h => by
    simp only [topAt]
    rw [topAt_append outs r i (by omega)]
    simp [List.getD, List.getElem?_append_left h]

theorem line_range {ls outs : List Int} (h : LineRel ls outs) (hls : ∀ x ∈ ls, 0 ≤ x ∧ x ≤ 65535) : ∀ i, i < ls.length → 0 ≤ topAt outs i ∧ topAt outs i ≤ 65535 + 32768 * (i : Int)
  | 0, hi => by
    obtain ⟨h0, h1, _⟩ := h.2 0 hi
    have := hls _ (List.getElem_mem hi)
    simp only [topAt]
    rw [h1 rfl]
    simp [List.getD, List.getElem?_eq_getElem hi]
    omega
  | i + 1, hi => by
    have ih := line_range h hls i (by omega)
    obtain ⟨h0, _, h2⟩ := h.2 (i + 1) hi
    have h3 := (h2 (by omega)).1
    have := nearD_range (topAt outs i) (ls.getD (i + 1) 0)
    simp only [Nat.add_sub_cancel] at h3
    simp only [topAt]
    omega

theorem line_snoc {ls outs : List Int} {k : Nat} {y : Int} (hk : k < ls.length) (h : LineRel (ls.take k) outs) (h0 : 0 ≤ y) (h1 : k = 0 → y = ls.getD k 0)
    (h2 : 0 < k → y = topAt outs (k - 1) + nearD (topAt outs (k - 1)) (ls.getD k 0) ∧ nearD (topAt outs (k - 1)) (ls.getD k 0) ≠ -32768) : LineRel (ls.take (k + 1)) (outs ++ [y]) := by
  obtain ⟨hl, hr⟩ := h
  have hlk : (ls.take k).length = k := by simp; omega
  rw [hlk] at hl hr
  have hlk1 : (ls.take (k + 1)).length = k + 1 := by simp; omega
  refine ⟨by rw [hlk1]; simp [hl], fun i hi => ?_⟩
  rw [hlk1] at hi
  have hg : (ls.take (k + 1)).getD i 0 = ls.getD i 0 := by simp [List.getD, hi]
  rw [hg]
  by_cases hik : i < k
  · have hg' : (ls.take k).getD i 0 = ls.getD i 0 := by simp [List.getD, hik]
    have ho : (outs ++ [y]).getD i 0 = outs.getD i 0 := by simp [List.getD, List.getElem?_append_left (show i < outs.length by omega)]
    have ho' : topAt (outs ++ [y]) (i - 1) = topAt outs (i - 1) := topAt_append _ _ _ (by omega)
    have := hr i hik
    rw [hg'] at this
    rw [ho, ho']
    exact this
  · obtain rfl : i = k := by omega
    have ho : (outs ++ [y]).getD i 0 = y := by simp [List.getD, ← hl]
    rw [ho]
    refine ⟨h0, h1, fun hp => ?_⟩
    have ho' : topAt (outs ++ [y]) (i - 1) = topAt outs (i - 1) := topAt_append _ _ _ (by omega)
    rw [ho']
    exact h2 hp

def LinePost (ls : List Int) (n : Nat) (w : World) (e : Ending) (w' : World) : Prop :=
  Below w.heap.size w w' ∧ (e = .returned (.tuple #[.slice none 0 0, .bool false]) ∨
    ∃ A c outs, e = .returned (.tuple #[.slice A n c, .bool true]) ∧ Reads w' w'.heap.size 1 A n (outs.map (Value.int .i64)) ∧ LineRel ls outs)

def LnInv (ls : List Int) (w : World) (k : Nat) (v : Value) (h : Int) (wr : World) : Prop :=
  ∃ outs, wr.ownsRow w.heap.size 2 1 v k (outs.map (Value.int .i64)) ∧ LineRel (ls.take k) outs ∧ Below w.heap.size w wr ∧ h = (if k = 0 then 0 else topAt outs (k - 1))

theorem lninv_step {ls : List Int} {w wr w1 : World} {v : Value} {k : Nat} {y h h' : Int} {outs : List Int} {gg cap : Nat} {o : Obj} (hk : k < ls.length) (hst : LineRel (ls.take k) outs)
    (hh : h = (if k = 0 then 0 else topAt outs (k - 1))) (hh' : h' = if k = 0 ∨ h < y then y else h)
    (h0 : 0 ≤ y) (h1 : k = 0 → y = ls.getD k 0)
    (h2 : 0 < k → y = h + nearD h (ls.getD k 0) ∧ nearD h (ls.getD k 0) ≠ -32768)
    (hown : wr.ownsRow w.heap.size 2 1 v k (outs.map (Value.int .i64))) (hb : Below w.heap.size w wr)
    (hown1 : w1.ownsRow w.heap.size 2 1 (.slice (some ⟨gg, 0, none⟩) (k + 1) cap) (k + 1) (outs.map (Value.int .i64) ++ [.int .i64 y]))
    (hgrow : (wr.alloc o).grownBy w1 v.ownBlock) : LnInv ls w (k + 1) (.slice (some ⟨gg, 0, none⟩) (k + 1) cap) h' w1 := by
  have hol : outs.length = k := by
    have h := hst.1
    rw [List.length_take] at h
    omega
  refine ⟨outs ++ [y], by simpa using hown1, line_snoc hk hst h0 h1 (fun hp => ?_), ?_, ?_⟩
  · rw [if_neg (by omega)] at hh
    rw [← hh]
    exact h2 hp
  · exact (hb.alloc hb.size o).grown hgrow (by have := hb.size; simp; omega) fun g hg => (hown.lt g hg).1
  · rw [if_neg (by omega), Nat.add_sub_cancel, hh']
    cases k with
    | zero =>
      have : outs = [] := List.eq_nil_of_length_eq_zero hol
      subst this
      simp [topAt]
    | succ j =>
      simp only [topAt]
      rw [topAt_append _ _ _ (by omega)]
      have ho : (outs ++ [y]).getD (j + 1) 0 = y := by simp [List.getD, ← hol]
      rw [ho]
      simp at hh
      rw [← hh]
      simp
      split <;> omega

set_option maxRecDepth 100000 in
set_option maxHeartbeats 800000 in
theorem line_any (n c : Nat) (A : Option Addr) (ls : List Int) (w : World)
    (hr : Reads w w.heap.size 1 A n (ls.map (Value.int .u16))) (hn : n ≤ 2147483647) (hls : ∀ x ∈ ls, 0 ≤ x ∧ x ≤ 65535) :
    Calls Tryd.prog 5 #[.slice A n c] w (LinePost ls n w) := by
  obtain ⟨i0, hi0, hz0, hz1, hz2⟩ := info_parts info_i64
  have hlen : ls.length = n := by simpa using hr.1
  have HR := Lib.hid hr
  have HLS := Lib.hid hls
  have HLEN := Lib.hid hlen
  clear hr hls hlen
  go_enter Tryd.func5, Tryd.ntmps5
  go_wp2_with fail
  go_loopw [4, 5, 12] (fun v v5 i wr => ∃ (k : Nat) (h : Int), k ≤ n ∧ i = .int .i64 k ∧ v5 = .int .i64 h ∧ Hid (LnInv ls w k v h wr)) (fun _ _ i _ => n - (intOf i).toNat)
  case atStart => exact ⟨0, 0, by omega, rfl, rfl, ⟨[], World.ownsRow_nil _ _ _ _, ⟨rfl, fun i hi => by simp at hi⟩, Below.refl _ _, rfl⟩⟩
  case round =>
    obtain ⟨k, h, hk, rfl, rfl, hinv⟩ := hrel
    by_cases hlt : k < n
    · obtain ⟨outs, hown, hst, hb, hh⟩ := hinv.out
      obtain ⟨ad, u, rfl, hab, hu1, hc⟩ := (HR.out.below hb).at1 hlt
      obtain ⟨x, rfl, hx, x0, x1⟩ : ∃ x, u = .int .u16 x ∧ x = ls.getD k 0 ∧ 0 ≤ x ∧ x ≤ 65535 := by
        have hl := HLEN.out
        rw [List.getElem?_map, List.getElem?_eq_getElem (by omega)] at hu1
        simp only [Option.map_some, Option.some.injEq] at hu1
        refine ⟨ls[k], hu1.symm, by simp [List.getD, List.getElem?_eq_getElem (show k < ls.length by omega)], ?_⟩
        exact HLS.out _ (List.getElem_mem _)
      have hlk : k < ls.length := by have := HLEN.out; omega
      have hhr : 0 ≤ h ∧ h ≤ 140737488355328 := by
        rw [hh]
        split
        · omega
        · have := line_range hst (fun x hx => HLS.out x (List.mem_of_mem_take hx)) (k - 1) (by rw [List.length_take]; omega)
          omega
      obtain ⟨q0, q2⟩ := hhr
      have HX := Lib.hid hx
      have HST := Lib.hid hst
      have HOWN := Lib.hid hown
      have HB := Lib.hid hb
      have HH := Lib.hid hh
      have HB0 := hb.size
      clear hx hst hown hb hu1 hinv hh
      by_cases hk0 : k = 0
      · have h2 : 0 < k → x = h + nearD h (ls.getD k 0) ∧ nearD h (ls.getD k 0) ≠ -32768 := fun h => by omega
        have H2 := Lib.hid h2
        have H3 : Hid (x = if k = 0 ∨ h < x then x else h) := by show x = _; rw [if_pos (.inl hk0)]
        have hk0' : k ≤ 0 := by omega
        have hk1 : ((k : Int) == 0) = true := by simp; omega
        clear h2 hk0
        go_wp2_with (at_builtin; refine wpList_append_lies _ rfl _ _ _ rfl w.heap.size 2 i0 _ 1 8 Tryd.underlying23 hi0 hz0 hz1 hz2 rfl (by omega) u4 k _ rfl (HOWN.out.alloc _) ⟨wr.heap.size, 0, none⟩ 1 1 [.int .i64 (x)] rfl rfl (World.news_of_block (cs := #[.int .i64 (x)]) (t := 2) (fr := (0, 0)) (heap_alloc_new wr _)) (by simp [Value.oneCell']) (by omega) (by simp only [maxLen]; omega) (by omega) (by simp; omega) (wr.heap.size + 1) (by simp) ?_; intro gg cap w1 hown1 hgrow hat hlt1)
        exact ⟨⟨k + 1, x, by omega, by go_num, rfl, lninv_step hlk HST.out HH.out H3.out x0 (fun _ => HX.out) H2.out HOWN.out HB.out hown1 hgrow⟩, by simp [intOf]; omega⟩
      · have hk0' : 0 < k := by omega
        have hk1 : ((k : Int) == 0) = false := by simp; omega
        have hnr := nearD_range h x
        have HK0 := Lib.hid hk0
        clear hk0
        by_cases hnd : nearD h x = -32768
        · have hne : (nearD h x != -32768) = false := by simp [hnd]
          clear hnd hnr
          go_wp2_with (go_at_call 12; refine (near_any h x _ (by omega) q2).mono ?_; rintro e w' ⟨rfl, rfl⟩)
          go_ret2
          exact ⟨HB.out, .inl rfl⟩
        · have hne : (nearD h x != -32768) = true := by simp [hnd]
          have HND := Lib.hid hnd
          clear hnd
          by_cases hneg : h + nearD h x < 0
          · go_wp2_with (go_at_call 12; refine (near_any h x _ (by omega) q2).mono ?_; rintro e w' ⟨rfl, rfl⟩)
            go_ret2
            exact ⟨HB.out, .inl rfl⟩
          · have h2 : 0 < k → h + nearD h x = h + nearD h (ls.getD k 0) ∧ nearD h (ls.getD k 0) ≠ -32768 := fun _ => by
              rw [← HX.out]
              exact ⟨rfl, HND.out⟩
            have H2 := Lib.hid h2
            clear h2
            by_cases hup : h < h + nearD h x
            · have H3 : Hid (h + nearD h x = if k = 0 ∨ h < h + nearD h x then h + nearD h x else h) := by show h + nearD h x = _; rw [if_pos (.inr hup)]
              go_wp2_with (first
                | (go_at_call 12; refine (near_any h x _ (by omega) q2).mono ?_; rintro e w' ⟨rfl, rfl⟩)
                | (at_builtin; refine wpList_append_lies _ rfl _ _ _ rfl w.heap.size 2 i0 _ 1 8 Tryd.underlying23 hi0 hz0 hz1 hz2 rfl (by omega) u4 k _ rfl (HOWN.out.alloc _) ⟨wr.heap.size, 0, none⟩ 1 1 [.int .i64 (h + nearD h x)] rfl rfl (World.news_of_block (cs := #[.int .i64 (h + nearD h x)]) (t := 2) (fr := (0, 0)) (heap_alloc_new wr _)) (by simp [Value.oneCell']) (by omega) (by simp only [maxLen]; omega) (by omega) (by simp; omega) (wr.heap.size + 1) (by simp) ?_; intro gg cap w1 hown1 hgrow hat hlt1))
              exact ⟨⟨k + 1, h + nearD h x, by omega, by go_num, rfl, lninv_step hlk HST.out HH.out H3.out (by omega) (by omega) H2.out HOWN.out HB.out hown1 hgrow⟩, by simp [intOf]; omega⟩
            · have H3 : Hid (h = if k = 0 ∨ h < h + nearD h x then h + nearD h x else h) := by show h = _; rw [if_neg (by have := HK0.out; omega)]
              go_wp2_with (first
                | (go_at_call 12; refine (near_any h x _ (by omega) q2).mono ?_; rintro e w' ⟨rfl, rfl⟩)
                | (at_builtin; refine wpList_append_lies _ rfl _ _ _ rfl w.heap.size 2 i0 _ 1 8 Tryd.underlying23 hi0 hz0 hz1 hz2 rfl (by omega) u4 k _ rfl (HOWN.out.alloc _) ⟨wr.heap.size, 0, none⟩ 1 1 [.int .i64 (h + nearD h x)] rfl rfl (World.news_of_block (cs := #[.int .i64 (h + nearD h x)]) (t := 2) (fr := (0, 0)) (heap_alloc_new wr _)) (by simp [Value.oneCell']) (by omega) (by simp only [maxLen]; omega) (by omega) (by simp; omega) (wr.heap.size + 1) (by simp) ?_; intro gg cap w1 hown1 hgrow hat hlt1))
              exact ⟨⟨k + 1, h, by omega, by go_num, rfl, lninv_step hlk HST.out HH.out H3.out (by omega) (by omega) H2.out HOWN.out HB.out hown1 hgrow⟩, by simp [intOf]; omega⟩
    · obtain ⟨outs, hown, hst, hb, hh⟩ := hinv.out
      obtain rfl : k = n := by omega
      obtain ⟨A1, c1, rfl⟩ := own_slice hown
      have HST := Lib.hid hst
      have HOWN := Lib.hid hown
      have HB := Lib.hid hb
      clear hst hown hb hinv hh
      go_wp2_with fail
      go_ret2
      refine ⟨HB.out, .inr ⟨A1, c1, outs, rfl, Reads.own HOWN.out, ?_⟩⟩
      have h := HST.out
      rwa [List.take_of_length_le (by have := HLEN.out; omega)] at h

open Go.RowKit

theorem i64_at {w : World} {B n k : Nat} {A : Option Addr} {xs : List Int} (h : Reads w B 1 A n (xs.map (Value.int .i64))) (hk : k < n) :
    ∃ ad x, A = some ad ∧ ad.block < B ∧ xs[k]? = some x ∧ w.cell? (ad.add k) = some (.int .i64 x) := by
  obtain ⟨ad, u, e, hb, hu, hc⟩ := h.at1 hk
  have hl : xs.length = n := by simpa using h.1
  rw [List.getElem?_map, List.getElem?_eq_getElem (by omega)] at hu
  simp at hu
  exact ⟨ad, xs[k], e, hb, List.getElem?_eq_getElem (by omega), by rw [hc, ← hu]⟩

set_option maxHeartbeats 800000 in
theorem within_any (n c B : Nat) (A : Option Addr) (xs : List Int) (y : Int) (w : World) (hr : Reads w B 1 A n (xs.map (Value.int .i64))) (hn : n ≤ 9223372036854775807) :
    Calls Tryd.prog 13 #[.slice A n c, .int .i64 y] w fun e w' => e = .returned (.bool (decide (y ∈ xs))) ∧ w = w' := by
  have hlen : xs.length = n := by simpa using hr.1
  obtain ⟨b, hb⟩ : ∃ b, decide (y ∈ xs) = b := ⟨_, rfl⟩
  have HR := Lib.hid hr
  have HLEN := Lib.hid hlen
  have HB := Lib.hid hb
  rw [hb]
  clear hr hlen hb
  go_enter Tryd.func13, Tryd.ntmps13
  go_wp2_with fail
  go_loop [9] (fun i => ∃ k : Nat, i = .int .i64 k ∧ k ≤ n ∧ Hid (y ∉ xs.take k)) (fun i => n - (intOf i).toNat)
  case atStart => exact ⟨0, rfl, by omega, by simp [Hid]⟩
  case round =>
    obtain ⟨k, rfl, hk, hno⟩ := hrel
    by_cases hlt : k < n
    · obtain ⟨ad, x, rfl, hab, hx, hc⟩ := i64_at HR.out hlt
      by_cases he : x = y
      · have hE : (x == y) = true := by simp [he]
        have hmem : y ∈ xs := by rw [← he]; exact List.mem_of_getElem? hx
        have HM := Lib.hid hmem
        clear hx he hmem
        go_wp2_with fail
        go_ret
        have := HB.out
        rw [decide_eq_true HM.out] at this
        exact ⟨by rw [← this]; rfl, rfl⟩
      · have hE : (x == y) = false := by simp [he]
        have HX := Lib.hid hx
        have HE := Lib.hid he
        clear hx he
        go_wp2_with fail
        refine ⟨⟨k + 1, by go_num, by omega, ?_⟩, by simp [intOf]; omega⟩
        rw [List.take_add_one, HX.out]
        simp only [Option.toList_some, List.mem_append, List.mem_singleton, not_or]
        exact ⟨hno.out, fun e => HE.out e.symm⟩
    · obtain rfl : k = n := by omega
      go_wp2_with fail
      go_ret
      have h := hno.out
      rw [List.take_of_length_le (by rw [HLEN.out]; omega)] at h
      have := HB.out
      rw [decide_eq_false h] at this
      exact ⟨by rw [← this]; rfl, rfl⟩

def PowerPost (size : Int) (w : World) (e : Ending) (w' : World) : Prop := w = w' ∧ ∃ b : Bool, e = .returned (.bool b) ∧ (b = true ↔ ∃ j, j ≤ 9 ∧ size = 64 * 2 ^ j)

set_option maxHeartbeats 800000 in
theorem power_any (size : Int) (w : World) : Calls Tryd.prog 6 #[.int .i64 size] w (PowerPost size w) := by
  go_enter Tryd.func6, Tryd.ntmps6
  go_wp2_with fail
  go_loop [3] (fun v => ∃ (j : Nat) (p : Int), v = .int .i64 p ∧ 64 ≤ p ∧ p ≤ 65536 ∧ Hid (p = 64 * 2 ^ j ∧ ∀ i, i < j → size ≠ 64 * 2 ^ i)) (fun v => (65536 - intOf v).toNat)
  case atStart => exact ⟨0, 64, rfl, by omega, by omega, by simp, fun i hi => by omega⟩
  case round =>
    obtain ⟨j, p, rfl, h0, h1, hp⟩ := hrel
    by_cases hle : p ≤ 32768
    · by_cases he : size = p
      · have hE : (size == p) = true := by simp [he]
        have HE := Lib.hid he
        clear he
        go_wp2_with fail
        go_ret
        refine ⟨rfl, true, rfl, fun _ => ⟨j, ?_, by rw [HE.out]; exact hp.out.1⟩, fun _ => rfl⟩
        rcases Nat.lt_or_ge 9 j with h | h
        · have := Nat.pow_le_pow_right (n := 2) (by omega) (show 10 ≤ j from h)
          have h2 := hp.out.1
          have e : ((2 : Int) ^ j) = ((2 ^ j : Nat) : Int) := by simp
          rw [e] at h2
          generalize 2 ^ j = q at *
          omega
        · exact h
      · have hE : (size == p) = false := by simp [he]
        have HE := Lib.hid he
        clear he
        go_wp2_with fail
        refine ⟨⟨j + 1, p * 2, rfl, by omega, by omega, ?_, fun i hi => ?_⟩, by simp [intOf]; omega⟩
        · rw [hp.out.1, Int.pow_succ]; omega
        · rcases Nat.lt_or_ge i j with h | h
          · exact hp.out.2 i h
          · obtain rfl : i = j := by omega
            rw [← hp.out.1]
            exact HE.out
    · go_wp2_with fail
      go_ret
      refine ⟨rfl, false, rfl, by simp, fun ⟨i, hi, he⟩ => ?_⟩
      obtain ⟨h2, h3⟩ := hp.out
      have : i < j := by
        rcases Nat.lt_or_ge i j with h | h
        · exact h
        · have h5 := Nat.pow_le_pow_right (n := 2) (by omega) h
          have h9 := Nat.pow_le_pow_right (n := 2) (by omega) hi
          have e : ((2 : Int) ^ j) = ((2 ^ j : Nat) : Int) := by simp
          rw [e] at h2
          generalize 2 ^ j = q at *
          generalize 2 ^ i = r at *
          omega
      exact absurd he (h3 i this)

/-- The first and the greatest one of some numbers, of which none is below the first; they reach less far than a size. -/
def EndsFact (xs : List Int) (f h size : Int) : Prop := f = xs.getD 0 0 ∧ h ∈ xs ∧ (∀ x ∈ xs, f ≤ x ∧ x ≤ h) ∧ h - f < size

def EndsPost (xs : List Int) (size : Int) (w : World) (e : Ending) (w' : World) : Prop :=
  (∃ m, w' = w.drewN m) ∧ ∃ f h b, e = .returned (.tuple #[.int .i64 f, .int .i64 h, .bool b]) ∧ 0 ≤ f ∧ 0 ≤ h ∧ h ≤ 140737488355328 ∧ (b = true → EndsFact xs f h size)

def ESt (xs : List Int) (f h : Int) (k : Nat) : Prop := h ∈ xs ∧ ∀ x ∈ xs.take k, f ≤ x ∧ x ≤ h

theorem est_step {xs : List Int} {f h x : Int} {k : Nat} (hx : xs[k]? = some x) (hs : ESt xs f h k) (hf : f ≤ x) : ESt xs f (max h x) (k + 1) := by
  obtain ⟨h1, h2⟩ := hs
  refine ⟨?_, fun y hy => ?_⟩
  · rcases Int.le_total h x with h3 | h3
    · rw [Int.max_eq_right h3]; exact List.mem_of_getElem? hx
    · rw [Int.max_eq_left h3]; exact h1
  · rw [List.take_add_one, hx] at hy
    simp only [Option.toList_some, List.mem_append, List.mem_singleton] at hy
    rcases hy with hy | rfl
    · have := h2 y hy
      omega
    · omega

set_option maxHeartbeats 800000 in
theorem ends_any (n c B : Nat) (A : Option Addr) (xs : List Int) (size : Int) (w : World) (hr : Reads w B 1 A n (xs.map (Value.int .i64))) (hn : n ≤ 9223372036854775807)
    (hx : ∀ x ∈ xs, 0 ≤ x ∧ x ≤ 140737488355328) :
    Calls Tryd.prog 23 #[.slice A n c, .int .i64 size] w (EndsPost xs size w) := by
  have hlen : xs.length = n := by simpa using hr.1
  rcases Nat.eq_zero_or_pos n with h0 | h0
  · have h0' : ((n : Int) == 0) = true := by simp; omega
    clear h0 hr hlen
    go_enter Tryd.func23, Tryd.ntmps23
    go_wp2_with fail
    go_ret3
    exact ⟨⟨0, rfl⟩, 0, 0, false, rfl, by omega, by omega, by omega, by simp⟩
  · have h0' : ((n : Int) == 0) = false := by simp; omega
    obtain ⟨ad, f, rfl, hab, hf, hc0⟩ := i64_at hr h0
    have hfm := hx f (List.mem_of_getElem? hf)
    have hc0' : w.cell? ad = some (.int .i64 f) := by simpa [Addr.add] using hc0
    have hi : (0 : Int) < (n : Int) := by omega
    have HR := Lib.hid hr
    have HX := Lib.hid hx
    have HLEN := Lib.hid hlen
    have HF := Lib.hid hf
    obtain ⟨f0, f1⟩ := hfm
    clear hr hx hlen hf
    go_enter Tryd.func23, Tryd.ntmps23
    go_wp2_with fail
    go_quiet (fail)
    go_wp2_with fail
    go_loop [4, 5, 20] (fun v4 v i => ∃ (k : Nat) (h : Int), v4 = .int .i64 f ∧ i = .int .i64 k ∧ v = .int .i64 h ∧ k ≤ n ∧ f ≤ h ∧ h ≤ 140737488355328 ∧ Hid (ESt xs f h k)) (fun _ _ i => n - (intOf i).toNat)
    case atStart => exact ⟨0, f, rfl, rfl, rfl, by omega, by omega, f1, List.mem_of_getElem? HF.out, by simp⟩
    case round =>
      obtain ⟨k, h, rfl, rfl, rfl, hk, hfh, hh, hst⟩ := hrel
      by_cases hlt : k < n
      · obtain ⟨ad2, x, he, _, hx, hc⟩ := i64_at HR.out hlt
        obtain rfl : ad = ad2 := by injection he
        obtain ⟨x0, x1⟩ := HX.out x (List.mem_of_getElem? hx)
        have HXX := Lib.hid hx
        clear hx he
        by_cases hxf : x < f
        · go_wp2_with fail
          go_ret3
          exact ⟨⟨nq, rfl⟩, 0, 0, false, rfl, by omega, by omega, by omega, by simp⟩
        · by_cases hup : h < x
          · have hm : max h x = x := Int.max_eq_right (by omega)
            have HST := Lib.hid (est_step HXX.out hst.out (by omega))
            rw [hm] at HST
            go_wp2_with fail
            exact ⟨⟨k + 1, x, rfl, by go_num, rfl, by omega, by omega, by omega, HST.out⟩, by simp [intOf]; omega⟩
          · have hm : max h x = h := Int.max_eq_left (by omega)
            have HST := Lib.hid (est_step HXX.out hst.out (by omega))
            rw [hm] at HST
            go_wp2_with fail
            exact ⟨⟨k + 1, h, rfl, by go_num, rfl, by omega, by omega, by omega, HST.out⟩, by simp [intOf]; omega⟩
      · obtain rfl : k = n := by omega
        go_wp2_with fail
        go_ret3
        refine ⟨⟨nq, rfl⟩, f, h, _, rfl, f0, by omega, hh, fun hb => ?_⟩
        obtain ⟨h1, h2⟩ := hst.out
        rw [List.take_of_length_le (by rw [HLEN.out]; omega)] at h2
        refine ⟨by rw [List.getD, HF.out]; rfl, h1, h2, by simpa using hb⟩

def SHasPost (xs : List Int) (size q : Int) (w : World) (e : Ending) (w' : World) : Prop :=
  (∃ m, w' = w.drewN m) ∧ ∃ has told, e = .returned (.tuple #[.bool has, .bool told]) ∧
    (told = true → ∃ f h, EndsFact xs f h size ∧ nearD h q ≠ -32768 ∧ f ≤ h + nearD h q ∧ h + nearD h q ≤ h ∧ has = decide (h + nearD h q ∈ xs))

open Go.RowKit

section
variable {P : Program} (w : World)
/-- append of what lies at an address, at the operation: the new value is a letter. -/
theorem wp_append_src {o : Oper} {a : Act} {K : Act → World → Prop} {Q : Exit → Act → World → Prop} (s x : Operand) (t : TypeId)
    (ho : o.op = .call { callee := .builtin .append, args := #[s, x], argTypes := #[t, t] })
    (base : Nat) (e : TypeId) (i : TypeInfo) (z : Value) (size bytes : Nat) (ht : P.underlying t = some (.slice e)) (hi : P.info? e = some i) (hz : i.zero = some z)
    (hsize : i.size = size) (hby : i.bytes = bytes) (hzs : z.cells.size = size) (hsz : 0 < size)
    (v : Value) (n : Nat) (xs : List Value) (hs : a.eval s = v) (hown : w.ownsRow base e size v n xs)
    (ad : Addr) (m c : Nat) (news : List Value) (hx : a.eval x = .slice (some ad) m c) (hl : news.length = m * size) (hnews : ∀ j u, news[j]? = some u → w.cell? (ad.add j) = some u) (h1 : ∀ u ∈ news, u.oneCell' = true)
    (h63 : n + m ≤ maxLen) (hbytes : (n + m) * bytes ≤ 140737488355328) (hbase : base ≤ w.heap.size)
    (h : ∀ v' w', w'.ownsRow base e size v' (n + m) (xs ++ news) → w.grownBy w' v.ownBlock → K (a.put o.dst v') w') : o.wp P a w K Q := by
  obtain ⟨v', w', hrun, h2, h3, _⟩ := run_append_own_at (P := P) w base t o.type e i z size bytes ht hi hz hsize hby hzs hsz v n xs hown ad m c news hl hnews h1 h63 hbytes hbase
  unfold Oper.wp execOp
  simp only [ho, resolve, invoke, builtin, Sem.run_bind, Sem.run_pure, Result.andThen_ok, List.map_toArray, List.map_cons, List.map_nil, hs, hx, hrun]
  exact h v' w' h2 h3

theorem step_append_src {ops : Array Oper} {o : Oper} {a : Act} {K : Act → World → Prop} {Q : Exit → Act → World → Prop} {E : Prop} (hgd : o.guard = none) (s x : Operand) (t : TypeId)
    (ho : o.op = .call { callee := .builtin .append, args := #[s, x], argTypes := #[t, t] })
    (base : Nat) (e : TypeId) (i : TypeInfo) (z : Value) (size bytes : Nat) (ht : P.underlying t = some (.slice e)) (hi : P.info? e = some i) (hz : i.zero = some z)
    (hsize : i.size = size) (hby : i.bytes = bytes) (hzs : z.cells.size = size) (hsz : 0 < size)
    (v : Value) (n : Nat) (xs : List Value) (hs : a.eval s = v) (hown : w.ownsRow base e size v n xs)
    (ad : Addr) (m c : Nat) (news : List Value) (hx : a.eval x = .slice (some ad) m c) (hl : news.length = m * size) (hnews : ∀ j u, news[j]? = some u → w.cell? (ad.add j) = some u) (h1 : ∀ u ∈ news, u.oneCell' = true)
    (h63 : n + m ≤ maxLen) (hbytes : (n + m) * bytes ≤ 140737488355328) (hbase : base ≤ w.heap.size)
    (h : ∀ v' w', w'.ownsRow base e size v' (n + m) (xs ++ news) → w.grownBy w' v.ownBlock → K (a.put o.dst v') w') :
    if Region.wanted o (yielded ops a.tmps) = true then Oper.wp P o a w K Q else E := by
  have hw : Region.wanted o (yielded ops a.tmps) = true := by simp [Region.wanted, hgd]
  rw [if_pos hw]
  exact wp_append_src w s x t ho base e i z size bytes ht hi hz hsize hby hzs hsz v n xs hs hown ad m c news hx hl hnews h1 h63 hbytes hbase h
end

/-- The numbers from f on, so many of them, that are none of some. -/
def specMiss (xs : List Int) (f : Int) (r : Nat) : List Int := ((List.range r).map fun e : Nat => f + (e : Int)).filter fun y => decide (y ∉ xs)
theorem specMiss_succ (xs : List Int) (f : Int) (r : Nat) : specMiss xs f (r + 1) = specMiss xs f r ++ (if f + (r : Int) ∈ xs then [] else [f + (r : Int)]) := by
  by_cases h : f + (r : Int) ∈ xs <;> simp [specMiss, List.range_succ, h]
theorem specMiss_len (xs : List Int) (f : Int) (r : Nat) : (specMiss xs f r).length ≤ r := by
  have := List.length_filter_le (fun y => decide (y ∉ xs)) ((List.range r).map fun e : Nat => f + (e : Int))
  simpa [specMiss] using this
def Low16 (l : List Int) : List Value := l.map fun y => Value.int .u16 (y % 65536)

def SMissPost (xs : List Int) (size skip : Int) (w : World) (e : Ending) (w' : World) : Prop :=
  Below w.heap.size w w' ∧ (e = .returned (.tuple #[.slice none 0 0, .bool false]) ∨
    ∃ f h A c, EndsFact xs f h size ∧ e = .returned (.tuple #[.slice A (specMiss xs f (h - skip + 1 - f).toNat).length c, .bool true]) ∧
      Reads w' w'.heap.size 1 A (specMiss xs f (h - skip + 1 - f).toNat).length (Low16 (specMiss xs f (h - skip + 1 - f).toNat)))

def SmInv (xs : List Int) (f : Int) (w : World) (r : Nat) (v : Value) (wr : World) : Prop :=
  wr.ownsRow w.heap.size 32 1 v (specMiss xs f r).length (Low16 (specMiss xs f r)) ∧ Below w.heap.size w wr

theorem sminv_keep {xs : List Int} {f : Int} {w wr : World} {r : Nat} {v : Value} (h : SmInv xs f w r v wr) (hm : f + (r : Int) ∈ xs) : SmInv xs f w (r + 1) v wr := by
  obtain ⟨h1, h2⟩ := h
  have e : specMiss xs f (r + 1) = specMiss xs f r := by rw [specMiss_succ, if_pos hm, List.append_nil]
  exact ⟨by rw [e]; exact h1, h2⟩
theorem sminv_push {xs : List Int} {f : Int} {w wr w1 : World} {r gg cap : Nat} {v : Value} {o : Obj} (h : SmInv xs f w r v wr) (hm : f + (r : Int) ∉ xs)
    (hown1 : w1.ownsRow w.heap.size 32 1 (.slice (some ⟨gg, 0, none⟩) ((specMiss xs f r).length + 1) cap) ((specMiss xs f r).length + 1) (Low16 (specMiss xs f r) ++ [.int .u16 ((f + (r : Int)) % 65536)]))
    (hgrow : (wr.alloc o).grownBy w1 v.ownBlock) : SmInv xs f w (r + 1) (.slice (some ⟨gg, 0, none⟩) ((specMiss xs f r).length + 1) cap) w1 := by
  obtain ⟨h1, h2⟩ := h
  have e : specMiss xs f (r + 1) = specMiss xs f r ++ [f + (r : Int)] := by rw [specMiss_succ, if_neg hm]
  refine ⟨?_, ?_⟩
  · rw [e]
    simpa [Low16] using hown1
  · exact (h2.alloc h2.size o).grown hgrow (by have := h2.size; simp; omega) fun g hg => (h1.lt g hg).1
end Go.Proofs.YtlkmmkphpiamcaaDoor
