/-
  The contract of spec.Line, once more: it also tells that the result's length is within its capacity. Condition: the slice reads as numbers of 16 bits. By an AI agent.
-/
import Derived.Test.YtlkmmkphpiamcaaM
import Derived.Test.YtlkmmkphpiamcaaAt
namespace Go.Proofs.Ytlkmmkphpiamcaa
open Go.RowKit

def LinePost2 (ls : List Int) (n : Nat) (w : World) (e : Ending) (w' : World) : Prop :=
  Below w.heap.size w w' ∧ (e = .returned (.tuple #[.slice none 0 0, .bool false]) ∨
    ∃ A c outs, e = .returned (.tuple #[.slice A n c, .bool true]) ∧ Reads w' w'.heap.size 1 A n (outs.map (Value.int .i64)) ∧ LineRel ls outs ∧ n ≤ c)

set_option maxRecDepth 100000 in
set_option maxHeartbeats 800000 in
theorem line_cap (n c : Nat) (A : Option Addr) (ls : List Int) (w : World)
    (hr : Reads w w.heap.size 1 A n (ls.map (Value.int .u16))) (hn : n ≤ 2147483647) (hls : ∀ x ∈ ls, 0 ≤ x ∧ x ≤ 65535) :
    Calls Try.prog 13 #[.slice A n c] w (LinePost2 ls n w) := by
  obtain ⟨i0, hi0, hz0, hz1, hz2⟩ := info_parts info_i64
  have hlen : ls.length = n := by simpa using hr.1
  have HR := Lib.hid hr
  have HLS := Lib.hid hls
  have HLEN := Lib.hid hlen
  clear hr hls hlen
  go_enter Try.func13, Try.ntmps13
  go_wp2_with fail
  go_loopw [4, 5, 12] (fun v v5 i wr => ∃ (k : Nat) (h : Int), k ≤ n ∧ i = .int .i64 k ∧ v5 = .int .i64 h ∧ Hid (LnInv ls w k v h wr)) (fun _ _ i _ => n - (intOf i).toNat)
  case atStart => exact ⟨0, 0, by omega, rfl, rfl, ⟨[], World.ownsRow_nil _ _ _ _, ⟨rfl, fun i hi => by simp at hi⟩, Below.refl _ _, rfl⟩⟩
  case round =>
    obtain ⟨k, h, hk, rfl, rfl, hinv⟩ := hrel
    by_cases hlt : k < n
    · obtain ⟨outs, hown, hst, hb, hh⟩ := hinv.out
      obtain ⟨ad, u, rfl, hab, hu1, hc⟩ := (HR.out.below hb).at1 hlt
      obtain ⟨x, rfl, hx, x0, x1⟩ : ∃ x, u = .int .u16 x ∧ x = ls.getD k 0 ∧ 0 ≤ x ∧ x ≤ 65535 := by
        have hl := HLEN.out
        rw [List.getElem?_map, List.getElem?_eq_getElem (by omega)] at hu1
        simp only [Option.map_some, Option.some.injEq] at hu1
        refine ⟨ls[k], hu1.symm, by simp [List.getD, List.getElem?_eq_getElem (show k < ls.length by omega)], ?_⟩
        exact HLS.out _ (List.getElem_mem _)
      have hlk : k < ls.length := by have := HLEN.out; omega
      have hhr : 0 ≤ h ∧ h ≤ 140737488355328 := by
        rw [hh]
        split
        · omega
        · have := line_range hst (fun x hx => HLS.out x (List.mem_of_mem_take hx)) (k - 1) (by rw [List.length_take]; omega)
          omega
      obtain ⟨q0, q2⟩ := hhr
      have HX := Lib.hid hx
      have HST := Lib.hid hst
      have HOWN := Lib.hid hown
      have HB := Lib.hid hb
      have HH := Lib.hid hh
      have HB0 := hb.size
      clear hx hst hown hb hu1 hinv hh
      by_cases hk0 : k = 0
      · have h2 : 0 < k → x = h + nearD h (ls.getD k 0) ∧ nearD h (ls.getD k 0) ≠ -32768 := fun h => by omega
        have H2 := Lib.hid h2
        have H3 : Hid (x = if k = 0 ∨ h < x then x else h) := by show x = _; rw [if_pos (.inl hk0)]
        have hk0' : k ≤ 0 := by omega
        have hk1 : ((k : Int) == 0) = true := by simp; omega
        clear h2 hk0
        go_wp2_with (at_builtin; refine wpList_append_lies _ rfl _ _ _ rfl w.heap.size 2 i0 _ 1 8 Try.underlying23 hi0 hz0 hz1 hz2 rfl (by omega) u4 k _ rfl (HOWN.out.alloc _) ⟨wr.heap.size, 0, none⟩ 1 1 [.int .i64 (x)] rfl rfl (World.news_of_block (cs := #[.int .i64 (x)]) (t := 2) (fr := (0, 0)) (heap_alloc_new wr _)) (by simp [Value.oneCell']) (by omega) (by simp only [maxLen]; omega) (by omega) (by simp; omega) (wr.heap.size + 1) (by simp) ?_; intro gg cap w1 hown1 hgrow hat hlt1)
        exact ⟨⟨k + 1, x, by omega, by go_num, rfl, lninv_step hlk HST.out HH.out H3.out x0 (fun _ => HX.out) H2.out HOWN.out HB.out hown1 hgrow⟩, by simp [intOf]; omega⟩
      · have hk0' : 0 < k := by omega
        have hk1 : ((k : Int) == 0) = false := by simp; omega
        have hnr := nearD_range h x
        have HK0 := Lib.hid hk0
        clear hk0
        by_cases hnd : nearD h x = -32768
        · have hne : (nearD h x != -32768) = false := by simp [hnd]
          clear hnd hnr
          go_wp2_with (go_at_call 31; refine (near_any h x _ (by omega) q2).mono ?_; rintro e w' ⟨rfl, rfl⟩)
          go_ret2
          exact ⟨HB.out, .inl rfl⟩
        · have hne : (nearD h x != -32768) = true := by simp [hnd]
          have HND := Lib.hid hnd
          clear hnd
          by_cases hneg : h + nearD h x < 0
          · go_wp2_with (go_at_call 31; refine (near_any h x _ (by omega) q2).mono ?_; rintro e w' ⟨rfl, rfl⟩)
            go_ret2
            exact ⟨HB.out, .inl rfl⟩
          · have h2 : 0 < k → h + nearD h x = h + nearD h (ls.getD k 0) ∧ nearD h (ls.getD k 0) ≠ -32768 := fun _ => by
              rw [← HX.out]
              exact ⟨rfl, HND.out⟩
            have H2 := Lib.hid h2
            clear h2
            by_cases hup : h < h + nearD h x
            · have H3 : Hid (h + nearD h x = if k = 0 ∨ h < h + nearD h x then h + nearD h x else h) := by show h + nearD h x = _; rw [if_pos (.inr hup)]
              go_wp2_with (first
                | (go_at_call 31; refine (near_any h x _ (by omega) q2).mono ?_; rintro e w' ⟨rfl, rfl⟩)
                | (at_builtin; refine wpList_append_lies _ rfl _ _ _ rfl w.heap.size 2 i0 _ 1 8 Try.underlying23 hi0 hz0 hz1 hz2 rfl (by omega) u4 k _ rfl (HOWN.out.alloc _) ⟨wr.heap.size, 0, none⟩ 1 1 [.int .i64 (h + nearD h x)] rfl rfl (World.news_of_block (cs := #[.int .i64 (h + nearD h x)]) (t := 2) (fr := (0, 0)) (heap_alloc_new wr _)) (by simp [Value.oneCell']) (by omega) (by simp only [maxLen]; omega) (by omega) (by simp; omega) (wr.heap.size + 1) (by simp) ?_; intro gg cap w1 hown1 hgrow hat hlt1))
              exact ⟨⟨k + 1, h + nearD h x, by omega, by go_num, rfl, lninv_step hlk HST.out HH.out H3.out (by omega) (by omega) H2.out HOWN.out HB.out hown1 hgrow⟩, by simp [intOf]; omega⟩
            · have H3 : Hid (h = if k = 0 ∨ h < h + nearD h x then h + nearD h x else h) := by show h = _; rw [if_neg (by have := HK0.out; omega)]
              go_wp2_with (first
                | (go_at_call 31; refine (near_any h x _ (by omega) q2).mono ?_; rintro e w' ⟨rfl, rfl⟩)
                | (at_builtin; refine wpList_append_lies _ rfl _ _ _ rfl w.heap.size 2 i0 _ 1 8 Try.underlying23 hi0 hz0 hz1 hz2 rfl (by omega) u4 k _ rfl (HOWN.out.alloc _) ⟨wr.heap.size, 0, none⟩ 1 1 [.int .i64 (h + nearD h x)] rfl rfl (World.news_of_block (cs := #[.int .i64 (h + nearD h x)]) (t := 2) (fr := (0, 0)) (heap_alloc_new wr _)) (by simp [Value.oneCell']) (by omega) (by simp only [maxLen]; omega) (by omega) (by simp; omega) (wr.heap.size + 1) (by simp) ?_; intro gg cap w1 hown1 hgrow hat hlt1))
              exact ⟨⟨k + 1, h, by omega, by go_num, rfl, lninv_step hlk HST.out HH.out H3.out (by omega) (by omega) H2.out HOWN.out HB.out hown1 hgrow⟩, by simp [intOf]; omega⟩
    · obtain ⟨outs, hown, hst, hb, hh⟩ := hinv.out
      obtain rfl : k = n := by omega
      obtain ⟨A1, c1, rfl⟩ := own_slice hown
      have HST := Lib.hid hst
      have HOWN := Lib.hid hown
      have HB := Lib.hid hb
      clear hst hown hb hinv hh
      go_wp2_with fail
      go_ret2
      refine ⟨HB.out, .inr ⟨A1, c1, outs, rfl, Reads.own HOWN.out, ?_, ?_⟩⟩
      · have h := HST.out
        rwa [List.take_of_length_le (by have := HLEN.out; omega)] at h
      · obtain ⟨_, _, hv, h1, _⟩ := (OwnsAt.ofRow HOWN.out).shape
        injection hv with _ _ hv
        omega
end Go.Proofs.Ytlkmmkphpiamcaa
