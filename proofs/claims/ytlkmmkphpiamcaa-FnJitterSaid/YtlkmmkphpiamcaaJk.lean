/-
  The walk of FnJitter. Condition: the slice reads as numbers. By an AI agent.
-/
import Derived.Test.YtlkmmkphpiamcaaJj
namespace Go.Proofs.Ytlkmmkphpiamcaa
open Go.RowKit

theorem anL_at' {l : List An} {j : Nat} {x : An} (h : l[j]? = some x) : (anL l)[j * 3]? = some (.bool x.ok) ∧ (anL l)[j * 3 + 1]? = some (.int .u16 x.seq) ∧ (anL l)[j * 3 + 2]? = some (.int .i64 x.n) := by
  induction l generalizing j with
  | nil => simp at h
  | cons y l ih =>
    cases j with
    | zero => simp at h; subst h; simp [anL]
    | succ j =>
      have := ih (j := j) (by simpa using h)
      have e : (j + 1) * 3 = j * 3 + 1 + 1 + 1 := by omega
      rw [e]
      simpa [anL] using this
def JL1 (p k : Nat) (qs : List Nat) (w0 wr : World) (v : Value) : Prop := wr.ownsRow w0.heap.size 45 3 v (k + 1) (stL (jCalls (p :: jRest p (qs.take k)) 0)) ∧ Below w0.heap.size w0 wr
def JL2 (p n j : Nat) (qs : List Nat) (w0 wr : World) (v : Value) : Prop := wr.ownsRow w0.heap.size 45 3 v (n + 1 + j) (stL (jCalls (p :: jRest p qs) j)) ∧ Below w0.heap.size w0 wr
theorem jl1_step {p k q gg cap : Nat} {qs : List Nat} {w0 wr w1 : World} {v : Value} {o : Obj} (h : JL1 p k qs w0 wr v) (hq : qs[k]? = some q)
    (hown : w1.ownsRow w0.heap.size 45 3 (.slice (some ⟨gg, 0, none⟩) (k + 1 + 1) cap) (k + 1 + 1) (stL (jCalls (p :: jRest p (qs.take k)) 0) ++ [.int .i64 0, .int .u16 ((p + q + 1) % 65536 : Nat), .int .u32 1])) (hgrow : (wr.alloc o).grownBy w1 v.ownBlock) :
    JL1 p (k + 1) qs w0 w1 (.slice (some ⟨gg, 0, none⟩) (k + 1 + 1) cap) := by
  refine ⟨?_, (h.2.alloc h.2.size o).grown hgrow (by simp; have := h.2.size; omega) fun g hg => (h.1.lt g hg).1⟩
  rw [jc_cons p qs k hq, stL_append]
  exact hown
theorem jl2_step {p n j gg cap : Nat} {qs : List Nat} {w0 wr w1 : World} {v : Value} {o : Obj} (h : JL2 p n j qs w0 wr v)
    (hown : w1.ownsRow w0.heap.size 45 3 (.slice (some ⟨gg, 0, none⟩) (n + 1 + j + 1) cap) (n + 1 + j + 1) (stL (jCalls (p :: jRest p qs) j) ++ [.int .i64 1, .int .u16 0, .int .u32 0])) (hgrow : (wr.alloc o).grownBy w1 v.ownBlock) :
    JL2 p n (j + 1) qs w0 w1 (.slice (some ⟨gg, 0, none⟩) (n + 1 + j + 1) cap) := by
  refine ⟨?_, (h.2.alloc h.2.size o).grown hgrow (by simp; have := h.2.size; omega) fun g hg => (h.1.lt g hg).1⟩
  rw [jc_pop, stL_append]
  exact hown

set_option maxRecDepth 1000000 in
set_option maxHeartbeats 4000000 in
theorem fnJitter_any (lst : Int) (p n c : Nat) (A : Option Addr) (l : List Int) (w : World) (hr : Reads w w.heap.size 1 A n (l.map (Value.int .i64))) (hn : n ≤ 9223372036854775807)
    (hl : ∀ x ∈ l, -9223372036854775808 ≤ x ∧ x ≤ 9223372036854775807) (hlst : -9223372036854775808 ≤ lst ∧ lst ≤ 9223372036854775807) (hp : p ≤ 65535) :
    Calls Try.prog 7 #[.int .i64 lst, .int .u16 p, .slice A n c] w (Holds w) := by
  obtain ⟨i0, hi0, hz0, hz1, hz2⟩ := info_parts info_step
  obtain ⟨hl0, hl1⟩ := hlst
  have HR := Lib.hid hr
  have HL := Lib.hid hl
  clear hr hl
  by_cases hbig : 2147483647 < n
  · go_enter Try.func7, Try.ntmps7
    go_wp2_with fail
    go_ret
    exact ⟨rfl, Below.refl _ _⟩
  · have hn2 : n ≤ 2147483647 := by omega
    have hni : ¬ (2147483647 : Int) < (n : Int) := by omega
    clear hbig
    by_cases hdom : 1 ≤ lst ∧ lst ≤ 30 ∧ n ≤ 40
    · obtain ⟨hd1, hd2, hd3⟩ := hdom
      obtain ⟨mn, rfl⟩ : ∃ mn : Nat, lst = mn := ⟨lst.toNat, by omega⟩
      have hm1 : 1 ≤ mn := by omega
      have hm2 : mn ≤ 30 := by omega
      have e1 : ¬ (mn : Int) < 1 := by omega
      have e2 : ¬ (30 : Int) < (mn : Int) := by omega
      have e3 : ¬ (40 : Int) < (n : Int) := by omega
      have e1d : decide ((mn : Int) < 1) = false := by simpa using e1
      have e2d : decide ((30 : Int) < (mn : Int)) = false := by simp; omega
      have e3d : decide ((40 : Int) < (n : Int)) = false := by simp; omega
      clear hl0 hl1 hd1 hd2
      go_enter Try.func7, Try.ntmps7
      go_wp2_with fail
      refine (perm_any n c A l w HR.out hd3 HL.out).mono ?_
      rintro e w1 ⟨hb1, rfl | ⟨A1, c1, qs, rfl, hr1, hpm⟩⟩
      · have HB1 := Lib.hid hb1
        clear hb1
        go_wp2_with fail
        refine (works_true w1).mono ?_
        rintro e w2 ⟨rfl, hb2⟩
        have HB2 := Lib.hid hb2
        clear hb2
        go_wp2_with fail
        go_ret
        exact ⟨rfl, HB1.out.trans (HB2.out.mono HB1.out.size)⟩
      · obtain ⟨f1, f2, f3⟩ := jRest_facts p n hp hd3 hpm
        have HF := Lib.hid (And.intro f1 (And.intro f2 f3))
        have HQL := Lib.hid (show qs.length = n by rw [hpm.length_eq, List.length_range])
        have HPM := Lib.hid hpm
        have HB1 := Lib.hid hb1
        have HR1 := Lib.hid hr1
        have hw1 := hb1.size
        have h0 : JL1 p 0 qs w1 (w1.alloc (.cells #[.int .i64 0, .int .u16 p, .int .u32 1] 45)) (.slice (some ⟨w1.heap.size, 0, none⟩) 1 1) := by
          refine ⟨⟨by simp [jCalls, jRest, stL], .inr ⟨w1.heap.size, 1, #[.int .i64 0, .int .u16 p, .int .u32 1], rfl, Nat.le_refl _, heap_alloc_new w1 _, by simp, by simp [maxLen], by simp, ?_⟩⟩, (Below.refl _ _).alloc (Nat.le_refl _) _⟩
          simp [jCalls, jRest, stL]
        have H0 := Lib.hid h0
        clear f1 f2 f3 hpm hb1 hr1 h0
        go_wp2_with fail
        go_loopw [9, 44] (fun v i wr => ∃ k : Nat, k ≤ n ∧ i = .int .i64 k ∧ Hid (JL1 p k qs w1 wr v)) (fun _ i _ => n - (intOf i).toNat)
        case atStart => exact ⟨0, by omega, rfl, H0⟩
        case round =>
          obtain ⟨k, hk, rfl, hinv⟩ := hrel
          have HI := Lib.hid hinv.out
          have hsz := hinv.out.2.size
          clear hinv
          by_cases hlt : k < n
          · have hkn : (k : Int) < (n : Int) := by omega
            have hr1 := HR1.out.below HI.out.2
            rw [show I64n qs = (qs.map fun q : Nat => (q : Int)).map (Value.int .i64) by simp [I64n]] at hr1
            obtain ⟨ad, qv, rfl, hab, hqx, hc⟩ := i64_at hr1 hlt
            obtain ⟨q, hq, hqv⟩ : ∃ q : Nat, qs[k]? = some q ∧ (q : Int) = qv := by
              rw [List.getElem?_map] at hqx
              cases h : qs[k]? with
              | none => rw [h] at hqx; cases hqx
              | some q => rw [h] at hqx; injection hqx with hqx; exact ⟨q, rfl, hqx⟩
            subst hqv
            have hqn : q < n := by
              have := HPM.out.mem_iff.1 (List.mem_of_getElem? hq)
              simpa using this
            have hq1 : IntKind.u16.wrap (q : Int) = (q : Int) := u16_self q (by omega)
            obtain ⟨z2, hz2'⟩ : ∃ z2 : Nat, z2 = (p + q) % 65536 := ⟨_, rfl⟩
            obtain ⟨z3, hz3'⟩ : ∃ z3 : Nat, z3 = (p + q + 1) % 65536 := ⟨_, rfl⟩
            have hq2 : IntKind.u16.wrap ((p : Int) + (q : Int)) = (z2 : Int) := by rw [IntKind.wrap_u16]; omega
            have hq3 : IntKind.u16.wrap ((z2 : Int) + 1) = (z3 : Int) := by rw [IntKind.wrap_u16]; omega
            have HQ := Lib.hid hq
            have HZ3 := Lib.hid hz3'
            clear hq hqx hz2' hz3' hr1
            go_wp2_with (at_builtin; refine wpList_append_lies _ rfl _ _ _ rfl w1.heap.size 45 i0 _ 3 16 Try.underlying42 hi0 hz0 hz1 hz2 rfl (by decide) u9 (k + 1) _ rfl (HI.out.1.alloc _) ⟨wr.heap.size, 0, none⟩ 1 1 [.int .i64 0, .int .u16 (z3 : Nat), .int .u32 1] rfl rfl (World.news_of_block (cs := #[.int .i64 0, .int .u16 (z3 : Nat), .int .u32 1]) (t := 45) (fr := (0, 0)) (heap_alloc_new wr _)) (by simp [Value.oneCell']) (by omega) (by simp only [maxLen]; omega) (by omega) (by simp; omega) (wr.heap.size + 1) (by simp) ?_; intro gg cap w3 hown3 hgrow3 hat3 hlt3)
            exact ⟨⟨k + 1, by omega, by go_num, jl1_step HI.out HQ.out (by rw [← HZ3.out]; exact hown3) hgrow3⟩, by simp [intOf]; omega⟩
          · obtain rfl : k = n := by omega
            have h2 : JL2 p k 0 qs w1 wr u9 := by
              have h := HI.out
              unfold JL1 at h
              rw [List.take_of_length_le (by rw [HQL.out]; exact Nat.le_refl _)] at h
              exact h
            have H2 := Lib.hid h2
            obtain ⟨Z, cz, hZ⟩ := own_slice h2.1
            subst hZ
            have hkw : IntKind.i64.wrap ((k : Int) + 1) = (k : Int) + 1 := IntWalk.i64_in _ (by omega)
            clear h2 hlt HI
            obtain ⟨wl, rfl⟩ : ∃ wl : World, wl = wr := ⟨_, rfl⟩
            obtain ⟨M, hM⟩ : ∃ M, M = k + 1 := ⟨_, rfl⟩
            have hMi : ((k + 1 : Nat) : Int) = (M : Int) := by omega
            have hM41 : M ≤ 41 := by omega
            have H2M : Hid (wl.ownsRow w1.heap.size 45 3 (.slice Z M cz) (M + 0) (stL (jCalls (p :: jRest p qs) 0)) ∧ Below w1.heap.size w1 wl) := by
              have h := H2.out
              unfold JL2 at h
              rw [← hM] at h
              exact h
            rw [show k + 1 + 0 = M by omega]
            have HM := Lib.hid hM
            clear hM hMi hkw H2
            go_wp2_with fail
            go_loopw [9, 61] (fun v i wr => ∃ j : Nat, j ≤ M ∧ i = .int .i64 j ∧ Hid (JL2 p k j qs w1 wr v)) (fun _ i _ => M - (intOf i).toNat)
            case atStart => exact ⟨0, by omega, rfl, by have h := H2M.out; unfold JL2; rw [← HM.out]; exact h⟩
            case round =>
              obtain ⟨j, hj, rfl, hinv⟩ := hrel
              have HI := Lib.hid (show wr.ownsRow w1.heap.size 45 3 u9 (M + j) (stL (jCalls (p :: jRest p qs) j)) ∧ Below w1.heap.size w1 wr by have h := hinv.out; unfold JL2 at h; rw [← HM.out] at h; exact h)
              have hsz := HI.out.2.size
              by_cases hlt : j < M
              · have hjm : (j : Int) < (M : Int) := by omega
                have HJ := Lib.hid hinv.out
                clear hinv
                go_wp2_with (at_builtin; refine wpList_append_lies _ rfl _ _ _ rfl w1.heap.size 45 i0 _ 3 16 Try.underlying42 hi0 hz0 hz1 hz2 rfl (by decide) u9 (M + j) _ rfl (HI.out.1.alloc _) ⟨wr.heap.size, 0, none⟩ 1 1 [.int .i64 1, .int .u16 0, .int .u32 0] rfl rfl (World.news_of_block (cs := #[.int .i64 1, .int .u16 0, .int .u32 0]) (t := 45) (fr := (0, 0)) (heap_alloc_new wr _)) (by simp [Value.oneCell']) (by omega) (by simp only [maxLen]; omega) (by omega) (by simp; omega) (wr.heap.size + 1) (by simp) ?_; intro gg cap w3 hown3 hgrow3 hat3 hlt3)
                refine ⟨⟨j + 1, by omega, by go_num, ?_⟩, by simp [intOf]; omega⟩
                have h := jl2_step (gg := gg) (cap := cap) HJ.out (by rw [← HM.out]; exact hown3) hgrow3
                rw [← HM.out] at h
                exact h
              · obtain rfl : j = M := by omega
                obtain ⟨Y, cy, rfl⟩ := own_slice HI.out.1
                have hst := own_steps HI.out.1 (by rw [jCalls_len]; have h := HF.out.2.2; have h2 := HM.out; simp [h]; omega)
                have HST := Lib.hid hst
                have HBR := Lib.hid HI.out.2
                clear hinv hst hlt HI
                obtain ⟨wk, rfl⟩ : ∃ wk : World, wk = wr := ⟨_, rfl⟩
                have hok := jc_ok (p :: jRest p qs) j (fun q hq => by
                  rcases List.mem_cons.1 hq with rfl | hq
                  · exact hp
                  · obtain ⟨x, _, rfl⟩ := List.mem_map.1 hq
                    omega)
                have HOK := Lib.hid hok
                clear hok
                go_wp2_with fail
                refine (jitter_impl (j + j) cy mn Y (jCalls (p :: jRest p qs) j) wk HST.out (by omega) (by omega) HOK.out).mono ?_
                rintro e w5 ⟨hb5, A5, c5, rfl, ho5⟩
                have HB5 := Lib.hid hb5
                have HO5 := Lib.hid ho5
                have hw5 := hb5.size
                clear hb5 ho5
                go_wp2_with fail
                have hgot : ∀ t, t < j → (jOut mn (jCalls (p :: jRest p qs) j))[j + t]? = some (if mn ≤ j then ⟨true, (p + t) % 65536, 0⟩ else ⟨false, 0, 0⟩) := by
                  intro t ht
                  obtain ⟨f1, f2, f3⟩ := HF.out
                  have hj1 : (jRest p qs).length + 1 = j := by rw [f3]; exact HM.out.symm
                  have h := j_law mn p (jRest p qs) hm1 f1 f2 hp (by omega) t (by omega)
                  rwa [hj1] at h
                have HGOT := Lib.hid hgot
                have hfin : ∀ wz, Below w5.heap.size w5 wz → ∀ w6, Below wz.heap.size wz w6 → Below w.heap.size w w6 := fun wz h1 w6 h2 =>
                  HB1.out.trans ((HBR.out.trans ((HB5.out.trans ((h1.trans (h2.mono h1.size)).mono hw5)).mono hsz)).mono hw1)
                have HFIN := Lib.hid hfin
                clear hgot hfin
                go_loopw [77] (fun i wr => ∃ t : Nat, t ≤ j ∧ i = .int .i64 t ∧ Hid (Below w5.heap.size w5 wr)) (fun i _ => j - (intOf i).toNat)
                case atStart => exact ⟨0, by omega, rfl, Below.refl _ _⟩
                case round =>
                  obtain ⟨t, ht, rfl, hinv⟩ := hrel
                  have HI := Lib.hid hinv.out
                  have hsz6 := hinv.out.size
                  clear hinv
                  by_cases hlt : t < j
                  · have htj : (t : Int) < (j : Int) := by omega
                    obtain ⟨s, hs⟩ : ∃ s, s = j + t := ⟨_, rfl⟩
                    have hsum : (j : Int) + (t : Int) = (s : Int) := by omega
                    have hsv : IntKind.i64.wrap (s : Int) = (s : Int) := IntWalk.i64_in _ (by omega)
                    have hs2 : s < j + j := by omega
                    have hs2i : (s : Int) < ((j + j : Nat) : Int) := by omega
                    obtain ⟨g5, cap5, hA5, _, hg5⟩ := HO5.out.form (by omega)
                    injection hA5 with hA5 he1 he2
                    clear he1 he2
                    subst hA5
                    have hcell : ∀ m u, (anL (jOut mn (jCalls (p :: jRest p qs) j)))[m]? = some u → wr.cell? ⟨g5, m, none⟩ = some u := fun m u hu => (HI.out.cell (p := ⟨g5, m, none⟩) hg5).trans (by
                      have h := HO5.out.cells (g := g5) rfl m u hu
                      have hadd : (⟨g5, 0, none⟩ : Addr).add m = ⟨g5, m, none⟩ := by unfold Addr.add; split <;> simp_all
                      rwa [hadd] at h)
                    have hgr : g5 < wr.heap.size := by omega
                    have hgt := HGOT.out t hlt
                    rw [← hs] at hgt
                    obtain ⟨q0, q1, q2⟩ := anL_at' hgt
                    have y0 := hcell _ _ q0
                    have y1 := hcell _ _ q1
                    have y2 := hcell _ _ q2
                    clear hcell hgt q0 q1 q2 hs
                    by_cases hem : mn ≤ j
                    · simp only [if_pos hem] at y0 y1 y2
                      obtain ⟨z, hz⟩ : ∃ z, (p + t) % 65536 = z := ⟨_, rfl⟩
                      have hw1' : IntKind.u16.wrap (t : Int) = (t : Int) := u16_self t (by omega)
                      have hw2' : IntKind.u16.wrap ((p : Int) + (t : Int)) = (z : Int) := by rw [IntKind.wrap_u16]; omega
                      rw [hz] at y1
                      have hemi : (mn : Int) ≤ (j : Int) := by omega
                      have hemd : decide (mn ≤ j) = true := by simpa using hem
                      clear hz
                      go_wp2_with fail
                      exact ⟨⟨t + 1, by omega, by go_num, HI.out.alloc hsz6 _⟩, by simp [intOf]; omega⟩
                    · simp only [if_neg hem] at y0 y1 y2
                      have hemi : ¬ (mn : Int) ≤ (j : Int) := by omega
                      have hemd : decide (mn ≤ j) = false := by simpa using hem
                      have hemd2 : decide ((mn : Int) ≤ (j : Int)) = false := by simpa using hem
                      go_wp2_with fail
                      exact ⟨⟨t + 1, by omega, by go_num, HI.out.alloc hsz6 _⟩, by simp [intOf]; omega⟩
                  · go_wp2_with fail
                    refine (works_true _).mono ?_
                    rintro e w6 ⟨rfl, hb6⟩
                    have HB6 := Lib.hid hb6
                    clear hb6
                    go_wp2_with fail
                    go_ret
                    exact ⟨rfl, HFIN.out _ HI.out _ HB6.out⟩
    · by_cases h1 : lst < 1
      · have h1d : decide (lst < 1) = true := by simpa using h1
        clear hdom
        go_enter Try.func7, Try.ntmps7
        go_wp2_with fail
        refine (works_true w).mono ?_
        rintro e w2 ⟨rfl, hb2⟩
        have HB2 := Lib.hid hb2
        clear hb2
        go_wp2_with fail
        go_ret
        exact ⟨rfl, HB2.out⟩
      · have h1d : decide (lst < 1) = false := by simpa using h1
        by_cases h2 : 30 < lst
        · have h2d : decide ((30 : Int) < lst) = true := by simpa using h2
          clear hdom
          go_enter Try.func7, Try.ntmps7
          go_wp2_with fail
          refine (works_true w).mono ?_
          rintro e w2 ⟨rfl, hb2⟩
          have HB2 := Lib.hid hb2
          clear hb2
          go_wp2_with fail
          go_ret
          exact ⟨rfl, HB2.out⟩
        · have h2d : decide ((30 : Int) < lst) = false := by simpa using h2
          have h3 : (40 : Int) < (n : Int) := by omega
          have h3d : decide ((40 : Int) < (n : Int)) = true := by simp; omega
          clear hdom
          go_enter Try.func7, Try.ntmps7
          go_wp2_with fail
          refine (works_true w).mono ?_
          rintro e w2 ⟨rfl, hb2⟩
          have HB2 := Lib.hid hb2
          clear hb2
          go_wp2_with fail
          go_ret
          exact ⟨rfl, HB2.out⟩
end Go.Proofs.Ytlkmmkphpiamcaa
