/-
  Feedback, without the program: what the specification tells is what the recorder gives; numbers in a line. No condition. By an AI agent.
-/
import Derived.Test.YtlkmmkphpiamcaaBf
import Derived.Test.YtlkmmkphpiamcaaBc
import Derived.Test.YtlkmmkphpiamcaaM
import Derived.Test.YtlkmmkphpiamcaaBq
namespace Go.Proofs.Ytlkmmkphpiamcaa
open Go.RowKit

theorem nextSt_congr {F F' : Nat → Int} {x : Nat} {st : St} (h : F x = F' x) : nextSt F x st = nextSt F' x st := by simp only [nextSt, h]
theorem foldSt_congr {F F' : Nat → Int} : ∀ (n x : Nat) (st : St), (∀ i, x ≤ i → i < x + n → F i = F' i) → foldSt F x n st = foldSt F' x n st
  | 0, _, _, _ => rfl
  | n + 1, x, st, h => by
    have h0 := h x (Nat.le_refl _) (by omega)
    rw [foldSt, foldSt, stepSt, stepSt, h0, nextSt_congr h0]
    congr 1
    funext st'
    exact foldSt_congr n (x + 1) st' fun i h1 h2 => h i (by omega) (by omega)
/-- The first batch gives one report, that which is told. -/
theorem First.one {xs : List Nat} {ts : List Int} {s e : Nat} {st : St} {sd md : Int} {rs : List Rp} (hT : Tells xs ts s e st) (hF : First sd md (xs.zip ts) rs) : rs = [⟨sd, md, s % 65536, recF (xs.zip ts) s / 64000, 0, st.S, st.D⟩] := by
  obtain ⟨s', e', F', s2, hE, hB, _⟩ := hF
  have hE0 := hT.exact_
  have hs : s' = s := by
    have h1 := (hE.all s hE0.first).1
    have h2 := (hE0.all s' hE.first).1
    omega
  have he : e' = e := by
    have h1 := (hE.all (e - 1) hE0.last).2
    have h2 := (hE0.all (e' - 1) hE.last).2
    have h3 := hE.lt
    have h4 := hE0.lt
    omega
  subst hs he
  have hlt := hE.lt
  have hFs := hE.F s' (Nat.le_refl _) hlt
  have h0 : 0 ≤ F' s' := by
    rw [hFs]
    have hm := hE0.first
    rw [zip_fst hT.len] at hm
    obtain ⟨j, hj, ej⟩ := List.mem_iff_getElem.1 hm
    have hz := zip_at (ts := ts) (show xs[j]? = some s' by rw [← ej]; exact List.getElem?_eq_getElem hj) (List.getElem?_eq_getElem (show j < ts.length by have := hT.len; omega))
    rw [recF_in (by rw [zip_fst hT.len]; exact hT.nd) (List.mem_of_getElem? hz)]
    exact (hT.good _ (List.getElem_mem _)).1
  have hfold : foldSt F' s' (e' - s') (st00 s' (F' s')) = some st := by
    rw [foldSt_congr (F' := recF (xs.zip ts)) _ _ _ fun i h1 h2 => hE.F i h1 (by omega), hFs]
    exact hT.fold
  cases hB with
  | stop _ _ h => omega
  | none _ _ _ hn => exact absurd (hn s' (Nat.le_refl _) hlt) (by omega)
  | step _ _ x st2 reps _ hsx hx h0x hn hends hq hl r =>
    have hxs : x = s' := by
      rcases Nat.lt_or_ge s' x with h | h
      · exact absurd (hn s' (Nat.le_refl _) h) (by omega)
      · omega
    subst hxs
    unfold Ends at hends
    rw [hfold] at hends
    obtain ⟨_, h1 | h1⟩ := hends
    · injection h1 with h1
      subst h1
      have hqe := hT.q
      cases r with
      | stop _ _ _ => rw [hFs]
      | none _ _ h _ => omega
      | step _ _ x2 _ _ _ h1 h2 _ _ _ _ _ _ => omega
    · cases h1

theorem topAt_self (outs : List Int) : ∀ i, outs.getD i 0 ≤ topAt outs i
  | 0 => by simp only [topAt]; exact Int.le_refl _
  | i + 1 => by simp only [topAt]; omega
/-- Numbers in a line, as natural numbers. -/
theorem line_nat {ls outs : List Int} (h : LineRel ls outs) (hls : ∀ x ∈ ls, 0 ≤ x ∧ x ≤ 65535) (hn : ls.length ≤ 100) :
    ∃ xs : List Nat, outs = xs.map (fun q : Nat => (q : Int)) ∧ xs.length = ls.length ∧ (∀ x ∈ xs, x ≤ 4000000) ∧ (∀ (i : Nat) (x : Nat) (l : Int), xs[i]? = some x → ls[i]? = some l → ((x % 65536 : Nat) : Int) = l) ∧ (∀ x, xs[0]? = some x → x ≤ 65535) := by
  obtain ⟨hlen, hall⟩ := h
  have hr := line_range ⟨hlen, hall⟩ hls
  have hget : ∀ i (hi : i < outs.length), outs[i] = outs.getD i 0 := fun i hi => by simp [List.getD, List.getElem?_eq_getElem hi]
  have hpos : ∀ x ∈ outs, 0 ≤ x := fun x hx => by
    obtain ⟨i, hi, rfl⟩ := List.mem_iff_getElem.1 hx
    rw [hget i hi]
    exact (hall i (by omega)).1
  have hback : outs = (outs.map Int.toNat).map (fun q : Nat => (q : Int)) := by
    rw [List.map_map]
    conv => lhs; rw [← List.map_id outs]
    apply List.map_congr_left
    intro x hx
    have := hpos x hx
    simp only [id, Function.comp]
    omega
  refine ⟨outs.map Int.toNat, hback, by simp [hlen], fun x hx => ?_, fun i x l hx hl => ?_, fun x hx => ?_⟩
  · obtain ⟨y, hy, rfl⟩ := List.mem_map.1 hx
    obtain ⟨i, hi, rfl⟩ := List.mem_iff_getElem.1 hy
    have h1 := hr i (by omega)
    have h2 := topAt_self outs i
    rw [← hget i hi] at h2
    omega
  · rw [List.getElem?_map] at hx
    obtain ⟨hi, el⟩ := List.getElem?_eq_some_iff.1 hl
    have hi2 : i < outs.length := by omega
    rw [List.getElem?_eq_getElem hi2] at hx
    simp only [Option.map_some, Option.some.injEq] at hx
    obtain ⟨h0, h1, h2⟩ := hall i hi
    have hl0 := hls l (List.mem_of_getElem? hl)
    rw [← hget i hi2] at h0 h1 h2
    have elg : ls.getD i 0 = l := by simp [List.getD, hl]
    rw [elg] at h1 h2
    rcases Nat.eq_zero_or_pos i with hz | hz
    · have := h1 hz
      omega
    · have h3 := (h2 hz).1
      have h4 := nearD_range (topAt outs (i - 1)) l
      unfold nearD at h3
      omega
  · rw [List.getElem?_map] at hx
    cases ho : outs[0]? with
    | none => rw [ho] at hx; cases hx
    | some y =>
      rw [ho] at hx
      simp only [Option.map_some, Option.some.injEq] at hx
      obtain ⟨hi, ey⟩ := List.getElem?_eq_some_iff.1 ho
      have hi2 : 0 < ls.length := by omega
      have h1 := (hall 0 hi2).2.1 rfl
      rw [← hget 0 hi, ey] at h1
      have hl0 := hls (ls.getD 0 0) (by simp [List.getD, List.getElem?_eq_getElem hi2])
      omega

theorem seqs_zip {xs : List Nat} {ts : List Int} {ls : List Int} (hl : xs.length = ts.length) (hl2 : xs.length = ls.length) (h : ∀ (i : Nat) (x : Nat) (l : Int), xs[i]? = some x → ls[i]? = some l → ((x % 65536 : Nat) : Int) = l) : seqs (xs.zip ts) = ls.map (Value.int .u16) := by
  unfold seqs
  apply List.ext_getElem?
  intro i
  rw [List.getElem?_map, List.getElem?_map]
  by_cases hi : i < xs.length
  · have h1 := List.getElem?_eq_getElem (l := xs) hi
    have h2 := List.getElem?_eq_getElem (l := ts) (show i < ts.length by omega)
    have h3 := List.getElem?_eq_getElem (l := ls) (show i < ls.length by omega)
    rw [zip_at h1 h2, h3]
    simp only [Option.map_some, Option.some.injEq]
    rw [h i _ _ h1 h3]
  · rw [List.getElem?_eq_none (by simp; omega), List.getElem?_eq_none (by omega)]
    rfl
theorem times_zip {xs : List Nat} {ts : List Int} (hl : xs.length = ts.length) : times (xs.zip ts) = i64s ts := by
  unfold times i64s
  have h : (xs.zip ts).map Prod.snd = ts := List.map_snd_zip (by omega)
  conv => rhs; rw [← h]
  rw [List.map_map]
  rfl
theorem Tells.win {xs : List Nat} {ts : List Int} {s e : Nat} {st : St} (h : Tells xs ts s e st) : ∀ p ∈ xs.zip ts, s ≤ p.1 ∧ p.1 < s + 200 ∧ goodT p.2 := by
  intro p hp
  have h1 := h.exact_.all p.1 (List.mem_map_of_mem hp)
  have h2 := h.small
  exact ⟨h1.1, by omega, h.good p.2 (List.of_mem_zip hp).2⟩
theorem Tells.pos {xs : List Nat} {ts : List Int} {s e : Nat} {st : St} (h : Tells xs ts s e st) : xs.zip ts ≠ [] := fun hn => by
  have h1 := h.exact_.first
  rw [hn] at h1
  simp at h1
theorem Tells.low {xs : List Nat} {ts : List Int} {s e : Nat} {st : St} (h : Tells xs ts s e st) (hx : ∀ x ∈ xs, x ≤ 4000000) : s < 140737488354000 := by
  have h1 := h.exact_.first
  rw [zip_fst h.len] at h1
  have := hx s h1
  omega
/-- All of them as one batch; as two. -/
theorem Tells.batch {xs : List Nat} {ts : List Int} {s e : Nat} {st : St} (h : Tells xs ts s e st) (hx : ∀ x ∈ xs, x ≤ 4000000) (h0 : ∀ x, xs[0]? = some x → x ≤ 65535) (bs : List (List (Nat × Int))) (hb : bs.flatten = xs.zip ts) (hne : ∀ bt ∈ bs, bt ≠ [] ∧ bt.length ≤ 100) : BatsOk s bs := by
  refine ⟨hne, by rw [hb, zip_fst h.len]; exact h.nd, by rw [hb]; exact h.win, h.low hx, fun p hp => ?_⟩
  rw [hb] at hp
  rw [List.getElem?_zip_eq_some] at hp
  exact h0 p.1 hp.1
end Go.Proofs.Ytlkmmkphpiamcaa
