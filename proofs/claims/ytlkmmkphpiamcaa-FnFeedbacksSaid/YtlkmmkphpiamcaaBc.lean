/-
  impl.Feedbacks' closure: what stands when some batches have been recorded. No condition. By an AI agent.
-/
import Derived.Test.YtlkmmkphpiamcaaBb
import Derived.Test.YtlkmmkphpiamcaaKz
namespace Go.Proofs.Ytlkmmkphpiamcaa
open Go.RowKit

def seqs (bt : List (Nat × Int)) : List Value := bt.map fun p => Value.int .u16 ((p.1 % 65536 : Nat) : Int)
def times (bt : List (Nat × Int)) : List Value := bt.map fun p => Value.int .i64 p.2
/-- The batches' numbers and times lie below block B. -/
def Bats (w : World) (B : Nat) (Al Aa : Option Addr) (bs : List (List (Nat × Int))) : Prop :=
  ∀ (j : Nat) (bt : List (Nat × Int)), bs[j]? = some bt → ∃ al aa P c Q d, Al = some al ∧ Aa = some aa ∧ al.block < B ∧ aa.block < B ∧ w.cell? (al.add j) = some (.slice P bt.length c) ∧ w.cell? (aa.add j) = some (.slice Q bt.length d) ∧
    bt.length ≤ c ∧ bt.length ≤ d ∧ Reads w B 1 P bt.length (seqs bt) ∧ Reads w B 1 Q bt.length (times bt)
structure BatsOk (lo : Nat) (bs : List (List (Nat × Int))) : Prop where
  ne : ∀ bt ∈ bs, bt ≠ [] ∧ bt.length ≤ 100
  nodup : (bs.flatten.map Prod.fst).Nodup
  win : ∀ p ∈ bs.flatten, lo ≤ p.1 ∧ p.1 < lo + 200 ∧ goodT p.2
  small : lo < 140737488354000
  head : ∀ p, bs.flatten[0]? = some p → p.1 ≤ 65535

theorem flat_split {bs : List (List (Nat × Int))} {i k : Nat} {bt : List (Nat × Int)} {p : Nat × Int} (hi : bs[i]? = some bt) (hk : bt[k]? = some p) : ∃ rest, bs.flatten = ((bs.take i).flatten ++ bt.take k) ++ p :: rest := by
  have h1 : bs = bs.take i ++ bt :: bs.drop (i + 1) := by
    have hl := (List.getElem?_eq_some_iff.1 hi)
    obtain ⟨h, he⟩ := hl
    rw [← he, ← List.drop_eq_getElem_cons h, List.take_append_drop]
  have h2 : bt = bt.take k ++ p :: bt.drop (k + 1) := by
    obtain ⟨h, he⟩ := (List.getElem?_eq_some_iff.1 hk)
    rw [← he, ← List.drop_eq_getElem_cons h, List.take_append_drop]
  refine ⟨bt.drop (k + 1) ++ (bs.drop (i + 1)).flatten, ?_⟩
  conv => lhs; rw [h1, List.flatten_append, List.flatten_cons, h2]
  simp
theorem BatsOk.facts {lo : Nat} {bs : List (List (Nat × Int))} (h : BatsOk lo bs) {i k : Nat} {bt : List (Nat × Int)} {p : Nat × Int} (hi : bs[i]? = some bt) (hk : bt[k]? = some p) :
    p.1 ∉ ((bs.take i).flatten ++ bt.take k).map Prod.fst ∧ (lo ≤ p.1 ∧ p.1 < lo + 200 ∧ goodT p.2) ∧ ((bs.take i).flatten ++ bt.take k = [] → p.1 ≤ 65535) := by
  obtain ⟨rest, hr⟩ := flat_split hi hk
  refine ⟨fun hm => ?_, h.win p (by rw [hr]; simp), fun he => h.head p (by rw [hr, he]; rfl)⟩
  have hn := h.nodup
  rw [hr, List.map_append, List.nodup_append] at hn
  exact hn.2.2 _ hm _ (by simp) rfl

/-- Within a batch: w at its start, wr now. -/
structure II (w0 w wr : World) (r bo lo : Nat) (recs : List (Nat × Int)) (sd md : Int) (i cnt k g0 p0 : Nat) : Prop where
  all : Touch (fun q => q = r ∨ q = bo) w0 wr
  touch : Touch (fun q => q = r ∨ q = g0 ∨ q = p0) w wr
  st : (recs = [] ∧ ∃ md0, Blk wr r 154 (recC (.slice none 0 0) 0 0 (restC false 0 none sd md0 cnt k))) ∨
    ∃ g C b e F p s L, RecOk wr w0.heap.size r lo recs sd md cnt k g C b e F p s L ∧ (g = g0 ∨ w.heap.size ≤ g) ∧ (p = p0 ∨ w.heap.size ≤ p) ∧ (i = 0 → ExactF recs s e F ∧ b = s)

theorem II.drew {w0 w wr : World} {r bo lo : Nat} {recs : List (Nat × Int)} {sd md : Int} {i cnt k g0 p0 : Nat} (h : II w0 w wr r bo lo recs sd md i cnt k g0 p0) : II w0 w wr.drew r bo lo recs sd md i cnt k g0 p0 := by
  refine ⟨h.all.drew, h.touch.drew, ?_⟩
  rcases h.st with ⟨h1, md0, h2⟩ | ⟨g, C, b, e, F, p, s, L, hr, h1, h2, h3⟩
  · exact .inl ⟨h1, md0, h2.drew⟩
  · exact .inr ⟨g, C, b, e, F, p, s, L, ⟨hr.rcd.drewN 1, hr.win, hr.at_, hr.good, hr.sub, hr.hg, hr.hp⟩, h1, h2, h3⟩
theorem II.rec_ {w0 w wr : World} {r bo lo : Nat} {recs : List (Nat × Int)} {sd md : Int} {i cnt k g0 p0 x : Nat} {t : Int} (h : II w0 w wr r bo lo recs sd md i cnt k g0 p0) (hnew : x ∉ recs.map Prod.fst) (hx : lo ≤ x ∧ x < lo + 200) (ht : goodT t) (h0 : recs = [] → x ≤ 65535)
    (hk : k < 1000) (hlo : lo < 140737488354000) : Calls Try.prog 58 #[.pointer (some ⟨r, 0, none⟩), .int .u32 md, .int .u16 ((x % 65536 : Nat) : Int), .int .i64 t] wr fun v w' => v = .returned (.tuple #[]) ∧ II w0 w w' r bo lo (recs ++ [(x, t)]) sd md i cnt (k + 1) g0 p0 := by
  have hsz := h.all.size
  have hsz2 := h.touch.size
  rcases h.st with ⟨rfl, md0, hb⟩ | ⟨g, C, b, e, F, p, s, L, hr, hg, hp, hE⟩
  · have hx0 := h0 rfl
    have hc := record_first r x t sd md md0 cnt k wr hb hx0 hk
    rw [Nat.mod_eq_of_lt (by omega : x < 65536)]
    refine hc.mono ?_
    rintro v w' ⟨rfl, g, p, hrec, hg, hp, htt⟩
    refine ⟨rfl, h.all.trans htt fun _ _ hh => .inl hh, h.touch.trans htt fun _ _ hh => .inl hh, .inr ⟨g, 128, x, x + 1, _, p, x, x, ⟨hrec, ⟨hx.1, Nat.le_refl _, by omega, by omega⟩, hx, fun j => ?_, fun j hj => ?_, by omega, by omega⟩, .inr (by omega), .inr (by omega), fun _ => ⟨ExactF.one x t, rfl⟩⟩⟩
    · simp only [setAt]
      split
      · exact .inr ht
      · exact .inl (by decide)
    · simp only [setAt] at hj
      split at hj
      · subst_vars
        simp
      · exact absurd hj (by decide)
  · obtain ⟨a1, a2, a3, a4⟩ := hr.win
    obtain ⟨a5, a6⟩ := hr.at_
    have hgt : t < 2000000000000 := by unfold goodT at ht; omega
    have hFx : F x < 0 := by
      rcases Int.lt_or_le (F x) 0 with h | h
      · exact h
      · exact absurd (hr.sub x h) hnew
    refine (record_next r g C b e p s L x lo F t sd md md cnt k wr hr.rcd a2 a3 hFx (by omega) (by omega) ⟨a1, hx.1, a4, hx.2⟩ (by omega) hgt hk).mono ?_
    rintro v w' ⟨rfl, hrec⟩
    obtain ⟨g', C', b', e', F', s', hok, hg', hE'⟩ := hr.next hrec hx ht hsz
    obtain ⟨_, _, _, _, _, _, _, _, htt⟩ := hrec
    have hpg := hr.hg
    have hpp := hr.hp
    refine ⟨rfl, h.all.trans htt fun q hq hh => ?_, h.touch.trans htt fun q hq hh => ?_, .inr ⟨g', C', b', e', F', p, s', x, hok, ?_, hp, fun hi => hE' (hE hi)⟩⟩
    · rcases hh with rfl | rfl | rfl
      · exact .inl rfl
      · omega
      · omega
    · rcases hh with rfl | rfl | rfl
      · exact .inl rfl
      · rcases hg with rfl | hg
        · exact .inr (.inl rfl)
        · omega
      · rcases hp with rfl | hp
        · exact .inr (.inr rfl)
        · omega
    · omega
theorem RepsAt.kinds {w w' : World} {base : Nat} {v : Value} {rs : List Rp} {S : Nat → Prop} (h : RepsAt w base v rs) (ht : Touch S w w') (hS : ∀ q t cs, Blk w q t cs → S q → t ≠ 74 ∧ t ≠ 3 ∧ t ≠ 2) : RepsAt w' base v rs := by
  obtain ⟨ts, h1, h2, h3⟩ := h
  exact ⟨ts, h1, h2.touch ht fun q cs hq hs => (hS q _ cs hq hs).1 rfl, fun t ht' => (h3 t ht').kinds ht fun q k cs hq hs => (hS q k cs hq hs).2⟩

/-- Between batches: i of them are done. -/
structure CI (w0 w : World) (r bo lo : Nat) (sd md : Int) (bs : List (List (Nat × Int))) (i : Nat) (v : Value) (outs : List (Value × List Rp)) : Prop where
  len : outs.length = i
  box : Blk w bo 76 #[v]
  own : w.ownsRow w0.heap.size 71 1 v i (outs.map Prod.fst)
  all : Touch (fun q => q = r ∨ q = bo) w0 w
  reps : ∃ base, w0.heap.size ≤ base ∧ (∀ x ∈ outs, RepsAt w base x.1 x.2) ∧
    ((i = 0 ∧ Blk w r 154 (recC (.slice none 0 0) 0 0 (restC false 0 none sd 0 0 0))) ∨
      (0 < i ∧ ∃ cnt g C b e F p s L, RecOk w w0.heap.size r lo (bs.take i).flatten sd md cnt 0 g C b e F p s L ∧ cnt < 256 ∧ (i = 1 → r < base ∧ g < base ∧ p < base ∧ bo < base ∧ ∀ x, outs[0]? = some x → cnt = x.2.length % 256)))
  first : ∀ x bt, outs[0]? = some x → bs[0]? = some bt → First sd md bt x.2
  numb : ∀ x y, outs[0]? = some x → outs[1]? = some y → Numb x.2.length y.2
  sml : ∀ x ∈ outs, x.2.length ≤ 200

/-- At a batch's start. -/
structure CS (w0 w : World) (r bo lo : Nat) (sd md : Int) (bs : List (List (Nat × Int))) (i : Nat) (outs : List (Value × List Rp)) (g0 p0 cnt base : Nat) : Prop where
  kd : ∀ q t cs, Blk w q t cs → (q = r ∨ q = g0 ∨ q = p0) → t = 154 ∨ t = 2
  ii : II w0 w w r bo lo (bs.take i).flatten sd md i cnt 0 g0 p0
  hc : cnt < 256
  hb : w0.heap.size ≤ base
  reps : ∀ x ∈ outs, RepsAt w base x.1 x.2
  zero : i = 0 → cnt = 0
  one : i = 1 → r < base ∧ g0 < base ∧ p0 < base ∧ bo < base ∧ ∀ x, outs[0]? = some x → cnt = x.2.length % 256
theorem CI.start {w0 w : World} {r bo lo : Nat} {sd md : Int} {bs : List (List (Nat × Int))} {i : Nat} {v : Value} {outs : List (Value × List Rp)} (h : CI w0 w r bo lo sd md bs i v outs) : ∃ g0 p0 cnt base, CS w0 w r bo lo sd md bs i outs g0 p0 cnt base := by
  obtain ⟨base, hb, hreps, ⟨rfl, hr⟩ | ⟨hi, cnt, g, C, b, e, F, p, s, L, hok, hc, h1⟩⟩ := h.reps
  · refine ⟨r, r, 0, base, ⟨fun q t cs hq hs => ?_, ⟨h.all, Touch.refl _ _, .inl ⟨by simp, 0, hr⟩⟩, by decide, hb, hreps, fun _ => rfl, fun h => by omega⟩⟩
    have hq' : q = r := by omega
    subst hq'
    exact .inl (kindOf hq hr)
  · refine ⟨g, p, cnt, base, ⟨fun q t cs hq hs => ?_, ⟨h.all, Touch.refl _ _, .inr ⟨g, C, b, e, F, p, s, L, hok, .inl rfl, .inl rfl, fun h => by omega⟩⟩, hc, hb, hreps, fun h => by omega, h1⟩⟩
    rcases hs with rfl | rfl | rfl
    · exact .inl (kindOf hq hok.rcd.mp.blk)
    · obtain ⟨cs', hb, _⟩ := hok.rcd.mp.row
      exact .inr (kindOf hq hb)
    · exact .inr (kindOf hq hok.rcd.box)
theorem CI.next {w0 w wr w2 w3 w4 : World} {r bo lo : Nat} {sd md : Int} {bs : List (List (Nat × Int))} {i : Nat} {v v' v4 : Value} {outs : List (Value × List Rp)} {g0 p0 cnt base k : Nat} {g C b e : Nat} {F : Nat → Int} {p s L c s' : Nat} {A : Option Addr} {pks : List (Nat × Rp)} {o : Obj}
    (h : CI w0 w r bo lo sd md bs i v outs) (hs : CS w0 w r bo lo sd md bs i outs g0 p0 cnt base) (hi2 : i < 2) (hbo : bo < w0.heap.size)
    (hall : Touch (fun q => q = r ∨ q = bo) w0 wr) (ht : Touch (fun q => q = r ∨ q = g0 ∨ q = p0) w wr)
    (hok : RecOk wr w0.heap.size r lo (bs.take (i + 1)).flatten sd md cnt k g C b e F p s L) (hp : p = p0 ∨ w.heap.size ≤ p) (hE : i = 0 → ExactF (bs.take (i + 1)).flatten s e F ∧ b = s)
    (hB : Built2 wr.drew w2 r g C b e F p s L sd md cnt A c pks s') (hR : RepsAt w3 w2.heap.size v' (pks.map Prod.snd)) (hbel : Below w2.heap.size w2 w3)
    (hgr : (w3.alloc o).grownBy w4 v.ownBlock) (hown : w4.ownsRow w0.heap.size 71 1 v4 (i + 1) (outs.map Prod.fst ++ [v'])) :
    CI w0 (w4.setCell ⟨bo, 0, none⟩ v4) r bo lo sd md bs (i + 1) v4 (outs ++ [(v', pks.map Prod.snd)]) := by
  obtain ⟨a1, a2, a3, a4⟩ := hok.win
  have hge := hB.ge
  have hle := hB.le
  have hgB := hok.hg
  have hpB := hok.hp
  have hlen := h.len
  have hsz := ht.size
  have hplen : pks.length ≤ 200 := by omega
  have T2 : Touch (fun q => q = r ∨ q = p) wr w2 := Touch.undrew hB.touch
  have T12 : Touch (fun q => q = r ∨ q = g0 ∨ q = p0) w w2 := ht.trans T2 fun q hq hh => by
    rcases hh with rfl | rfl
    · exact .inl rfl
    · rcases hp with rfl | hp
      · exact .inr (.inr rfl)
      · omega
  have T3 : Touch Nowhere w2 w3 := Touch.ofBelow hbel fun q hq hh => by omega
  have T13 : Touch (fun q => q = r ∨ q = g0 ∨ q = p0) w w3 := T12.trans T3 fun _ _ hh => hh.elim
  have hO3 : OwnsAt (w3.alloc o) w0.heap.size 71 1 v i (outs.map Prod.fst) := ((OwnsAt.ofRow h.own).touch T13 fun q cs hq hh => by rcases hs.kd q _ cs hq hh with h | h <;> exact absurd h (by decide)).alloc o
  have hka : ∀ q t cs, Blk (w3.alloc o) q t cs → v.ownBlock = some q → t = 71 := fun q t cs hq hh => by
    obtain ⟨cur, hc⟩ := hO3.kind hh
    exact kindOf hq hc
  have hbo3 : Blk w3 bo 76 #[v] := h.box.touch T13 fun hh => by rcases hs.kd bo _ _ h.box hh with h | h <;> exact absurd h (by decide)
  have hbo4 : Blk w4 bo 76 #[v] := (hbo3.alloc o).grown hgr fun hh => absurd (hka bo _ _ (hbo3.alloc o) hh.symm) (by decide)
  have TA : Touch Nowhere w3 (w3.alloc o) := (Touch.refl Nowhere w3).alloc o
  have TG := grown_touch hgr
  have T5 : Touch (· = bo) w4 (w4.setCell ⟨bo, 0, none⟩ v4) := (Touch.refl (· = bo) w4).setCell (p := ⟨bo, 0, none⟩) (fun _ => rfl) v4
  have hsz3 := T3.size
  have hszA := TA.size
  have hszG := TG.size
  have hrep : ∀ (base' : Nat) (x : Value × List Rp), RepsAt w3 base' x.1 x.2 → bo < base' → RepsAt (w4.setCell ⟨bo, 0, none⟩ v4) base' x.1 x.2 := fun base' x hx hlt =>
    ((hx.keep TA fun _ _ hh => hh).kinds TG fun q t cs hq hh => by rw [hka q t cs hq hh]; decide).keep T5 fun q hq hh => by omega
  have hw2 : w0.heap.size ≤ w2.heap.size := Nat.le_trans hall.size T2.size
  have hnew : RepsAt (w4.setCell ⟨bo, 0, none⟩ v4) w2.heap.size v' (pks.map Prod.snd) := hrep _ (v', pks.map Prod.snd) hR (by omega)
  have hold : ∀ x ∈ outs, RepsAt (w4.setCell ⟨bo, 0, none⟩ v4) base x.1 x.2 := fun x hx => by
    have hi1 : i = 1 := by
      have : 0 < outs.length := List.length_pos_of_mem hx
      omega
    obtain ⟨q1, q2, q3, q4, _⟩ := hs.one hi1
    exact hrep _ x ((hs.reps x hx).keep T13 fun q hq hh => by omega) q4
  have hr5 : RecAt (w4.setCell ⟨bo, 0, none⟩ v4) r g C b e F p s' L sd md ((cnt + pks.length) % 256) 0 := by
    have r3 := (hB.rcd.touch T3 (fun h => h) (fun h => h) (fun h => h)).touch TA (fun h => h) (fun h => h) (fun h => h)
    have r4 := r3.touch TG (fun hh => absurd (hka r _ _ r3.mp.blk hh) (by decide)) (fun hh => by obtain ⟨cs', hb, _⟩ := r3.mp.row; exact absurd (hka g _ _ hb hh) (by decide)) (fun hh => absurd (hka p _ _ r3.box hh) (by decide))
    exact r4.touch T5 (fun hh => by subst hh; exact absurd (kindOf r4.mp.blk hbo4) (by decide)) (by omega) (by omega)
  have hbb := hB.bld
  have hok5 : RecOk (w4.setCell ⟨bo, 0, none⟩ v4) w0.heap.size r lo (bs.take (i + 1)).flatten sd md ((cnt + pks.length) % 256) 0 g C b e F p s' L := ⟨hr5, ⟨a1, by omega, by omega, a4⟩, hok.at_, hok.good, hok.sub, hok.hg, hok.hp⟩
  refine ⟨by simp [hlen], by simpa using hbo4.put 0 v4, ?_, ?_, ?_, ?_, ?_, ?_⟩
  · rw [List.map_append]
    exact own_far hown (p := ⟨bo, 0, none⟩) hbo v4
  · have z1 := hall.trans T2 fun q hq hh => by
      rcases hh with rfl | rfl
      · exact .inl rfl
      · omega
    have z2 := (z1.trans T3 fun _ _ hh => hh.elim).trans TA fun _ _ hh => hh.elim
    exact (z2.trans TG fun q hq hh => by have := (hO3.lt q hh).1; omega).trans T5 fun q hq hh => .inr hh
  · rcases Nat.lt_or_ge 0 i with hi | hi
    · have hi1 : i = 1 := by omega
      subst hi1
      refine ⟨w0.heap.size, Nat.le_refl _, fun x hx => ?_, .inr ⟨by omega, _, g, C, b, e, F, p, s', L, hok5, Nat.mod_lt _ (by decide), fun h => by omega⟩⟩
      rcases List.mem_append.1 hx with hx | hx
      · exact (hold x hx).low hs.hb
      · simp only [List.mem_singleton] at hx
        subst hx
        exact hnew.low hw2
    · have hi0 : i = 0 := by omega
      subst hi0
      have ho : outs = [] := List.eq_nil_of_length_eq_zero hlen
      subst ho
      refine ⟨w2.heap.size, hw2, fun x hx => ?_, .inr ⟨by omega, _, g, C, b, e, F, p, s', L, hok5, Nat.mod_lt _ (by decide), fun _ => ⟨hB.rcd.mp.blk.lt, ?_, hB.rcd.box.lt, by omega, fun x hx => ?_⟩⟩⟩
      · simp only [List.nil_append, List.mem_singleton] at hx
        subst hx
        exact hnew
      · obtain ⟨cs', hb, _⟩ := hB.rcd.mp.row
        exact hb.lt
      · simp only [List.nil_append, List.getElem?_cons_zero, Option.some.injEq] at hx
        subst hx
        rw [hs.zero rfl]
        simp
  · intro x bt hx hbt
    rcases Nat.lt_or_ge 0 i with hi | hi
    · exact h.first x bt (by rwa [List.getElem?_append_left (by omega)] at hx) hbt
    · have hi0 : i = 0 := by omega
      subst hi0
      have ho : outs = [] := List.eq_nil_of_length_eq_zero hlen
      subst ho
      simp only [List.nil_append, List.getElem?_cons_zero, Option.some.injEq] at hx
      subst hx
      obtain ⟨hE1, hE2⟩ := hE rfl
      have hfl : (bs.take (0 + 1)).flatten = bt := by
        rw [List.take_add_one, hbt]
        simp
      rw [hfl] at hE1
      rw [hs.zero rfl] at hbb
      exact ⟨s, e, F, s', hE1, hbb, by omega⟩
  · intro x y hx hy
    have hi1 : i = 1 := by
      have := (List.getElem?_eq_some_iff.1 hy).1
      simp only [List.length_append, List.length_singleton] at this
      omega
    subst hi1
    rw [List.getElem?_append_left (by omega)] at hx
    rw [List.getElem?_append_right (by omega), hlen] at hy
    simp only [Nat.sub_self, List.getElem?_cons_zero, Option.some.injEq] at hy
    subst hy
    obtain ⟨_, _, _, _, hcn⟩ := hs.one rfl
    have hn := hbb.numb hs.hc
    intro j r' hr'
    have h1 := hn j r' hr'
    rw [hcn x hx] at h1
    omega
  · intro x hx
    rcases List.mem_append.1 hx with hx | hx
    · exact h.sml x hx
    · simp only [List.mem_singleton] at hx
      subst hx
      simpa using hplen
end Go.Proofs.Ytlkmmkphpiamcaa
