/-
  The recorder: BuildFeedbackPacket. Condition: the recorder lies in its blocks; all numbers within 256; times are multiples of 250. By an AI agent.
-/
import Derived.Test.YtlkmmkphpiamcaaKv
import Derived.Test.YtlkmmkphpiamcaaKy
namespace Go.Proofs.Ytlkmmkphpiamcaa
open Go.RowKit

/-- Reports are built, one behind the other, from the number s on; what is the next number then. -/
inductive Builds (F : Nat → Int) (e : Nat) (sd md : Int) : Nat → Nat → List Rp → Nat → Prop
  | stop (s cnt : Nat) (h : e ≤ s) : Builds F e sd md s cnt [] s
  | none (s cnt : Nat) (h : s < e) (hn : ∀ i, s ≤ i → i < e → F i < 0) : Builds F e sd md s cnt [] s
  | step (s cnt x : Nat) (st : St) (reps : List Rp) (s' : Nat) (hs : s ≤ x) (hx : x < e) (h0 : 0 ≤ F x) (hn : ∀ i, s ≤ i → i < x → F i < 0) (he : Ends F s e (st00 s (F x)) st) (hq : s < st.q ∧ st.q ≤ e) (hl : st.S.length + s = st.q)
      (r : Builds F e sd md st.q ((cnt + 1) % 256) reps s') : Builds F e sd md s cnt (⟨sd, md, s % 65536, F x / 64000, cnt, st.S, st.D⟩ :: reps) s'

theorem nextSt_sym {F : Nat → Int} {x : Nat} {st : St} (h : ∀ d ∈ st.S, d ≤ 2) : ∀ d ∈ (nextSt F x st).S, d ≤ 2 := by
  intro d hd
  simp only [nextSt, List.mem_append, List.mem_replicate, List.mem_singleton] at hd
  rcases hd with (hd | hd) | hd
  · exact h d hd
  · omega
  · subst hd
    exact symOf_le _
theorem foldSt_sym {F : Nat → Int} : ∀ (n x : Nat) (st st' : St), foldSt F x n st = some st' → (∀ d ∈ st.S, d ≤ 2) → ∀ d ∈ st'.S, d ≤ 2
  | 0, x, st, st', h, hs => by
    simp only [foldSt, Option.some.injEq] at h
    subst h
    exact hs
  | n + 1, x, st, st', h, hs => by
    rw [foldSt, stepSt] at h
    split at h
    · exact foldSt_sym n (x + 1) st st' (by simpa using h) hs
    · split at h
      · exact foldSt_sym n (x + 1) _ st' (by simpa using h) (nextSt_sym hs)
      · simp at h

theorem info_pk : (Try.prog.info? 160).map (fun i => (i.zero, i.size, i.bytes)) = some (some .nilIface, 1, 16) := by kernel_rfl

section
variable {w w' : World} {S : Nat → Prop}
theorem TimesAt.kinds {g off : Nat} {D : List Int} (h : TimesAt w g off D) (ht : Touch S w w') (hS : ∀ q cs, Blk w q 173 cs → ¬ S q) : TimesAt w' g off D := fun hl => by
  obtain ⟨cur, k1, k2⟩ := h hl
  exact ⟨cur, (ht.block g (lt_of_block k1) (hS g cur k1)).trans k1, k2⟩
/-- Blocks of other types turn. -/
theorem RepAt.kinds {rt : Nat} {Ss : List Nat} {D : List Int} {sd md bs cnt ref fb : Int} (h : RepAt w rt Ss D sd md bs cnt ref fb) (ht : Touch S w w') (hS : ∀ q t cs, Blk w q t cs → S q → t = 154 ∨ t = 2 ∨ t = 160) : RepAt w' rt Ss D sd md bs cnt ref fb := by
  have hne : ∀ q t cs, Blk w q t cs → t ≠ 154 → t ≠ 2 → t ≠ 160 → ¬ S q := fun q t cs hq h1 h2 h3 hs => by
    rcases hS q t cs hq hs with h | h | h
    · exact h1 h
    · exact h2 h
    · exact h3 h
  obtain ⟨r, cl, ps, b, v, A, c, z, g, off, h1, h2, ⟨h3, h4, h5, h6, h7⟩, h8, h9, h10⟩ := h
  refine ⟨r, cl, ps, b, v, A, c, z, g, off, h1.touch ht (hne _ _ _ h1 (by decide) (by decide) (by decide)), h2, ⟨h3, h4.touch ht fun q cs hq => hne q _ cs hq (by decide) (by decide) (by decide), h5.map fun c p hc => hc.step ht (fun q t cs hq hk => ?_) fun g o es he => he.touch ht fun q cs hq => hne q _ cs hq (by decide) (by decide) (by decide), h6, h7⟩, h8, h9.touch ht (hne _ _ _ h9 (by decide) (by decide) (by decide)), h10.kinds ht fun q cs hq => hne q _ cs hq (by decide) (by decide) (by decide)⟩
  rcases hk with rfl | rfl <;> exact hne q _ cs hq (by decide) (by decide) (by decide)
theorem PkAt.kinds {p : Nat × Rp} (h : PkAt w p) (ht : Touch S w w') (hS : ∀ q t cs, Blk w q t cs → S q → t = 154 ∨ t = 2 ∨ t = 160) : PkAt w' p := ⟨h.rep.kinds ht hS, h.ok⟩
end

theorem put90C (s : Value) (b e : Nat) (i : Bool) (L : Nat) (p : Option Addr) (sd md : Int) (cnt held : Nat) :
    (recC s b e (restC i L p sd md cnt held)).setIfInBounds 9 (.int .i64 0) = recC s b e (restC i L p sd md cnt 0) := by simp [recC, restC]

/-- So far. -/
structure BI (w wr : World) (r g C b e : Nat) (F : Nat → Int) (p s L : Nat) (sd md : Int) (cnt held s2 : Nat) (u : Value) (acc : List (Nat × Rp)) : Prop where
  rcd : RecAt wr r g C b e F p s2 L sd md ((cnt + acc.length) % 256) held
  ge : acc.length + s ≤ s2
  le : s2 ≤ e
  own : wr.ownsRow w.heap.size 160 1 u acc.length (acc.map pkCell)
  each : ∀ a ∈ acc, PkAt wr a
  bld : ∀ reps s', Builds F e sd md s2 ((cnt + acc.length) % 256) reps s' → Builds F e sd md s cnt (acc.map Prod.snd ++ reps) s'
  touch : Touch (fun q => q = r ∨ q = p) w wr

/-- What Build gives. -/
structure Built2 (w w' : World) (r g C b e : Nat) (F : Nat → Int) (p s L : Nat) (sd md : Int) (cnt : Nat) (A : Option Addr) (c : Nat) (pks : List (Nat × Rp)) (s' : Nat) : Prop where
  own : OwnsAt w' w.heap.size 160 1 (.slice A pks.length c) pks.length (pks.map pkCell)
  each : ∀ a ∈ pks, PkAt w' a
  bld : Builds F e sd md s cnt (pks.map Prod.snd) s'
  ge : pks.length + s ≤ s'
  le : s' ≤ e
  rcd : RecAt w' r g C b e F p s' L sd md ((cnt + pks.length) % 256) 0
  touch : Touch (fun q => q = r ∨ q = p) w w'
def BuildPost (r g C b e : Nat) (F : Nat → Int) (p s L : Nat) (sd md : Int) (cnt : Nat) (w : World) (v : Ending) (w' : World) : Prop :=
  ∃ A c pks s', v = .returned (.slice A pks.length c) ∧ Built2 w w' r g C b e F p s L sd md cnt A c pks s'

theorem BI.stop {w wr : World} {r g C b e : Nat} {F : Nat → Int} {p s L : Nat} {sd md : Int} {cnt held s2 : Nat} {A : Option Addr} {n c : Nat} {acc : List (Nat × Rp)} (h : BI w wr r g C b e F p s L sd md cnt held s2 (.slice A n c) acc) (hn : n = acc.length)
    (hb : Builds F e sd md s2 ((cnt + acc.length) % 256) [] s2) : BuildPost r g C b e F p s L sd md cnt w (.returned (.slice A n c)) (wr.setCell ⟨r, 9, none⟩ (.int .i64 0)) := by
  subst hn
  have hr := h.rcd
  have hrp := hr.rp
  have t1 : Touch (· = r) wr (wr.setCell ⟨r, 9, none⟩ (.int .i64 0)) := (Touch.refl (· = r) wr).setCell (p := ⟨r, 9, none⟩) (fun _ => rfl) _
  have hk : ∀ q t cs, Blk wr q t cs → q = r → t = 154 := fun q t cs hq hs => by
    subst hs
    exact kindOf hq hr.mp.blk
  refine ⟨A, c, acc, s2, rfl, (OwnsAt.ofRow h.own).touch t1 fun q cs hq hs => absurd (hk q _ cs hq hs) (by decide), fun a ha => (h.each a ha).kinds t1 fun q t cs hq hs => .inl (hk q t cs hq hs), ?_, h.ge, h.le, ?_, h.touch.trans t1 fun _ _ hh => .inl hh⟩
  · have h1 := h.bld [] s2 hb
    rwa [List.append_nil] at h1
  · exact ⟨hr.mp.rest (put90C (rowV g C) b e true L (some ⟨p, 0, none⟩) sd md ((cnt + acc.length) % 256) held), hr.box.far (p := ⟨r, 9, none⟩) hrp.symm _, hr.ne⟩

theorem own_kinds {w w' : World} {S : Nat → Prop} {base : Nat} {e : TypeId} {size n : Nat} {v : Value} {xs : List Value} (h : w.ownsRow base e size v n xs) (ht : Touch S w w') (hS : ∀ q cs, Blk w q e cs → ¬ S q) : w'.ownsRow base e size v n xs := by
  obtain ⟨a1, a2⟩ := h
  refine ⟨a1, ?_⟩
  rcases a2 with a2 | ⟨g', cap, cur, hv, hg, hh, rr⟩
  · exact .inl a2
  · exact .inr ⟨g', cap, cur, hv, hg, (ht.block g' (lt_of_block hh) (hS g' cur hh)).trans hh, rr⟩
theorem BI.kd {w wr : World} {r g C b e : Nat} {F : Nat → Int} {p s L : Nat} {sd md : Int} {cnt held s2 : Nat} {u : Value} {acc : List (Nat × Rp)} (h : BI w wr r g C b e F p s L sd md cnt held s2 u acc) (q t : Nat) (cs : Array Value) (hq : Blk wr q t cs) (hs : q = r ∨ q = p) : t = 154 ∨ t = 2 := by
  rcases hs with rfl | rfl
  · exact .inl (kindOf hq h.rcd.mp.blk)
  · exact .inr (kindOf hq h.rcd.box)
theorem BI.own12 {w wr w1 w2 : World} {r g C b e : Nat} {F : Nat → Int} {p s L : Nat} {sd md : Int} {cnt held s2 rt k : Nat} {u : Value} {acc : List (Nat × Rp)} (h : BI w wr r g C b e F p s L sd md cnt held s2 u acc) (ht : Touch (fun q => q = r ∨ q = p ∨ wr.heap.size ≤ q) wr w1)
    (ht2 : Touch (fun q => q = rt ∨ k ≤ q) w1 w2) (hk : wr.heap.size ≤ rt) (hrt : rt + 1 = k) : w2.ownsRow w.heap.size 160 1 u acc.length (acc.map pkCell) :=
  own_kinds h.own ((ht.mono (S' := fun q => q = r ∨ q = p) fun i hi hh => by rcases hh with h | h | h; exact .inl h; exact .inr h; omega).trans ht2 fun i hi hh => by omega) fun q cs hq hs => by rcases h.kd q _ cs hq hs with h | h <;> exact absurd h (by decide)
theorem BI.idleB {w wr w1 : World} {r g C b e : Nat} {F : Nat → Int} {p s L : Nat} {sd md : Int} {cnt held s2 : Nat} {u : Value} {acc : List (Nat × Rp)} (h : BI w wr r g C b e F p s L sd md cnt held s2 u acc)
    (hr : RecAt w1 r g C b e F p s2 L sd md ((cnt + acc.length) % 256) held) (ht : Touch (fun q => q = r ∨ q = p ∨ wr.heap.size ≤ q) wr w1) : BI w w1 r g C b e F p s L sd md cnt held s2 u acc := by
  have t12 : Touch (fun q => q = r ∨ q = p) wr w1 := ht.mono fun i hi hh => by rcases hh with h | h | h; exact .inl h; exact .inr h; omega
  have hk : ∀ q t cs, Blk wr q t cs → (q = r ∨ q = p) → t = 154 ∨ t = 2 := fun q t cs hq hs => by
    rcases hs with rfl | rfl
    · exact .inl (kindOf hq h.rcd.mp.blk)
    · exact .inr (kindOf hq h.rcd.box)
  refine ⟨hr, h.ge, h.le, ?_, fun a ha => (h.each a ha).kinds t12 fun q t cs hq hs => by rcases hk q t cs hq hs with h | h; exact .inl h; exact .inr (.inl h), h.bld, h.touch.trans t12 fun _ _ hh => hh⟩
  obtain ⟨a1, a2⟩ := h.own
  refine ⟨a1, ?_⟩
  rcases a2 with a2 | ⟨g', cap, cur, hv, hg, hh, rr⟩
  · exact .inl a2
  · exact .inr ⟨g', cap, cur, hv, hg, (ht.block g' (lt_of_block hh) (fun hz => by
      have hb : Blk wr g' 160 cur := hh
      have hlt := hb.lt
      rcases hz with hz | hz | hz
      · rcases hk g' _ cur hb (.inl hz) with h | h <;> exact absurd h (by decide)
      · rcases hk g' _ cur hb (.inr hz) with h | h <;> exact absurd h (by decide)
      · omega)).trans hh, rr⟩

theorem BI.next {w wr w1 w2 w3 : World} {r g C b e : Nat} {F : Nat → Int} {p s L : Nat} {sd md : Int} {cnt held s2 k n x : Nat} {u u' : Value} {acc : List (Nat × Rp)} {f : FB} {st : St} {o : Obj} (h : BI w wr r g C b e F p s L sd md cnt held s2 u acc) (hes : e < s + 256)
    (hs : s2 ≤ x) (hx : x < e) (h0 : 0 ≤ F x) (hn : ∀ i, s2 ≤ i → i < x → F i < 0) (hk : wr.heap.size ≤ f.rt) (ho : FbOk w1 k f s2 st sd md (((cnt + acc.length) % 256 : Nat) : Int) (F x / 64000) n) (he : Ends F s2 e (st00 s2 (F x)) st) (hq : s2 < st.q ∧ st.q ≤ e)
    (hr : RecAt w1 r g C b e F p st.q L sd md (((cnt + acc.length) % 256 + 1) % 256) held) (ht : Touch (fun q => q = r ∨ q = p ∨ wr.heap.size ≤ q) wr w1)
    (hrep : RepAt w2 f.rt st.S st.D sd md (f.base : Int) (f.cnt : Int) f.ref (((cnt + acc.length) % 256 : Nat) : Int)) (ht2 : Touch (fun q => q = f.rt ∨ k ≤ q) w1 w2)
    (hg : (w2.alloc o).grownBy w3 u.ownBlock) (hown : w3.ownsRow w.heap.size 160 1 u' (acc.length + 1) (acc.map pkCell ++ [.iface 161 (.pointer (some ⟨f.rt, 0, none⟩))])) :
    BI w w3 r g C b e F p s L sd md cnt held st.q u' (acc ++ [(f.rt, ⟨sd, md, s2 % 65536, F x / 64000, (cnt + acc.length) % 256, st.S, st.D⟩)]) := by
  have hrt := ho.rt
  have hoq := ho.q
  have hge := h.ge
  have hrlt := h.rcd.mp.blk.lt
  have hplt := h.rcd.box.lt
  have hglt : g < wr.heap.size := by
    obtain ⟨cs, hb, _⟩ := h.rcd.mp.row
    exact hb.lt
  have hmod : ((cnt + acc.length) % 256 + 1) % 256 = (cnt + (acc.length + 1)) % 256 := by omega
  have t12 : Touch (fun q => q = r ∨ q = p) wr w2 := (ht.mono fun i hi hh => by rcases hh with h | h | h; exact .inl h; exact .inr h; omega).trans ht2 fun i hi hh => by omega
  have hkd : ∀ q t cs, Blk wr q t cs → (q = r ∨ q = p) → t = 154 ∨ t = 2 := fun q t cs hq hs => by
    rcases hs with rfl | rfl
    · exact .inl (kindOf hq h.rcd.mp.blk)
    · exact .inr (kindOf hq h.rcd.box)
  have hO2 : OwnsAt (w2.alloc o) w.heap.size 160 1 u acc.length (acc.map pkCell) := ((OwnsAt.ofRow h.own).touch t12 fun q cs hq hs => by rcases hkd q _ cs hq hs with h | h <;> exact absurd h (by decide)).alloc o
  have hka : ∀ q t cs, Blk (w2.alloc o) q t cs → u.ownBlock = some q → t = 160 := fun q t cs hq hs => by
    obtain ⟨cur, hc⟩ := hO2.kind hs
    exact kindOf hq hc
  have tN : Touch Nowhere w2 (w2.alloc o) := (Touch.refl Nowhere w2).alloc o
  have tg := grown_touch hg
  have hr2 := (hr.touch ht2 (by omega) (by omega) (by omega)).touch tN (fun h => h) (fun h => h) (fun h => h)
  refine ⟨?_, by simp only [List.length_append, List.length_singleton]; omega, hq.2, by simpa [pkCell] using hown, fun a ha => ?_, fun reps s' hB => ?_, ((h.touch.trans t12 fun _ _ hh => hh).alloc o).grown hg fun q hq1 hq2 => by have := (h.own.lt q hq1).1; omega⟩
  · rw [List.length_append, List.length_singleton, ← hmod]
    refine hr2.touch tg (fun hz => absurd (hka r _ _ hr2.mp.blk hz) (by decide)) (fun hz => ?_) (fun hz => absurd (hka p _ _ hr2.box hz) (by decide))
    obtain ⟨cs, hb, _⟩ := hr2.mp.row
    exact absurd (hka g _ _ hb hz) (by decide)
  · have hmv : ∀ a, PkAt w2 a → PkAt w3 a := fun a ha => (ha.idle tN).kinds tg fun q t cs hq hs => .inr (.inr (hka q t cs hq hs))
    rcases List.mem_append.1 ha with ha | ha
    · exact hmv a ((h.each a ha).kinds t12 fun q t cs hq hs => by rcases hkd q t cs hq hs with h | h; exact .inl h; exact .inr (.inl h))
    · simp only [List.mem_singleton] at ha
      subst ha
      refine hmv _ ⟨?_, ?_⟩
      · have h1 := hrep
        rw [ho.base, ho.cnt, ho.ref_] at h1
        exact h1
      · have hD := ho.D
        exact ⟨Nat.mod_lt _ (by decide), Nat.mod_lt _ (by decide), by show st.S.length ≤ 1000; omega, by show st.D.length ≤ 1000; omega, fun d hd => Nat.lt_of_le_of_lt (foldSt_sym _ _ _ _ he.1.2 (by simp [st00]) d hd) (by decide)⟩
  · rw [List.length_append, List.length_singleton, ← hmod] at hB
    have h1 := h.bld _ s' (.step s2 _ x st reps s' hs hx h0 hn he hq hoq hB)
    rw [List.map_append, List.append_assoc]
    exact h1

set_option maxRecDepth 1000000 in
set_option maxHeartbeats 2000000 in
theorem build_any (r g C b e p s L : Nat) (F : Nat → Int) (sd md : Int) (cnt held : Nat) (w : World) (hR : RecAt w r g C b e F p s L sd md cnt held) (hbs : b ≤ s) (hse : s ≤ e) (hes : e < s + 256) (hF : ∀ i, F i < 0 ∨ goodT (F i)) (hc : cnt < 256) (he : e < 140737488355000) :
    Calls Try.prog 60 #[.pointer (some ⟨r, 0, none⟩)] w (BuildPost r g C b e F p s L sd md cnt w) := by
  obtain ⟨i0, hi0, hz0, hz1, hz2⟩ := info_parts info_pk
  have c2 := hR.mp.map.c2
  have c5 := hR.mp.blk.cell 5
  simp [recC, restC] at c5
  have HI0 : Hid (BI w w r g C b e F p s L sd md cnt held s (.slice none 0 0) []) := by
    refine ⟨?_, by simp, hse, World.ownsRow_nil _ _ _ _, by simp, fun reps s' h => ?_, Touch.refl _ _⟩
    · rw [List.length_nil, Nat.add_zero, Nat.mod_eq_of_lt hc]; exact hR
    · rw [List.length_nil, Nat.add_zero, Nat.mod_eq_of_lt hc] at h; exact h
  have p0 := hR.box.cell 0
  simp at p0
  have HF := Lib.hid hF
  have HE := Lib.hid (And.intro hes he)
  have HBS := Lib.hid (And.intro hbs hse)
  clear hR hF hes hbs he hse
  go_enter Try.func60, Try.ntmps60
  go_wp2_with fail
  refine (end_any r e w c2).mono ?_
  rintro v w1 ⟨rfl, hw1⟩
  obtain rfl := hw1.symm
  clear hw1
  go_wp2_with fail
  clear c2 c5
  go_loopw [4] (fun u wr => ∃ (s2 : Nat) (acc : List (Nat × Rp)), wr.cell? ⟨p, 0, none⟩ = some (.int .i64 (s2 : Int)) ∧ Hid (BI w wr r g C b e F p s L sd md cnt held s2 u acc)) (fun _ wr => e - cellNat wr ⟨p, 0, none⟩)
  case atStart => exact ⟨s, [], p0, HI0⟩
  case round =>
    obtain ⟨s2, acc, e0, hI⟩ := hrel
    have d5 := hI.out.rcd.mp.blk.cell 5
    simp [recC, restC] at d5
    have hge := hI.out.ge
    have hle := hI.out.le
    have hHE := HE.out.2
    by_cases hlt : s2 < e
    · have HC2 : Hid ((cnt + acc.length) % 256 < 256) := Nat.mod_lt _ (by decide)
      obtain ⟨c2, hc2⟩ : ∃ c2, (cnt + acc.length) % 256 = c2 := ⟨_, rfl⟩
      have hr0 := hI.out.rcd
      rw [hc2] at hr0 HC2
      have HMB := Lib.hid (mayBuild_any r g C b e p s2 L F sd md c2 held wr hr0 (by have := HBS.out.1; omega) hle (by have := HE.out.1; omega) HF.out HC2.out hHE)
      have HC3 := Lib.hid hc2
      clear hc2 hr0 hHE
      go_wp2_with fail
      refine HMB.out.mono ?_
      rintro v w1 (⟨hn, rfl, hr, ht⟩ | ⟨k, f, st, n, x, hs, hx, h0, hn, rfl, hk, ho, he, hq, hr, ht⟩)
      · have hbi := hI.out.idleB (by rw [HC3.out]; exact hr) ht
        obtain ⟨A5, c5, rfl⟩ := own_slice hbi.own
        have d9 := hr.mp.blk.cell 9
        have f9 := hr.mp.blk.free 9
        simp [recC, restC] at d9
        have HFIN := Lib.hid (hbi.stop rfl (.none _ _ hlt hn))
        clear hn hr ht hbi
        go_wp2_with fail
        go_ret
        exact HFIN.out
      · have hoq := ho.q
        have hes1 := HE.out.1
        have HGET := Lib.hid (get_fb k k n f st.S st.D (rp0 sd md (c2 : Int)) w1 ho.at_ ho.rp rfl (by have := ho.rt; omega) (by omega) (by have := ho.D; omega) (by have := ho.len; omega) (by rw [ho.ref_]; exact ho.refb))
        rw [← HC3.out] at ho hr
        have HNX := fun w2 w3 o u' h1 h2 h3 h4 => hI.out.next (w2 := w2) (w3 := w3) (o := o) (u' := u') hes1 hs hx h0 hn hk ho he hq hr ht h1 h2 h3 h4
        rw [HC3.out] at HNX
        have HNX2 := Lib.hid HNX
        have HOWN := Lib.hid (fun w2 h2 => hI.out.own12 (w2 := w2) ht h2 hk ho.rt)
        have HT1 := Lib.hid ht
        have HPB := Lib.hid hI.out.rcd.rp
        have hkk := ho.at_.blk.lt
        have hrt := ho.rt
        have HQQ := Lib.hid hq
        have HSZ := Lib.hid (Nat.le_trans hI.out.touch.size ht.size)
        clear HNX hn hs hx h0 hk ho he hq hr ht hoq
        obtain ⟨rt, hrtt⟩ : ∃ rt, f.rt = rt := ⟨_, rfl⟩
        rw [hrtt] at HGET HNX2 hrt HOWN
        clear hrtt
        have hrlt := hI.out.rcd.mp.blk.lt
        have hplt := hI.out.rcd.box.lt
        go_wp2_with fail
        refine HGET.out.mono ?_
        rintro v w2 ⟨rfl, hrep, ht2⟩
        have HREP := Lib.hid hrep
        have HT2 := Lib.hid ht2
        have hsz2 : w.heap.size ≤ w2.heap.size := Nat.le_trans HSZ.out ht2.size
        clear hrep ht2
        have hO2 : Hid (w2.ownsRow w.heap.size 160 1 u4 acc.length (acc.map pkCell)) := HOWN.out w2 HT2.out
        have hacc : acc.length ≤ 256 := by omega
        go_wp2_with (at_builtin; refine wpList_append_lies _ rfl _ _ _ rfl w.heap.size 160 i0 _ 1 16 Try.underlying118 hi0 hz0 hz1 hz2 rfl (by decide) u4 acc.length _ rfl (hO2.out.alloc _) ⟨w2.heap.size, 0, none⟩ 1 1 [.iface 161 (.pointer (some ⟨rt, 0, none⟩))] rfl rfl (World.news_of_block (cs := #[.iface 161 (.pointer (some ⟨rt, 0, none⟩))]) (t := 160) (fr := (0, 0)) (heap_alloc_new w2 _)) (by simp [Value.oneCell']) (by omega) (by simp only [maxLen]; omega) (by omega) (by simp; omega) (w2.heap.size + 1) (by simp) ?_; intro gg cap w3 hown3 hgrow3 hat3 hlt3)
        have hbi := HNX2.out w2 w3 _ _ HREP.out HT2.out hgrow3 hown3
        have hcp := (hbi.rcd.box.cell 0).trans (by simp : (#[Value.int .i64 (st.q : Int)] : Array Value)[0]? = some (.int .i64 (st.q : Int)))
        refine ⟨⟨st.q, _, hcp, hbi⟩, ?_⟩
        have hqq := HQQ.out
        rw [cellNat_of hcp, cellNat_of e0]
        omega
    · obtain ⟨A5, c5, rfl⟩ := own_slice hI.out.own
      have d9 := hI.out.rcd.mp.blk.cell 9
      have f9 := hI.out.rcd.mp.blk.free 9
      simp [recC, restC] at d9
      have HFIN := Lib.hid (hI.out.stop rfl (.stop _ _ (Nat.le_of_not_lt hlt)))
      go_wp2_with fail
      go_ret
      exact HFIN.out
end Go.Proofs.Ytlkmmkphpiamcaa
