/-
  A chunk of feedback: put into a report (encode), in general; what a report's chunk tells. Condition: the chunk lies in its feedback's block. By an AI agent.
-/
import Derived.Test.YtlkmmkphpiamcaaKm
namespace Go.Proofs.Ytlkmmkphpiamcaa
open Go.RowKit

/-- A chunk of a report tells the symbols ds: a run, or a list of symbols that is clear of what an append to v would write. -/
inductive ChAt (w : World) (base : Nat) (v : Value) : Value → List Nat → Prop
  | run (q sym n : Nat) (hq : base ≤ q) (hb : Blk w q 190 #[.nilIface, .int .u16 0, .int .u16 (sym : Int), .int .u16 (n : Int)]) (hn : n ≤ 8191) : ChAt w base v (.iface 188 (.pointer (some ⟨q, 0, none⟩))) (List.replicate n sym)
  | vec (q sz g o c : Nat) (ds : List Nat) (hq : base ≤ q) (hb : Blk w q 193 #[.nilIface, .int .u16 0, .int .u16 (sz : Int), .slice (some ⟨g, o, none⟩) ds.length c]) (hs : SymAt w v g o ds) : ChAt w base v (.iface 191 (.pointer (some ⟨q, 0, none⟩))) ds

theorem ChAt.step {w w' : World} {base : Nat} {v v' c : Value} {ds : List Nat} {S : Nat → Prop} (h : ChAt w base v c ds) (ht : Touch S w w') (hS : ∀ q t cs, Blk w q t cs → t = 190 ∨ t = 193 → ¬ S q)
    (hsym : ∀ g o es, SymAt w v g o es → SymAt w' v' g o es) : ChAt w' base v' c ds := by
  cases h with
  | run q sym n hq hb hn => exact .run q sym n hq (hb.touch ht (hS _ _ _ hb (.inl rfl))) hn
  | vec q sz g o c ds hq hb hs => exact .vec q sz g o c ds hq (hb.touch ht (hS _ _ _ hb (.inr rfl))) (hsym _ _ _ hs)

/-- Behind encode. -/
structure Encoded (w w' : World) (k base n : Nat) (f : FB) (ds : List Nat) (c : Value) (a b : List Nat) (v' : Value) (hl' hd' : Bool) : Prop where
  cut : ds = a ++ b
  some_ : a ≠ []
  blk : Blk w' k 202 { f with v := v', hl := hl', hd := hd' }.cells
  own : OwnsAt w' base 33 1 v' b.length (us b)
  alike : hd' = false → ∀ d ∈ b, b[0]? = some d
  ch : ChAt w' base v' c a
  syms : ∀ g o es, SymAt w f.v g o es → SymAt w' v' g o es
  touch : Touch (· = k) w w'
  at_ : v'.ownBlock = f.v.ownBlock ∨ ∃ z, v'.ownBlock = some z ∧ w.heap.size ≤ z

theorem us_get {ds : List Nat} {j d : Nat} (h : ds[j]? = some d) : (us ds)[j]? = some (.int .u16 (d : Int)) := by simp [us, h]
theorem all_replicate {ds : List Nat} {d0 : Nat} (h0 : ds[0]? = some d0) (h : ∀ d ∈ ds, ds[0]? = some d) : ds = List.replicate ds.length d0 := by
  refine List.eq_replicate_iff.2 ⟨rfl, fun d hd => ?_⟩
  have := h d hd
  rw [h0] at this
  injection this with this
  exact this.symm

/-- The place of a slice that is not empty. -/
theorem OwnsAt.place {w : World} {base n : Nat} {e : TypeId} {size : Nat} {v : Value} {xs : List Value} (h : OwnsAt w base e size v n xs) (hn : 0 < n) :
    ∃ g off c cur, v = .slice (some ⟨g, off, none⟩) n c ∧ base ≤ g ∧ w.heap[g]? = some (.cells cur e (0, 0)) ∧ n ≤ c ∧ c ≤ maxLen ∧ off + c * size ≤ cur.size ∧ (cur.toList.drop off).take (n * size) = xs := by
  rcases h.2 with ⟨_, h0⟩ | h
  · omega
  · exact h

theorem encode_alike (k n base : Nat) (f : FB) (ds : List Nat) (w : World) (hB : Blk w k 202 f.cells) (hO : OwnsAt w base 33 1 f.v n (us ds)) (hn1 : 0 < n) (hn : n ≤ 8191) (hd : f.hd = false) (ha : ∀ d ∈ ds, ds[0]? = some d) (hbase : base ≤ w.heap.size) :
    Calls Try.prog 104 #[.pointer (some ⟨k, 7, none⟩)] w fun e w' => ∃ c a b v' hl' hd', e = .returned c ∧ Encoded w w' k base n f ds c a b v' hl' hd' := by
  have hlen : ds.length = n := by have := hO.1; rw [us_len] at this; omega
  obtain ⟨g, off, c, cur, hv, hbg, hg, hnc, hcm, hcs, htk⟩ := hO.place hn1
  obtain ⟨d0, hd0⟩ : ∃ d0, ds[0]? = some d0 := ⟨_, List.getElem?_eq_getElem (by omega)⟩
  have hO2 := hO
  rw [hv] at hO2
  obtain ⟨ad, had, _, _, hcell⟩ := hO2.cells hn1
  injection had with had
  subst had
  have h0 := hcell 0 _ (us_get hd0)
  have h00 : w.cell? ⟨g, off, none⟩ = some (.int .u16 (d0 : Int)) := by simpa [Addr.add] using h0
  refine (encode_run k n c ⟨g, off, none⟩ d0 f w hB hv hd hn1 hn h00).mono ?_
  rintro e w' ⟨rfl, rfl⟩
  have hklt := hB.lt
  obtain ⟨X, hX⟩ : ∃ X, (w.alloc (.cells #[.nilIface, .int .u16 0, .int .u16 (d0 : Int), .int .u16 (n : Int)] 190)).drew = X := ⟨_, rfl⟩
  have hXs : X.heap.size = w.heap.size + 1 := by rw [← hX]; simp
  have hXb : Blk X k 202 f.cells := by rw [← hX]; exact (hB.alloc _).drew
  have hXn : Blk X w.heap.size 190 #[.nilIface, .int .u16 0, .int .u16 (d0 : Int), .int .u16 (n : Int)] := by rw [← hX]; exact (Blk.new w 190 _).drew
  have hXt : Touch (· = k) w X := by rw [← hX]; exact ((Touch.refl _ w).alloc _).drew
  have hrep := all_replicate hd0 ha
  rw [hlen] at hrep
  rw [hX]
  have het := emptied_touch k X
  refine ⟨_, ds, [], _, false, false, rfl, ⟨by simp, ?_, emptied_blk hXb, emptied_own hXb.lt (by omega), (fun _ d h => (nomatch h)), ?_, ?_, hXt.trans het fun _ _ h => h, .inr ⟨X.heap.size, rfl, by omega⟩⟩⟩
  · rintro rfl
    simp at hlen
    omega
  · have hne : w.heap.size ≠ k := by omega
    rw [hrep]
    exact .run w.heap.size d0 n hbase (hXn.touch het hne) hn
  · intro g2 o es hs
    have hne : g2 ≠ k := hs.unlike hB (by decide)
    have h1 : (emptied k X).heap[g2]? = w.heap[g2]? := (hXt.trans het fun _ _ h => h).block g2 hs.lt hne
    have h2 := hs.keep h1
    refine ⟨h2.row, h2.at_, fun off2 m c2 hv2 hlt => ?_⟩
    injection hv2 with h3 _ _
    injection h3 with h3
    injection h3 with h3 _ _
    have := hs.lt
    omega

theorem vec_encoded {k n base m g off c sz : Nat} {f : FB} {ds : List Nat} {w w' : World} {v' : Value} {hl' hd' : Bool} (hB : Blk w k 202 f.cells) (hO : OwnsAt w base 33 1 f.v n (us ds)) (hv : f.v = .slice (some ⟨g, off, none⟩) n c)
    (hm : m ≤ n) (hm0 : 0 < m) (hbase : base ≤ w.heap.size)
    (ht : Touch (· = k) (w.alloc (.cells #[.nilIface, .int .u16 0, .int .u16 (sz : Int), .slice (some ⟨g, off, none⟩) m c] 193)) w') (hb : Blk w' k 202 { f with v := v', hl := hl', hd := hd' }.cells)
    (ha : hd' = false → ∀ d ∈ ds.drop m, (ds.drop m)[0]? = some d)
    (hv' : (∃ z, v' = .slice (some ⟨z, 0, none⟩) 0 0 ∧ w.heap.size ≤ z ∧ m = n ∧ OwnsAt w' base 33 1 v' 0 (us [])) ∨ v' = cutV g off n c m) :
    Encoded w w' k base n f ds (.iface 191 (.pointer (some ⟨w.heap.size, 0, none⟩))) (ds.take m) (ds.drop m) v' hl' hd' := by
  have hlen : ds.length = n := by have := hO.1; rw [us_len] at this; omega
  obtain ⟨g', off', c', cur, hv2, hbg, hg, hnc, hcm, hcs, htk⟩ := hO.place (by omega)
  rw [hv] at hv2
  injection hv2 with h1 _ h2
  injection h1 with h1
  injection h1 with h1 h3 _
  subst h1 h2 h3
  have hglt : g < w.heap.size := lt_of_block hg
  have hgk : g ≠ k := by
    rintro rfl
    unfold Blk at hB
    rw [hg] at hB
    injection hB with hB
    injection hB with _ hB
    exact absurd hB (by decide)
  have hXt : Touch (· = k) w (w.alloc (.cells #[.nilIface, .int .u16 0, .int .u16 (sz : Int), .slice (some ⟨g, off, none⟩) m c] 193)) := (Touch.refl _ w).alloc _
  have htt := hXt.trans ht fun _ _ h => h
  have hheap : ∀ b, b < w.heap.size → b ≠ k → w'.heap[b]? = w.heap[b]? := fun b h1 h2 => htt.block b h1 h2
  have hgw : w'.heap[g]? = some (.cells cur 33 (0, 0)) := (hheap g hglt hgk).trans hg
  have hbox : Blk w' w.heap.size 193 #[.nilIface, .int .u16 0, .int .u16 (sz : Int), .slice (some ⟨g, off, none⟩) m c] := (Blk.new w 193 _).touch ht (by have := hB.lt; omega)
  have hO2 := hO
  rw [hv] at hO2
  obtain ⟨ad, had, _, _, hcell⟩ := hO2.cells (by omega)
  injection had with had
  subst had
  have hadd : ∀ j, (⟨g, off, none⟩ : Addr).add j = ⟨g, off + j, none⟩ := fun j => by unfold Addr.add; split <;> simp_all
  have hfree : ∀ g2 off2 m2 c2, v' = .slice (some ⟨g2, off2, none⟩) m2 c2 → m2 < c2 → g2 < w.heap.size → g2 = g ∧ off2 + m2 = off + n ∧ n < c ∧ off + m ≤ off2 + m2 := by
    intro g2 off2 m2 c2 h hlt h2
    rcases hv' with ⟨z, hz, hzw, _⟩ | hz
    · rw [hz] at h
      injection h with h3 _ _
      injection h3 with h3
      injection h3 with h3 _ _
      omega
    · rw [hz] at h
      unfold cutV at h
      by_cases hcm' : c = m
      · rw [if_pos hcm'] at h
        injection h with h3 h4 h5
        omega
      · rw [if_neg hcm'] at h
        injection h with h3 h4 h5
        injection h3 with h3
        injection h3 with h3 h6 _
        omega
  refine ⟨(List.take_append_drop m ds).symm, ?_, hb, ?_, ha, ?_, ?_, htt, ?_⟩
  · intro h
    have := congrArg List.length h
    rw [List.length_take, List.length_nil] at this
    omega
  · have hdl : (ds.drop m).length = n - m := by rw [List.length_drop, hlen]
    rcases hv' with ⟨z, hz, hzw, hmn, ho⟩ | hz
    · have hd0 : ds.drop m = [] := List.eq_nil_of_length_eq_zero (by omega)
      rw [hd0]
      exact ho
    · rw [hdl, hz]
      unfold cutV
      by_cases hcm' : c = m
      · rw [if_pos hcm']
        have hd0 : ds.drop m = [] := List.eq_nil_of_length_eq_zero (by omega)
        rw [hd0]
        have e1 : n - m = 0 := by omega
        have e2 : c - m = 0 := by omega
        rw [e1, e2]
        exact ⟨by simp [us], .inr ⟨g, off, 0, cur, rfl, hbg, hgw, Nat.le_refl _, by simp [maxLen], by omega, by simp [us]⟩⟩
      · rw [if_neg hcm']
        refine ⟨by rw [us_len, hdl]; omega, .inr ⟨g, off + m, c - m, cur, rfl, hbg, hgw, by omega, by omega, by omega, ?_⟩⟩
        have h1 : us (ds.drop m) = (us ds).drop m := by simp [us]
        rw [h1, ← htk, List.drop_take, List.drop_drop]
        congr 1
        omega
  · have htl : (ds.take m).length = m := by rw [List.length_take]; omega
    refine .vec w.heap.size sz g off c (ds.take m) hbase (by rw [htl]; exact hbox) ⟨⟨cur, hgw⟩, fun j d hd => ?_, fun off2 m2 c2 h hlt => ?_⟩
    · have hd2 : ds[j]? = some d := by
        rw [List.getElem?_take] at hd
        split at hd
        · exact hd
        · cases hd
      have h1 := hcell j _ (us_get hd2)
      rw [hadd] at h1
      exact (World.cell?_of_block (a := ⟨g, off + j, none⟩) (hheap g hglt hgk)).trans h1
    · rw [htl]
      exact (hfree g off2 m2 c2 h hlt hglt).2.2.2
  · intro g2 o es hs
    have hne : g2 ≠ k := hs.unlike hB (by decide)
    have h2 := hs.keep (hheap g2 hs.lt hne)
    refine ⟨h2.row, h2.at_, fun off2 m2 c2 h hlt => ?_⟩
    obtain ⟨rfl, h3, h4, _⟩ := hfree g2 off2 m2 c2 h hlt hs.lt
    have := hs.free off n c hv h4
    omega
  · rcases hv' with ⟨z, hz, hzw, _⟩ | hz
    · exact .inr ⟨z, by rw [hz]; rfl, hzw⟩
    · left
      rw [hz, hv]
      unfold cutV
      split <;> rfl

theorem cutW_blk {k : Nat} {f : FB} {W : World} (hB : Blk W k 202 f.cells) (v : Value) : Blk (cutW k W v) k 202 { f with v := v, hl := false, hd := false }.cells := by
  have h := ((hB.put 9 v).put 8 (.bool false)).put 7 (.bool false)
  simpa [FB.cells, cutW] using h
theorem cutW_touch (k : Nat) (W : World) (v : Value) : Touch (· = k) W (cutW k W v) :=
  (((Touch.refl (· = k) W).setCell (p := ⟨k, 9, none⟩) (fun _ => rfl) _).setCell (p := ⟨k, 8, none⟩) (fun _ => rfl) _).setCell (p := ⟨k, 7, none⟩) (fun _ => rfl) _

theorem encode_any (k n base : Nat) (f : FB) (ds : List Nat) (w : World) (hB : Blk w k 202 f.cells) (hO : OwnsAt w base 33 1 f.v n (us ds)) (hn1 : 0 < n) (hn : n < 4096) (ha : f.hd = false → ∀ d ∈ ds, ds[0]? = some d) (hbase : base ≤ w.heap.size) :
    Calls Try.prog 104 #[.pointer (some ⟨k, 7, none⟩)] w fun e w' => ∃ c a b v' hl' hd', e = .returned c ∧ Encoded w w' k base n f ds c a b v' hl' hd' := by
  cases hd : f.hd with
  | false => exact encode_alike k n base f ds w hB hO hn1 (by omega) hd (ha hd) hbase
  | true =>
    have hlen : ds.length = n := by have := hO.1; rw [us_len] at this; omega
    obtain ⟨g, off, c, cur, hv, hbg, hg, hnc, hcm, hcs, htk⟩ := hO.place hn1
    have hnil : ∀ m, n ≤ m → ds.drop m = [] := fun m hm => List.eq_nil_of_length_eq_zero (by rw [List.length_drop]; omega)
    by_cases h14 : n = 14
    · subst h14
      refine (encode_whole k c ⟨g, off, none⟩ f w hB hv hd).mono ?_
      rintro e w' ⟨rfl, rfl⟩
      refine ⟨_, _, _, _, false, false, rfl, vec_encoded (m := 14) (sz := 0) hB hO hv (Nat.le_refl _) (by omega) hbase (emptied_touch k _) (emptied_blk (hB.alloc _)) (fun _ d h => ?_) (.inl ⟨_, rfl, by simp, rfl, emptied_own (hB.alloc _).lt (by simp; omega)⟩)⟩
      rw [hnil 14 (Nat.le_refl _)] at h
      cases h
    · by_cases h7 : n < 7
      · refine (encode_few k n g off c f w hB hv hd h7 hn1 hnc).mono ?_
        rintro e w' ⟨rfl, rfl⟩
        refine ⟨_, _, _, _, false, false, rfl, vec_encoded (m := n) (sz := 1) hB hO hv (Nat.le_refl _) hn1 hbase (cutW_touch k _ _) (cutW_blk (hB.alloc _) _) (fun _ d h => ?_) (.inr rfl)⟩
        rw [hnil n (Nat.le_refl _)] at h
        cases h
      · by_cases h8 : n = 7
        · subst h8
          refine (encode_seven k g off c f w hB hv hd hnc).mono ?_
          rintro e w' ⟨rfl, rfl⟩
          refine ⟨_, _, _, _, false, false, rfl, vec_encoded (m := 7) (sz := 1) hB hO hv (Nat.le_refl _) hn1 hbase (cutW_touch k _ _) (cutW_blk (hB.alloc _) _) (fun _ d h => ?_) (.inr rfl)⟩
          rw [hnil 7 (Nat.le_refl _)] at h
          cases h
        · have hglt : g < w.heap.size := lt_of_block hg
          have hgk : g ≠ k := by
            rintro rfl
            unfold Blk at hB
            rw [hg] at hB
            injection hB with hB
            injection hB with _ hB
            exact absurd hB (by decide)
          have hO2 := hO
          rw [hv] at hO2
          obtain ⟨ad, had, _, _, hcell⟩ := hO2.cells (by omega)
          injection had with had
          subst had
          refine (encode_more k n g off c f (ds.drop 7) w hB hv hd (by omega) h14 hn hnc hgk (by rw [List.length_drop, hlen]) (fun j d hj => ?_) hglt).mono ?_
          · rw [List.getElem?_drop] at hj
            have h1 := hcell (7 + j) _ (us_get hj)
            have hadd : (⟨g, off, none⟩ : Addr).add (7 + j) = ⟨g, off + 7 + j, none⟩ := by unfold Addr.add; split <;> simp_all <;> omega
            rw [hadd] at h1
            exact h1
          · rintro e w' ⟨rfl, hl', hd', hb, ht, hal⟩
            have hcut : Value.slice (some ⟨g, off + 7, none⟩) (n - 7) (c - 7) = cutV g off n c 7 := by unfold cutV; rw [if_neg (by omega)]
            exact ⟨_, _, _, _, hl', hd', rfl, vec_encoded (m := 7) (sz := 1) hB hO hv (by omega) (by omega) hbase ht hb hal (.inr hcut)⟩
end Go.Proofs.Ytlkmmkphpiamcaa
