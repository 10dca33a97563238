/-
  spec.Missing; an append of whatever lies at an address. Conditions: sizes up to 65536, at most 100 skipped. By an AI agent.
-/
import Derived.Test.YtlkmmkphpiamcaaN
import Derived.Test.YtlkmmkphpiamcaaI
namespace Go.Proofs.Ytlkmmkphpiamcaa
open Go.RowKit

section
variable {P : Program} (w : World)
/-- append of what lies at an address, at the operation: the new value is a letter. -/
theorem wp_append_src {o : Oper} {a : Act} {K : Act → World → Prop} {Q : Exit → Act → World → Prop} (s x : Operand) (t : TypeId)
    (ho : o.op = .call { callee := .builtin .append, args := #[s, x], argTypes := #[t, t] })
    (base : Nat) (e : TypeId) (i : TypeInfo) (z : Value) (size bytes : Nat) (ht : P.underlying t = some (.slice e)) (hi : P.info? e = some i) (hz : i.zero = some z)
    (hsize : i.size = size) (hby : i.bytes = bytes) (hzs : z.cells.size = size) (hsz : 0 < size)
    (v : Value) (n : Nat) (xs : List Value) (hs : a.eval s = v) (hown : w.ownsRow base e size v n xs)
    (ad : Addr) (m c : Nat) (news : List Value) (hx : a.eval x = .slice (some ad) m c) (hl : news.length = m * size) (hnews : ∀ j u, news[j]? = some u → w.cell? (ad.add j) = some u) (h1 : ∀ u ∈ news, u.oneCell' = true)
    (h63 : n + m ≤ maxLen) (hbytes : (n + m) * bytes ≤ 140737488355328) (hbase : base ≤ w.heap.size)
    (h : ∀ v' w', w'.ownsRow base e size v' (n + m) (xs ++ news) → w.grownBy w' v.ownBlock → K (a.put o.dst v') w') : o.wp P a w K Q := by
  obtain ⟨v', w', hrun, h2, h3, _⟩ := run_append_own_at (P := P) w base t o.type e i z size bytes ht hi hz hsize hby hzs hsz v n xs hown ad m c news hl hnews h1 h63 hbytes hbase
  unfold Oper.wp execOp
  simp only [ho, resolve, invoke, builtin, Sem.run_bind, Sem.run_pure, Result.andThen_ok, List.map_toArray, List.map_cons, List.map_nil, hs, hx, hrun]
  exact h v' w' h2 h3

theorem step_append_src {ops : Array Oper} {o : Oper} {a : Act} {K : Act → World → Prop} {Q : Exit → Act → World → Prop} {E : Prop} (hgd : o.guard = none) (s x : Operand) (t : TypeId)
    (ho : o.op = .call { callee := .builtin .append, args := #[s, x], argTypes := #[t, t] })
    (base : Nat) (e : TypeId) (i : TypeInfo) (z : Value) (size bytes : Nat) (ht : P.underlying t = some (.slice e)) (hi : P.info? e = some i) (hz : i.zero = some z)
    (hsize : i.size = size) (hby : i.bytes = bytes) (hzs : z.cells.size = size) (hsz : 0 < size)
    (v : Value) (n : Nat) (xs : List Value) (hs : a.eval s = v) (hown : w.ownsRow base e size v n xs)
    (ad : Addr) (m c : Nat) (news : List Value) (hx : a.eval x = .slice (some ad) m c) (hl : news.length = m * size) (hnews : ∀ j u, news[j]? = some u → w.cell? (ad.add j) = some u) (h1 : ∀ u ∈ news, u.oneCell' = true)
    (h63 : n + m ≤ maxLen) (hbytes : (n + m) * bytes ≤ 140737488355328) (hbase : base ≤ w.heap.size)
    (h : ∀ v' w', w'.ownsRow base e size v' (n + m) (xs ++ news) → w.grownBy w' v.ownBlock → K (a.put o.dst v') w') :
    if Region.wanted o (yielded ops a.tmps) = true then Oper.wp P o a w K Q else E := by
  have hw : Region.wanted o (yielded ops a.tmps) = true := by simp [Region.wanted, hgd]
  rw [if_pos hw]
  exact wp_append_src w s x t ho base e i z size bytes ht hi hz hsize hby hzs hsz v n xs hs hown ad m c news hx hl hnews h1 h63 hbytes hbase h
end

/-- The numbers from f on, so many of them, that are none of some. -/
def specMiss (xs : List Int) (f : Int) (r : Nat) : List Int := ((List.range r).map fun e : Nat => f + (e : Int)).filter fun y => decide (y ∉ xs)
theorem specMiss_succ (xs : List Int) (f : Int) (r : Nat) : specMiss xs f (r + 1) = specMiss xs f r ++ (if f + (r : Int) ∈ xs then [] else [f + (r : Int)]) := by
  by_cases h : f + (r : Int) ∈ xs <;> simp [specMiss, List.range_succ, h]
theorem specMiss_len (xs : List Int) (f : Int) (r : Nat) : (specMiss xs f r).length ≤ r := by
  have := List.length_filter_le (fun y => decide (y ∉ xs)) ((List.range r).map fun e : Nat => f + (e : Int))
  simpa [specMiss] using this
def Low16 (l : List Int) : List Value := l.map fun y => Value.int .u16 (y % 65536)

def SMissPost (xs : List Int) (size skip : Int) (w : World) (e : Ending) (w' : World) : Prop :=
  Below w.heap.size w w' ∧ (e = .returned (.tuple #[.slice none 0 0, .bool false]) ∨
    ∃ f h A c, EndsFact xs f h size ∧ e = .returned (.tuple #[.slice A (specMiss xs f (h - skip + 1 - f).toNat).length c, .bool true]) ∧
      Reads w' w'.heap.size 1 A (specMiss xs f (h - skip + 1 - f).toNat).length (Low16 (specMiss xs f (h - skip + 1 - f).toNat)))

def SmInv (xs : List Int) (f : Int) (w : World) (r : Nat) (v : Value) (wr : World) : Prop :=
  wr.ownsRow w.heap.size 33 1 v (specMiss xs f r).length (Low16 (specMiss xs f r)) ∧ Below w.heap.size w wr

theorem sminv_keep {xs : List Int} {f : Int} {w wr : World} {r : Nat} {v : Value} (h : SmInv xs f w r v wr) (hm : f + (r : Int) ∈ xs) : SmInv xs f w (r + 1) v wr := by
  obtain ⟨h1, h2⟩ := h
  have e : specMiss xs f (r + 1) = specMiss xs f r := by rw [specMiss_succ, if_pos hm, List.append_nil]
  exact ⟨by rw [e]; exact h1, h2⟩
theorem sminv_push {xs : List Int} {f : Int} {w wr w1 : World} {r gg cap : Nat} {v : Value} {o : Obj} (h : SmInv xs f w r v wr) (hm : f + (r : Int) ∉ xs)
    (hown1 : w1.ownsRow w.heap.size 33 1 (.slice (some ⟨gg, 0, none⟩) ((specMiss xs f r).length + 1) cap) ((specMiss xs f r).length + 1) (Low16 (specMiss xs f r) ++ [.int .u16 ((f + (r : Int)) % 65536)]))
    (hgrow : (wr.alloc o).grownBy w1 v.ownBlock) : SmInv xs f w (r + 1) (.slice (some ⟨gg, 0, none⟩) ((specMiss xs f r).length + 1) cap) w1 := by
  obtain ⟨h1, h2⟩ := h
  have e : specMiss xs f (r + 1) = specMiss xs f r ++ [f + (r : Int)] := by rw [specMiss_succ, if_neg hm]
  refine ⟨?_, ?_⟩
  · rw [e]
    simpa [Low16] using hown1
  · exact (h2.alloc h2.size o).grown hgrow (by have := h2.size; simp; omega) fun g hg => (h1.lt g hg).1

set_option maxRecDepth 100000 in
set_option maxHeartbeats 800000 in
theorem smiss_any (n c : Nat) (A : Option Addr) (xs : List Int) (size skip : Int) (w : World) (hr : Reads w w.heap.size 1 A n (xs.map (Value.int .i64))) (hn : n ≤ 9223372036854775807)
    (hx : ∀ x ∈ xs, 0 ≤ x ∧ x ≤ 140737488355328) (hs0 : 0 ≤ skip) (hs1 : skip ≤ 100) (hz : size ≤ 65536) :
    Calls Try.prog 17 #[.slice A n c, .int .i64 size, .int .i64 skip] w (SMissPost xs size skip w) := by
  obtain ⟨i0, hi0, hz0, hz1, hz2⟩ := info_parts info_u16
  have HR := Lib.hid hr
  have HX := Lib.hid hx
  have HZ := Lib.hid hz
  clear hr hx hz
  go_enter Try.func17, Try.ntmps17
  go_wp2_with fail
  refine (ends_any n c w.heap.size A xs size w HR.out hn HX.out).mono ?_
  rintro e w1 ⟨⟨m, rfl⟩, f, h, b, rfl, f0, h0, h1, hb⟩
  cases b with
  | false =>
    clear hb
    go_wp2_with fail
    go_ret2
    exact ⟨below_drewN (Below.refl _ _) m, .inl rfl⟩
  | true =>
    have hE := hb rfl
    have hfh : f ≤ h ∧ h - f < 65536 := by
      have := HZ.out
      obtain ⟨_, q2, q3, q4⟩ := hE
      have := q3 h q2
      omega
    obtain ⟨hf1, hf2⟩ := hfh
    have HE := Lib.hid hE
    clear hb hE
    obtain ⟨R, hR⟩ : ∃ R, (h - skip + 1 - f).toNat = R := ⟨_, rfl⟩
    have HRR := Lib.hid hR
    clear hR
    go_wp2_with fail
    go_loopw [11, 12] (fun v i wr => ∃ (r : Nat) (y : Int), i = .int .i64 y ∧ 0 ≤ y ∧ f ≤ y ∧ y ≤ h + 1 ∧ Hid (y = f + (r : Int) ∧ r ≤ R ∧ SmInv xs f w r v wr)) (fun _ i _ => (h + 1 - intOf i).toNat)
    case atStart => exact ⟨0, f, rfl, f0, by omega, by omega, by omega, Nat.zero_le _, World.ownsRow_nil _ _ _ _, below_drewN (Below.refl _ _) m⟩
    case round =>
      obtain ⟨r, y, rfl, y0, yf, yh, hinv⟩ := hrel
      have hown := hinv.out.2.2.1
      have hbw := hinv.out.2.2.2
      have HOWN := Lib.hid hown
      have HBW := Lib.hid hbw
      have HB0 := hbw.size
      have hlen : (specMiss xs f r).length ≤ 65536 := by
        have h1 := specMiss_len xs f r
        have h2 := hinv.out.2.1
        have h3 := HRR.out
        omega
      obtain ⟨k, hk⟩ : ∃ k, (specMiss xs f r).length = k := ⟨_, rfl⟩
      rw [hk] at hlen
      rw [hk] at HOWN
      have HK := Lib.hid hk
      clear hown hbw hk
      by_cases hle : y ≤ h - skip
      · by_cases hmem : y ∈ xs
        · have HM := Lib.hid hmem
          have hdec : decide (y ∈ xs) = true := decide_eq_true hmem
          clear hmem
          go_wp2_with (go_at_call 39; refine (within_any n c w.heap.size A xs y wr (HR.out.below HBW.out) hn).mono ?_; rw [hdec]; rintro e w' ⟨rfl, rfl⟩)
          refine ⟨⟨r + 1, y + 1, rfl, by omega, by omega, by omega, by have := hinv.out.1; omega, by have := hinv.out.1; have := HRR.out; omega, sminv_keep hinv.out.2.2 (by rw [← hinv.out.1]; exact HM.out)⟩, by simp [intOf]; omega⟩
        · have HM := Lib.hid hmem
          have hdec : decide (y ∈ xs) = false := decide_eq_false hmem
          clear hmem
          go_wp2_with (first
            | (go_at_call 39; refine (within_any n c w.heap.size A xs y wr (HR.out.below HBW.out) hn).mono ?_; rw [hdec]; rintro e w' ⟨rfl, rfl⟩)
            | (at_builtin; refine wpList_append_lies _ rfl _ _ _ rfl w.heap.size 33 i0 _ 1 2 Try.underlying22 hi0 hz0 hz1 hz2 rfl (by omega) u11 k _ rfl (HOWN.out.alloc _) ⟨wr.heap.size, 0, none⟩ 1 1 [.int .u16 (IntKind.u16.wrap y)] rfl rfl (World.news_of_block (cs := #[.int .u16 (IntKind.u16.wrap y)]) (t := 33) (fr := (0, 0)) (heap_alloc_new wr _)) (by simp [Value.oneCell']) (by omega) (by simp only [maxLen]; omega) (by omega) (by simp; omega) (wr.heap.size + 1) (by simp) ?_; intro gg cap w1 hown1 hgrow hat hlt1))
          have hown2 := hown1
          rw [IntKind.wrap_u16] at hown2
          have hy := hinv.out.1
          rw [← HK.out, hy] at hown2
          refine ⟨⟨r + 1, y + 1, rfl, by omega, by omega, by omega, by omega, by have := HRR.out; omega, ?_⟩, by simp [intOf]; omega⟩
          rw [← HK.out]
          exact sminv_push hinv.out.2.2 (by rw [← hy]; exact HM.out) hown2 hgrow
      · obtain ⟨A1, c1, hA1⟩ := own_slice HOWN.out
        have hRr : r = R := by
          have := HRR.out
          have := hinv.out.1
          have := hinv.out.2.1
          omega
        have HRr := Lib.hid hRr
        subst hA1
        clear hRr
        go_wp2_with fail
        go_ret2
        refine ⟨HBW.out, .inr ⟨f, h, A1, c1, HE.out, ?_, ?_⟩⟩
        · rw [HRR.out, ← HRr.out, HK.out]; rfl
        · rw [HRR.out, ← HRr.out, HK.out]
          exact Reads.own HOWN.out
end Go.Proofs.Ytlkmmkphpiamcaa
