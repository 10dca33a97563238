/-
  spec.Permutation. Conditions: at most 40 choices. By an AI agent.
-/
import Derived.Test.YtlkmmkphpiamcaaQj
import Derived.Test.YtlkmmkphpiamcaaQo
import Derived.Deep.AppendLies
namespace Go.Proofs.Ytlkmmkphpiamcaa
open Go.RowKit

theorem info_int : (Try.prog.info? 3).map (fun i => (i.zero, i.size, i.bytes)) = some (some (.int .i64 0), 1, 8) := by kernel_rfl

def PermPost (n : Nat) (w : World) (e : Ending) (w' : World) : Prop :=
  Below w.heap.size w w' ∧ (e = .returned (.tuple #[.slice none 0 0, .bool false]) ∨
    ∃ A c ps, e = .returned (.tuple #[.slice A n c, .bool true]) ∧ Reads w' w'.heap.size 1 A n (I64n ps) ∧ ps.Perm (List.range n))

/-- The second loop. -/
structure PI (n k : Nat) (w0 w : World) (L O : Value) (lf ot : List Nat) : Prop where
  left : OwnsAt w w0.heap.size 3 1 L (n - k) (I64n lf)
  out : w.ownsRow w0.heap.size 3 1 O k (I64n ot)
  ne : O.ownBlock = none ∨ O.ownBlock ≠ L.ownBlock
  perm : (ot ++ lf).Perm (List.range n)
  below : Below w0.heap.size w0 w
theorem i64n_len (l : List Nat) : (I64n l).length = l.length := by simp [I64n]
theorem i64n_one (l : List Nat) : ∀ u ∈ I64n l, u.oneCell' = true := by
  intro u hu
  obtain ⟨x, _, rfl⟩ := List.mem_map.1 hu
  rfl
/-- Behind the append to what has been chosen. -/
theorem PI.mid {n k gg cap x : Nat} {w0 w w1 : World} {L O : Value} {lf ot : List Nat} {o : Obj} (h : PI n k w0 w L O lf ot)
    (hown : w1.ownsRow w0.heap.size 3 1 (.slice (some ⟨gg, 0, none⟩) (k + 1) cap) (k + 1) (I64n ot ++ [.int .i64 x])) (hgrow : (w.alloc o).grownBy w1 O.ownBlock) (hat : O.ownBlock = some gg ∨ gg = w.heap.size + 1) :
    OwnsAt w1 w0.heap.size 3 1 L (n - k) (I64n lf) ∧ w1.ownsRow w0.heap.size 3 1 (.slice (some ⟨gg, 0, none⟩) (k + 1) cap) (k + 1) (I64n (ot ++ [x])) ∧ L.ownBlock ≠ some gg ∧ Below w0.heap.size w0 w1 := by
  have hl := h.left.lt
  have hne : L.ownBlock = none ∨ L.ownBlock ≠ O.ownBlock := by
    rcases h.ne with h1 | h1
    · cases hL : L.ownBlock with
      | none => exact .inl rfl
      | some g => right; rw [h1]; simp
    · exact .inr (Ne.symm h1)
  refine ⟨(h.left.alloc o).grown hgrow hne, ?_, fun e => ?_, ?_⟩
  · simpa [I64n] using hown
  · have h2 := (hl gg e).2
    rcases hat with h3 | h3
    · rcases h.ne with h1 | h1
      · rw [h1] at h3; cases h3
      · exact h1 (h3.trans e.symm)
    · omega
  · exact (h.below.alloc h.below.size o).grown hgrow (by have := h.below.size; simp; omega) fun g hg => (h.out.lt g hg).1
theorem PI.done {n k at_ gg cap : Nat} {w0 w1 w2 : World} {L : Value} {lf ot : List Nat} {x : Nat} {A2 : Option Addr} {c2 m r : Nat}
    (hl : OwnsAt w1 w0.heap.size 3 1 L r (I64n lf)) (ho : w1.ownsRow w0.heap.size 3 1 (.slice (some ⟨gg, 0, none⟩) (k + 1) cap) (k + 1) (I64n (ot ++ [x]))) (hne : L.ownBlock ≠ some gg) (hb : Below w0.heap.size w0 w1)
    (hp : (ot ++ lf).Perm (List.range n)) (hx : lf[at_]? = some x)
    (hown : OwnsAt w2 w0.heap.size 3 1 (.slice A2 m c2) m (I64n (lf.take at_ ++ lf.drop (at_ + 1)))) (hm : m = n - (k + 1)) {v : Value} (hv : v.ownBlock = L.ownBlock) (hgrow : (w1.drew).grownBy w2 v.ownBlock)
    (hat : (Value.slice A2 m c2).ownBlock = v.ownBlock ∨ (Value.slice A2 m c2).ownBlock = some w1.heap.size) :
    PI n (k + 1) w0 w2 (.slice A2 m c2) (.slice (some ⟨gg, 0, none⟩) (k + 1) cap) (lf.take at_ ++ lf.drop (at_ + 1)) (ot ++ [x]) := by
  subst hm
  have hgl := ho.lt gg rfl
  rw [hv] at hgrow hat
  refine ⟨hown, ?_, .inr fun e => ?_, ?_, ?_⟩
  · exact World.ownsRow.kept (w := w1.drew) ho hgrow (.inr (fun e => hne e.symm))
  · have e' : some gg = (Value.slice A2 (n - (k + 1)) c2).ownBlock := e
    rcases hat with h | h
    · exact hne (h ▸ e'.symm)
    · rw [h] at e'
      simp at e'
      omega
  · refine List.Perm.trans ?_ hp
    have hat' := (List.getElem?_eq_some_iff.1 hx).1
    have hxe := (List.getElem?_eq_some_iff.1 hx).2
    have e : lf = lf.take at_ ++ x :: lf.drop (at_ + 1) := by rw [← hxe, ← List.drop_eq_getElem_cons hat', List.take_append_drop]
    conv => rhs; rw [e]
    rw [List.append_assoc, List.singleton_append]
    exact (List.perm_middle (a := x) (l₁ := lf.take at_) (l₂ := lf.drop (at_ + 1))).symm.append_left ot
  · exact (show Below w0.heap.size w0 w1.drew from ⟨hb.os, hb.tape, hb.output, hb.size, hb.block⟩).grown hgrow hb.size fun g hg => (hl.lt g hg).1

set_option maxRecDepth 1000000 in
set_option maxHeartbeats 800000 in
theorem perm_any (n c : Nat) (A : Option Addr) (l : List Int) (w : World) (hr : Reads w w.heap.size 1 A n (l.map (Value.int .i64))) (hn : n ≤ 40) (hl : ∀ x ∈ l, -9223372036854775808 ≤ x ∧ x ≤ 9223372036854775807) :
    Calls Try.prog 26 #[.slice A n c] w (PermPost n w) := by
  obtain ⟨i0, hi0, hz0, hz1, hz2⟩ := info_parts info_int
  have HR := Lib.hid hr
  have HL := Lib.hid hl
  clear hr hl
  go_enter Try.func26, Try.ntmps26
  go_wp2_with fail
  go_loopw [4, 12] (fun v i wr => ∃ k : Nat, k ≤ n ∧ i = .int .i64 k ∧ Hid (wr.ownsRow w.heap.size 3 1 v k (I64n (List.range k)) ∧ Below w.heap.size w wr)) (fun _ i _ => n - (intOf i).toNat)
  case atStart => exact ⟨0, by omega, rfl, World.ownsRow_nil _ _ _ _, Below.refl _ _⟩
  case round =>
    obtain ⟨k, hk, rfl, hinv⟩ := hrel
    by_cases hlt : k < n
    · have hkn : (k : Int) < (n : Int) := by omega
      have HI := Lib.hid hinv.out
      have hsz := hinv.out.2.size
      clear hinv
      go_wp2_with (at_builtin; refine wpList_append_lies _ rfl _ _ _ rfl w.heap.size 3 i0 _ 1 8 Try.underlying62 hi0 hz0 hz1 hz2 rfl (by decide) u4 k _ rfl (HI.out.1.alloc _) ⟨wr.heap.size, 0, none⟩ 1 1 [.int .i64 (k : Nat)] rfl rfl (World.news_of_block (cs := #[.int .i64 (k : Nat)]) (t := 3) (fr := (0, 0)) (heap_alloc_new wr _)) (by simp [Value.oneCell']) (by omega) (by simp only [maxLen]; omega) (by omega) (by simp; omega) (wr.heap.size + 1) (by simp) ?_; intro gg cap w1 hown1 hgrow hat hlt1)
      have hfin : w1.ownsRow w.heap.size 3 1 (.slice (some ⟨gg, 0, none⟩) (k + 1) cap) (k + 1) (I64n (List.range (k + 1))) ∧ Below w.heap.size w w1 := by
        refine ⟨by rw [List.range_succ]; simpa [I64n] using hown1, ?_⟩
        exact (HI.out.2.alloc hsz _).grown hgrow (by simp; omega) fun g hg => (HI.out.1.lt g hg).1
      exact ⟨⟨k + 1, by omega, by go_num, hfin⟩, by simp [intOf]; omega⟩
    · obtain rfl : k = n := by omega
      have HI := Lib.hid hinv.out
      clear hinv hlt
      obtain ⟨wl, rfl⟩ : ∃ wl : World, wl = wr := ⟨_, rfl⟩
      go_wp2_with fail
      have hst : PI k 0 w wl u4 (.slice none 0 0) (List.range k) [] := ⟨OwnsAt.ofRow HI.out.1, World.ownsRow_nil _ _ _ _, .inl rfl, List.Perm.refl _, HI.out.2⟩
      have HST := Lib.hid hst
      clear hst
      go_loopw [4, 5, 22] (fun v o i wr => ∃ (j : Nat) (lf ot : List Nat), j ≤ k ∧ i = .int .i64 j ∧ Hid (PI k j w wr v o lf ot)) (fun _ _ i _ => k - (intOf i).toNat)
      case atStart => exact ⟨0, _, _, by omega, rfl, HST.out⟩
      case round =>
        obtain ⟨j, lf, ot, hj, rfl, hinv⟩ := hrel
        have HP := Lib.hid hinv.out
        have hsz := hinv.out.below.size
        clear hinv
        by_cases hlt : j < k
        · have hjk : (j : Int) < (k : Int) := by omega
          obtain ⟨ad, cv, rfl, hab, hcx, hc⟩ := i64_at (HR.out.below HP.out.below) hlt
          obtain ⟨hc0, hc1⟩ := HL.out cv (List.mem_of_getElem? hcx)
          obtain ⟨L, cl, rfl, hlc, _⟩ := HP.out.left.shape
          obtain ⟨r, hr⟩ : ∃ r, k - j = r := ⟨_, rfl⟩
          rw [hr] at hlc
          have hr0 : 0 < r := by omega
          have hr40 : r ≤ 40 := by omega
          have hll : lf.length = r := by
            have h := HP.out.left.1
            rw [i64n_len] at h
            omega
          have HLL := Lib.hid hll
          have HLEFT : Hid (OwnsAt wr w.heap.size 3 1 (.slice L r cl) r (I64n lf)) := by
            have h := HP.out.left
            rwa [hr] at h
          have HR2 := Lib.hid hr
          rw [hr]
          clear hcx hll hr
          by_cases hneg : cv < 0
          · go_wp2_with fail
            go_ret2
            exact ⟨HP.out.below, .inl rfl⟩
          · have hnn : 0 ≤ cv := by omega
            obtain ⟨at_, hat⟩ : ∃ at_ : Nat, cv.tmod (r : Int) = (at_ : Int) := ⟨(cv.tmod (r : Int)).toNat, by
              have := Int.tmod_nonneg (r : Int) hnn
              omega⟩
            have hatr : at_ < r := by
              have := Int.tmod_lt_of_pos cv (show (0 : Int) < (r : Int) by omega)
              omega
            have hat2 : cv % (r : Int) = (at_ : Int) := by
              rw [← hat, Int.tmod_eq_emod_of_nonneg hnn]
            have hr0i : (r : Int) ≠ 0 := by omega
            have hr0b : ((r : Int) == 0) = false := by simp; omega
            obtain ⟨x, hx⟩ : ∃ x, lf[at_]? = some x := ⟨_, List.getElem?_eq_getElem (by rw [HLL.out]; exact hatr)⟩
            obtain ⟨gl, offl, hLa, hgl, hgb, hcell⟩ := HLEFT.out.lits hr0
            subst hLa
            have y0 := hcell at_ (.int .i64 (x : Nat)) (by simp [I64n, hx])
            have hari : (at_ : Int) < (r : Int) := by omega
            have HX := Lib.hid hx
            have HAT := Lib.hid (And.intro hat hat2)
            clear hcell hx
            go_upto_region 13 with fail
            clear hat hat2 hnn hr0i hr0b hc0 hc1 hc
            go_wp2_with (at_builtin; refine wpList_append_lies _ rfl _ _ _ rfl w.heap.size 3 i0 _ 1 8 Try.underlying62 hi0 hz0 hz1 hz2 rfl (by decide) u5 j _ rfl (HP.out.out.alloc _) ⟨wr.heap.size, 0, none⟩ 1 1 [.int .i64 (x : Nat)] rfl rfl (World.news_of_block (cs := #[.int .i64 (x : Nat)]) (t := 3) (fr := (0, 0)) (heap_alloc_new wr _)) (by simp [Value.oneCell']) (by omega) (by simp only [maxLen]; omega) (by omega) (by simp; omega) (wr.heap.size + 1) (by simp) ?_; intro gg cap w1 hown1 hgrow1 hat1 hlt1; have hmid := HP.out.mid hown1 hgrow1 hat1; have HMID := Lib.hid hmid; clear hmid hown1 hgrow1 hat1)
            have hm1 : OwnsAt w1 w.heap.size 3 1 (.slice (some ⟨gl, offl, none⟩) r cl) r (I64n lf) := by have h := HMID.out.1; rwa [HR2.out] at h
            have HM1 := Lib.hid hm1
            have hb1z : w.heap.size ≤ w1.heap.size := HMID.out.2.2.2.size
            obtain ⟨at1, hat1⟩ : ∃ at1, at1 = at_ + 1 := ⟨_, rfl⟩
            have hk1w : (at_ : Int) + 1 = (at1 : Int) := by omega
            have hk1n : at1 ≤ r := by omega
            have hk1v : IntKind.i64.wrap (at1 : Int) = (at1 : Int) := IntWalk.i64_in _ (by omega)
            have hk1i : (at1 : Int) ≤ (r : Int) := by omega
            have hkc : at_ ≤ cl := by omega
            have hb1 : at_ + (r - at1) ≤ maxLen := by simp only [maxLen]; omega
            have hb2 : (at_ + (r - at1)) * 8 ≤ 140737488355328 := by omega
            obtain ⟨D, hD⟩ : ∃ D, (if cl = at1 then some ⟨gl, offl, none⟩ else some ⟨gl, offl + at1, none⟩ : Option Addr) = D := ⟨_, rfl⟩
            have hDk : at1 < r → D = (some (⟨gl, offl, none⟩ : Addr)).map (·.add (at1 * 1)) := fun h => by
              rw [← hD, if_neg (by omega)]
              simp only [Option.map_some, Option.some.injEq, Nat.mul_one]
              unfold Addr.add
              split <;> simp_all
            have HSRC : Hid (∀ m : Nat, Src Try.prog 1 62 (.slice D (r - at1) (cl - at1)) (r - at1) ((I64n lf).drop (at1 * 1)) (w1.drewN m)) :=
              fun m => (HM1.out.drewN m).srcDrop Try.underlying62 (i64n_one lf) hk1n hDk
            have HCUT : Hid (∀ m : Nat, OwnsAt (w1.drewN m) w.heap.size 3 1 (.slice (some ⟨gl, offl, none⟩) at_ at_) at_ ((I64n lf).take (at_ * 1))) := fun m => (HM1.out.drewN m).cut (by omega)
            have HYS : Hid ((I64n lf).take (at_ * 1) ++ (I64n lf).drop (at1 * 1) = I64n (lf.take at_ ++ lf.drop (at_ + 1))) := by
              show _ = _
              rw [hat1, Nat.mul_one, Nat.mul_one]
              simp [I64n, List.map_take, List.map_drop]
            have HLEN : Hid (at_ + (r - at1) = k - (j + 1)) := by
              show _ = _
              have := HR2.out
              omega
            clear hat1 hDk hm1
            obtain ⟨T1, hT1⟩ : ∃ T1, (I64n lf).take (at_ * 1) = T1 := ⟨_, rfl⟩
            obtain ⟨D1, hD1⟩ : ∃ D1, (I64n lf).drop (at1 * 1) = D1 := ⟨_, rfl⟩
            obtain ⟨r1, hr1⟩ : ∃ r1, r - at1 = r1 := ⟨_, rfl⟩
            obtain ⟨c1, hc1⟩ : ∃ c1, cl - at1 = c1 := ⟨_, rfl⟩
            have HSRC1 : Hid (Src Try.prog 1 62 (.slice D r1 c1) r1 D1 w1.drew) := by rw [← hD1, ← hr1, ← hc1]; exact HSRC.out 1
            have HCUT1 : Hid (OwnsAt w1.drew w.heap.size 3 1 (.slice (some ⟨gl, offl, none⟩) at_ at_) at_ T1) := by rw [← hT1]; exact HCUT.out 1
            rw [hT1, hD1] at HYS
            rw [hr1] at HLEN hb1 hb2
            clear hT1 hD1 HSRC HCUT
            go_region_law
              (refine step_append_at _ rfl (.tmp 42) (.tmp 46) 62 62 rfl w.heap.size 3 i0 _ 1 8 Try.underlying62 hi0 hz0 hz1 hz2 rfl (by decide) (.slice (some ⟨gl, offl, none⟩) at_ at_) at_ T1 ?_ HCUT1.out (.slice D r1 c1) r1 D1 ?_ HSRC1.out hb1 hb2 hb1z ?_; go_simp; go_simp; intro A2 c2 w2 own2 hg2 hat2 hsp2; rw [HYS.out] at own2; have hdone := PI.done (v := .slice (some ⟨gl, offl, none⟩) at_ at_) HM1.out HMID.out.2.1 HMID.out.2.2.1 HMID.out.2.2.2 HP.out.perm HX.out own2 HLEN.out rfl hg2 hat2; have HDONE := Lib.hid hdone; clear hdone own2 hg2 hat2 hsp2)
            all_goals
              go_wp2_with fail
              exact ⟨⟨j + 1, _, _, by omega, by go_num, HDONE.out⟩, by simp [intOf]; omega⟩
        · obtain rfl : j = k := by omega
          obtain ⟨O, co, rfl⟩ := own_slice HP.out.out
          have hlf : lf = [] := by
            have h := HP.out.left.1
            rw [i64n_len] at h
            exact List.eq_nil_of_length_eq_zero (by omega)
          have HPM := Lib.hid (show ot.Perm (List.range j) by have h := HP.out.perm; rwa [hlf, List.append_nil] at h)
          clear hlf
          go_wp2_with fail
          go_ret2
          exact ⟨HP.out.below, .inr ⟨O, co, ot, rfl, Reads.own HP.out.out, HPM.out⟩⟩
end Go.Proofs.Ytlkmmkphpiamcaa
