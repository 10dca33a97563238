/-
  What chunks tell: impl.opened. Condition: the chunks lie as they are told. By an AI agent.
-/
import Derived.Test.YtlkmmkphpiamcaaKo
namespace Go.Proofs.Ytlkmmkphpiamcaa
open Go.RowKit

def is64 (l : List Nat) : List Value := l.map fun d : Nat => .int .i64 (d : Int)
theorem is64_append (a b : List Nat) : is64 (a ++ b) = is64 a ++ is64 b := by simp [is64]
theorem info_intK : (Try.prog.info? 3).map (fun i => (i.zero, i.size, i.bytes)) = some (some (.int .i64 0), 1, 8) := by kernel_rfl
/-- The i-th chunk. -/
theorem ChsAt.at_ {w : World} {base : Nat} {v : Value} : ∀ {cl : List Value} {ps : List (List Nat)}, ChsAt w base v cl ps → ∀ (i : Nat) (c : Value), cl[i]? = some c → ∃ p, ps[i]? = some p ∧ ChAt w base v c p
  | [], _, _, i, c, h => by simp at h
  | c0 :: cl, p :: ps, h, 0, c, hc => by
    simp only [List.getElem?_cons_zero, Option.some.injEq] at hc
    subst hc
    exact ⟨p, rfl, h.1⟩
  | c0 :: cl, p :: ps, h, i + 1, c, hc => by
    obtain ⟨q, h1, h2⟩ := ChsAt.at_ h.2 i c (by simpa using hc)
    exact ⟨q, by simpa using h1, h2⟩
  | _ :: _, [], h, _, _, _ => h.elim

/-- A value of a pointer's type, asked whether it is of that type; of another one. -/
theorem assert_hit {P : Program} {t e xt : TypeId} (h : P.underlying t = some (.pointer e)) (v : Value) (w : World) : (Instr.typeAssert (.iface t v) xt t true).run P w = .ok (.tuple #[v, .bool true]) w := by
  simp [Instr.typeAssert, run_underlying h]
theorem assert_miss {P : Program} {t t' e xt : TypeId} {i : TypeInfo} (h : P.underlying t = some (.pointer e)) (hi : P.info? t = some i) (hz : i.zero = some (.pointer none)) (hne : t' ≠ t) (v : Value) (w : World) : (Instr.typeAssert (.iface t' v) xt t true).run P w = .ok (.tuple #[.pointer none, .bool false]) w := by
  simp [Instr.typeAssert, run_underlying h, hne, zeroValue, typeInfo, hi, hz]
theorem info_188K : (Try.prog.info? 188).map (fun i => (i.zero, i.size, i.bytes)) = some (some (.pointer none), 1, 8) := by kernel_rfl
theorem under188K : ∃ e : TypeId, Try.prog.underlying 188 = some (.pointer e) := ⟨190, by kernel_rfl⟩
theorem under191K : ∃ e : TypeId, Try.prog.underlying 191 = some (.pointer e) := ⟨193, by kernel_rfl⟩
theorem take_flatten_le (ps : List (List Nat)) : ∀ k, (ps.take k).flatten.length ≤ ps.flatten.length := by
  intro k
  have h : ps.flatten = (ps.take k).flatten ++ (ps.drop k).flatten := by rw [← List.flatten_append, List.take_append_drop]
  rw [h, List.length_append]
  omega

theorem take_next {ps : List (List Nat)} {k : Nat} {p : List Nat} (h : ps[k]? = some p) : (ps.take (k + 1)).flatten = (ps.take k).flatten ++ p := by
  rw [List.take_add_one, h]
  simp

theorem ChsAt.length {w : World} {base : Nat} {v : Value} : ∀ {cl : List Value} {ps : List (List Nat)}, ChsAt w base v cl ps → ps.length = cl.length
  | [], [], _ => rfl
  | _ :: _, _ :: _, h => by simp [ChsAt.length h.2]
  | [], _ :: _, h => h.elim
  | _ :: _, [], h => h.elim

/-- What is opened: so many symbols. -/
def OpenedPost (cnt : Nat) (T : List Nat) (w : World) (e : Ending) (w' : World) : Prop :=
  ∃ A' c', e = .returned (.slice A' (min T.length cnt) c') ∧ OwnsAt w' w.heap.size 3 1 (.slice A' (min T.length cnt) c') (min T.length cnt) (is64 (T.take cnt)) ∧ Below w.heap.size w w'
theorem opened_post {cnt M : Nat} {T : List Nat} {w w' : World} {A : Option Addr} {c : Nat} (h : OwnsAt w' w.heap.size 3 1 (.slice A M c) M (is64 T)) (hb : Below w.heap.size w w') (hM : T.length = M) (m : Nat) (hm : m = min M cnt) : OpenedPost cnt T w (.returned (.slice A m c)) w' := by
  subst hM hm
  refine ⟨A, c, rfl, ?_, hb⟩
  have h1 := h.first (k := min T.length cnt) (Nat.min_le_left _ _)
  rw [Nat.mul_one] at h1
  have e : (is64 T).take (min T.length cnt) = is64 (T.take cnt) := by
    unfold is64
    rw [← List.map_take]
    congr 1
    rw [← List.take_take, List.take_of_length_le (by rw [List.length_take]; exact Nat.min_le_right _ _)]
  rw [← e]
  exact h1

set_option maxRecDepth 100000 in
set_option maxHeartbeats 1000000 in
theorem opened_any (base c cnt : Nat) (A : Option Addr) (v : Value) (cl : List Value) (ps : List (List Nat)) (w : World) (ho : OwnsAt w base 187 1 (.slice A cl.length c) cl.length cl) (hc : ChsAt w base v cl ps) (hl : cl.length ≤ 3000) (hp : ps.flatten.length ≤ 3000) (hn : cnt ≤ 3000) (hsy : ∀ d ∈ ps.flatten, d < 65536) :
    Calls Try.prog 83 #[.slice A cl.length c, .int .i64 (cnt : Int)] w (OpenedPost cnt ps.flatten w) := by
  obtain ⟨i0, hi0, hz0, hz1, hz2⟩ := info_parts info_intK
  obtain ⟨e188, he188⟩ := under188K
  obtain ⟨e191, he191⟩ := under191K
  obtain ⟨j0, hj0, hjz, _, _⟩ := info_parts info_188K
  have hit188 := fun v w => assert_hit (P := Try.prog) (xt := 187) he188 v w
  have hit191 := fun v w => assert_hit (P := Try.prog) (xt := 187) he191 v w
  have mis191 := fun v w => assert_miss (P := Try.prog) (xt := 187) (t' := 191) he188 hj0 hjz (by decide) v w
  have HSY := Lib.hid hsy
  clear hsy
  have HO := Lib.hid ho
  have HC := Lib.hid hc
  clear ho hc
  go_enter Try.func83, Try.ntmps83
  go_wp2_with fail
  go_loopw [5, 14] (fun u i wr => ∃ k : Nat, k ≤ cl.length ∧ i = .int .i64 (k : Int) ∧ Hid (wr.ownsRow w.heap.size 3 1 u (ps.take k).flatten.length (is64 (ps.take k).flatten) ∧ Below w.heap.size w wr)) (fun _ i _ => cl.length - (intOf i).toNat)
  case atStart => exact ⟨0, by omega, rfl, World.ownsRow_nil _ _ _ _, Below.refl _ _⟩
  case round =>
    obtain ⟨k, hk, rfl, hinv⟩ := hrel
    by_cases hlt : k < cl.length
    · obtain ⟨ch, hch⟩ : ∃ ch, cl[k]? = some ch := ⟨_, List.getElem?_eq_getElem hlt⟩
      obtain ⟨p, hp1, hp2⟩ := HC.out.at_ k ch hch
      obtain ⟨ad, rfl, hadlt, _, hcell⟩ := HO.out.cells (by omega)
      have hcl := (hinv.out.2.cell (p := ad.add k) (by rw [addr_block]; exact hadlt)).trans (hcell k ch hch)
      have HP := Lib.hid hp1
      clear hcell hp1 hch
      cases hp2 with
      | run q sym n hq hb hn =>
        have b2 := (hb.below hinv.out.2 hb.lt).cell 2
        have b3 := (hb.below hinv.out.2 hb.lt).cell 3
        simp at b2 b3
        have hnext := take_next HP.out
        have hln := take_flatten_le ps (k + 1)
        rw [hnext, List.length_append, List.length_replicate] at hln
        obtain ⟨P0, hP0⟩ : ∃ P0, (ps.take k).flatten = P0 := ⟨_, rfl⟩
        rw [hP0] at hnext hln hinv
        have HNX := Lib.hid hnext
        have HI0 := Lib.hid hinv.out
        have HB := Lib.hid hb
        clear hnext hinv hP0 hb
        go_wp2_with fail
        go_loopw [5, 26] (fun u i wr2 => ∃ j : Nat, j ≤ n ∧ i = .int .u16 (j : Int) ∧ Hid (wr2.ownsRow w.heap.size 3 1 u (P0.length + j) (is64 (P0 ++ List.replicate j sym)) ∧ Below w.heap.size w wr2)) (fun _ i _ => n - (intOf i).toNat)
        case atStart => exact ⟨0, by omega, rfl, by have h := HI0.out; exact (by simpa using h : wr.ownsRow w.heap.size 3 1 u5 (P0.length + 0) (is64 (P0 ++ List.replicate 0 sym)) ∧ Below w.heap.size w wr)⟩
        case round =>
          obtain ⟨j, hj, rfl, hinv2⟩ := hrel
          have e2 := (HB.out.below hinv2.out.2 HB.out.lt).cell 2
          have e3 := (HB.out.below hinv2.out.2 HB.out.lt).cell 3
          simp at e2 e3
          by_cases hlt3 : j < n
          · have hsz := hinv2.out.2.size
            have hs16 : sym < 65536 := HSY.out sym (List.mem_flatten.2 ⟨_, List.mem_of_getElem? HP.out, List.mem_replicate.2 ⟨by omega, rfl⟩⟩)
            have hsw : wrap64 (sym : Int) = (sym : Int) := by unfold wrap64; omega
            have hjw : IntKind.u16.wrap ((j : Int) + 1) = ((j : Int) + 1) := by rw [IntKind.wrap_u16]; omega
            go_wp2_with (at_builtin; refine wpList_append_lies _ rfl _ _ _ rfl w.heap.size 3 i0 _ 1 8 Try.underlying62 hi0 hz0 hz1 hz2 rfl (by decide) u5 (P0.length + j) _ rfl (hinv2.out.1.alloc _) ⟨wr.heap.size, 0, none⟩ 1 1 [.int .i64 (sym : Int)] rfl rfl (World.news_of_block (cs := #[.int .i64 (sym : Int)]) (t := 3) (fr := (0, 0)) (heap_alloc_new wr _)) (by simp [Value.oneCell']) (by omega) (by simp only [maxLen]; omega) (by omega) (by simp; omega) (wr.heap.size + 1) (by simp) ?_; intro gg cap w1 hown1 hgrow hat hlt1)
            have hfin : w1.ownsRow w.heap.size 3 1 (.slice (some ⟨gg, 0, none⟩) (P0.length + j + 1) cap) (P0.length + (j + 1)) (is64 (P0 ++ List.replicate (j + 1) sym)) ∧ Below w.heap.size w w1 := by
              refine ⟨?_, (hinv2.out.2.alloc hsz _).grown hgrow (by simp; omega) fun g hg => (hinv2.out.1.lt g hg).1⟩
              rw [List.replicate_succ', ← List.append_assoc, is64_append]
              simpa [is64, Nat.add_assoc] using hown1
            exact ⟨⟨j + 1, by omega, rfl, hfin⟩, by simp [intOf]; omega⟩
          · obtain rfl : j = n := by omega
            go_wp2_with fail
            exact ⟨⟨k + 1, by omega, by go_num, by rw [HNX.out, List.length_append, List.length_replicate]; exact hinv2.out⟩, by simp [intOf]; omega⟩
      | vec q sz g o c2 _ hq hb hs =>
        have b3 := (hb.below hinv.out.2 hb.lt).cell 3
        simp at b3
        have hnext := take_next HP.out
        have hln := take_flatten_le ps (k + 1)
        rw [hnext, List.length_append] at hln
        obtain ⟨P0, hP0⟩ : ∃ P0, (ps.take k).flatten = P0 := ⟨_, rfl⟩
        rw [hP0] at hnext hln hinv
        obtain ⟨n, hdn⟩ : ∃ n, p.length = n := ⟨_, rfl⟩
        rw [hdn] at b3 hln
        have HDN := Lib.hid hdn
        have HNX := Lib.hid hnext
        have HI0 := Lib.hid hinv.out
        have HS := Lib.hid hs
        clear hnext hinv hP0 hb hs hdn
        go_wp2_with fail
        go_loopw [5, 45] (fun u i wr2 => ∃ j : Nat, j ≤ n ∧ i = .int .i64 (j : Int) ∧ Hid (wr2.ownsRow w.heap.size 3 1 u (P0.length + j) (is64 (P0 ++ p.take j)) ∧ Below w.heap.size w wr2)) (fun _ i _ => n - (intOf i).toNat)
        case atStart => exact ⟨0, by omega, rfl, by have h := HI0.out; exact (by simpa using h : wr.ownsRow w.heap.size 3 1 u5 (P0.length + 0) (is64 (P0 ++ p.take 0)) ∧ Below w.heap.size w wr)⟩
        case round =>
          obtain ⟨j, hj, rfl, hinv2⟩ := hrel
          by_cases hlt3 : j < n
          · have hsz := hinv2.out.2.size
            obtain ⟨d, hd⟩ : ∃ d, p[j]? = some d := ⟨_, List.getElem?_eq_getElem (by have := HDN.out; omega)⟩
            have hcd := (hinv2.out.2.cell (p := ⟨g, o + j, none⟩) HS.out.lt).trans (HS.out.at_ j d hd)
            have hs16 : d < 65536 := HSY.out d (List.mem_flatten.2 ⟨_, List.mem_of_getElem? HP.out, List.mem_of_getElem? hd⟩)
            have hsw : wrap64 (d : Int) = (d : Int) := by unfold wrap64; omega
            have HD := Lib.hid hd
            clear hd
            go_wp2_with (at_builtin; refine wpList_append_lies _ rfl _ _ _ rfl w.heap.size 3 i0 _ 1 8 Try.underlying62 hi0 hz0 hz1 hz2 rfl (by decide) u5 (P0.length + j) _ rfl (hinv2.out.1.alloc _) ⟨wr.heap.size, 0, none⟩ 1 1 [.int .i64 (d : Int)] rfl rfl (World.news_of_block (cs := #[.int .i64 (d : Int)]) (t := 3) (fr := (0, 0)) (heap_alloc_new wr _)) (by simp [Value.oneCell']) (by omega) (by simp only [maxLen]; omega) (by omega) (by simp; omega) (wr.heap.size + 1) (by simp) ?_; intro gg cap w1 hown1 hgrow hat hlt1)
            have hfin : w1.ownsRow w.heap.size 3 1 (.slice (some ⟨gg, 0, none⟩) (P0.length + j + 1) cap) (P0.length + (j + 1)) (is64 (P0 ++ p.take (j + 1))) ∧ Below w.heap.size w w1 := by
              refine ⟨?_, (hinv2.out.2.alloc hsz _).grown hgrow (by simp; omega) fun g hg => (hinv2.out.1.lt g hg).1⟩
              rw [List.take_add_one, HD.out, ← List.append_assoc, is64_append]
              simpa [is64, Nat.add_assoc] using hown1
            exact ⟨⟨j + 1, by omega, by go_num, hfin⟩, by simp [intOf]; omega⟩
          · obtain rfl : j = n := by omega
            go_wp2_with fail
            exact ⟨⟨k + 1, by omega, by go_num, by rw [HNX.out, List.length_append, HDN.out]; have h := hinv2.out; rw [← HDN.out, List.take_length] at h; rw [← HDN.out]; exact h⟩, by simp [intOf]; omega⟩
    · obtain rfl : k = cl.length := by omega
      obtain ⟨A5, c5, rfl⟩ := own_slice hinv.out.1
      have htk : (ps.take cl.length) = ps := List.take_of_length_le (by rw [HC.out.length]; exact Nat.le_refl _)
      rw [htk] at hinv
      obtain ⟨T, hT⟩ : ∃ T, ps.flatten = T := ⟨_, rfl⟩
      rw [htk]
      rw [hT] at hinv hp ⊢
      obtain ⟨M, hM⟩ : ∃ M, T.length = M := ⟨_, rfl⟩
      rw [hM] at hinv hp ⊢
      have hMc : M ≤ c5 := by obtain ⟨A6, c6, h1, h2, _⟩ := (OwnsAt.ofRow hinv.out.1).shape; injection h1 with _ _ h1; omega
      have HRD := Lib.hid (opened_post (cnt := cnt) (OwnsAt.ofRow hinv.out.1) hinv.out.2 hM)
      have HMM := Lib.hid hM
      have HT2 := Lib.hid hT
      clear htk hM hT
      by_cases hmc : M ≤ cnt
      · go_wp2_with fail
        go_ret
        rw [HT2.out]
        exact HRD.out _ (by omega)
      · go_wp2_with fail
        go_ret
        rw [HT2.out]
        exact HRD.out _ (by omega)
end Go.Proofs.Ytlkmmkphpiamcaa
