/-
  impl.Queue; spec.Apart. Conditions: at most 60 calls. By an AI agent.
-/
import Derived.Test.YtlkmmkphpiamcaaQl
namespace Go.Proofs.Ytlkmmkphpiamcaa
open Go.RowKit

/-- quietly over a closure that returns: true. -/
theorem quietly_43 (p1 p2 p3 : Value) (w : World) (R : World → Prop)
    (hg : Calls Try.prog 43 #[p1, p2, p3] (w.alloc (.cells #[.bool false] 4)) fun e w' => e = .returned (.tuple #[]) ∧ R w' ∧ Blk w' w.heap.size 4 #[.bool false]) :
    Calls Try.prog 32 #[.func (.func 43) #[] #[p1, p2, p3]] w fun e w' => e = .returned (.bool true) ∧ ∃ w1, R w1 ∧ w' = w1.setCell ⟨w.heap.size, 0, none⟩ (.bool true) := by
  have H := Lib.hid hg
  clear hg
  have hmf : ∀ (fn : Fn) (first cap : Array Value) (w : World), (Instr.makeFunc fn first cap).run Try.prog w = .ok (.func fn first cap) w := fun _ _ _ _ => rfl
  go_enter_defers Try.func32, Try.ntmps32
  go_wp2_with fail
  refine H.out.mono ?_
  rintro e w1 ⟨rfl, hR, hb⟩
  have hc := hb.cell 0
  have hf := hb.free 0
  simp only [List.getElem?_toArray, List.getElem?_cons_zero] at hc
  have HR := Lib.hid hR
  have HB := Lib.hid hb
  clear hR hb
  go_wp2_with fail
  refine leaves_cons (f := 61) (args := #[.pointer (some ⟨w.heap.size, 0, none⟩)]) (by simp) (by simp [go_sem]) ?_
  refine (catch_idle ⟨w.heap.size, 0, none⟩ _).mono ?_
  rintro e u' w'' ⟨rfl, rfl, rfl⟩
  have hb2 : (w1.setCell ⟨w.heap.size, 0, none⟩ (.bool true)).cell? ⟨w.heap.size, 0, none⟩ = some (.bool true) := by
    simp [go_sem, hc]
  simp [Leaves, settle, results, Try.results32, go_sem, hb2]
  exact ⟨w1, HR.out, rfl⟩

theorem blk_mk' {w : World} {k : Nat} {t : TypeId} {cs : Array Value} (h : k = w.heap.size) : Blk (w.alloc (.cells cs t)) k t cs := by subst h; exact Blk.new w t cs

theorem queue_quiet (bl bq bo g n c : Nat) (A : Option Addr) (ss : List Stp) (w : World)
    (hbl : Blk w bl 42 #[.slice A n c]) (hbq : Blk w bq 95 #[.pointer (some ⟨g, 0, none⟩)]) (hbo : Blk w bo 47 #[.slice none 0 0]) (hg : Blk w g 129 #[.pointer none, .int .u16 0])
    (hr : StepsAt w w.heap.size A n ss) (hA : 0 < n → ∀ a, A = some a → a.block ≠ bo ∧ a.block ≠ g) (hn : n ≤ 60) (hss : ∀ s ∈ ss, s.what ≤ 5 ∧ s.seq ≤ 65535 ∧ s.time ≤ 4294967295) :
    Calls Try.prog 32 #[.func (.func 43) #[] #[.pointer (some ⟨bl, 0, none⟩), .pointer (some ⟨bq, 0, none⟩), .pointer (some ⟨bo, 0, none⟩)]] w
      fun e w' => e = .returned (.bool true) ∧ Touch (fun b => b = bo ∨ b = g) w w' ∧ ∃ v, Blk w' bo 47 #[v] ∧ w'.ownsRow (w.heap.size + 1) 59 3 v n (anL (qOut ss)) := by
  have lo := hbo.lt
  have lg := hg.lt
  refine (quietly_43 _ _ _ w (fun w' => QInv bo g n (w.heap.size + 1) ss (w.alloc (.cells #[.bool false] 4)) w') ?_).mono ?_
  · have hq : QAt (w.alloc (.cells #[.bool false] 4)).heap.size (w.alloc (.cells #[.bool false] 4)) g [] := ⟨hg.alloc _, trivial, by simp, by simp⟩
    have hr2 : StepsAt (w.alloc (.cells #[.bool false] 4)) (w.alloc (.cells #[.bool false] 4)).heap.size A n ss := by
      have h := hr.keep (w' := w.alloc (.cells #[.bool false] 4)) fun p hp => World.cell?_of_block (Below.heap_alloc w _ p.block hp)
      refine ⟨h.1, fun hn => ?_⟩
      obtain ⟨ga, off, e, hb, hc⟩ := h.2 hn
      exact ⟨ga, off, e, by simp; omega, hc⟩
    refine (queue_closure bl bq bo g n c A ss _ (hbl.alloc _) (hbq.alloc _) (hbo.alloc _) hq hr2 hA hn hss).mono ?_
    rintro e w' ⟨rfl, h⟩
    have hs : (w.alloc (.cells #[.bool false] 4)).heap.size = w.heap.size + 1 := by simp
    rw [hs] at h
    obtain ⟨ns, v, hq, _⟩ := id h
    exact ⟨rfl, h, (Blk.new w 4 _).touch hq.touch (by omega)⟩
  · rintro e w' ⟨rfl, w1, ⟨ns, v, hq, _⟩, rfl⟩
    have t1 : Touch (fun b => b = bo ∨ b = g) w w1 := ((Touch.refl _ w).alloc _).trans hq.touch fun _ _ h => h
    refine ⟨rfl, t1.setCell (fun h => absurd h (by simp)) _, v, hq.out.far (by simp; omega) _, ?_⟩
    have hlen : ss.take n = ss := List.take_of_length_le (by have := hr.1; omega)
    have ho := own_far hq.own (p := ⟨w.heap.size, 0, none⟩) (by simp) (.bool true)
    rwa [hlen] at ho

def QueuePost (ss : List Stp) (n : Nat) (w : World) (e : Ending) (w' : World) : Prop :=
  Below w.heap.size w w' ∧ ∃ A' c', e = .returned (.slice A' n c') ∧ w'.ownsRow w.heap.size 59 3 (.slice A' n c') n (anL (qOut ss))
theorem own_low' {w : World} {base base' : Nat} {e : TypeId} {size : Nat} {v : Value} {n : Nat} {xs : List Value} (h : w.ownsRow base' e size v n xs) (hb : base ≤ base') : w.ownsRow base e size v n xs := by
  obtain ⟨h1, h2⟩ := h
  refine ⟨h1, ?_⟩
  rcases h2 with h2 | ⟨g, cap, cur, hv, hg, hh⟩
  · exact .inl h2
  · exact .inr ⟨g, cap, cur, hv, by omega, hh⟩

set_option maxHeartbeats 800000 in
theorem queue_any (n c : Nat) (A : Option Addr) (ss : List Stp) (w : World)
    (hr : StepsAt w w.heap.size A n ss) (hn : n ≤ 60) (hss : ∀ s ∈ ss, s.what ≤ 5 ∧ s.seq ≤ 65535 ∧ s.time ≤ 4294967295) :
    Calls Try.prog 21 #[.slice A n c] w (QueuePost ss n w) := by
  have hmf : ∀ (fn : Fn) (first cap : Array Value) (w : World), (Instr.makeFunc fn first cap).run Try.prog w = .ok (.func fn first cap) w := fun _ _ _ _ => rfl
  have HR := Lib.hid hr
  have HSS := Lib.hid hss
  clear hr hss
  go_enter Try.func21, Try.ntmps21
  go_wp2_with fail
  refine (newQueue_any _).mono ?_
  rintro e w1 ⟨rfl, hw1⟩
  subst hw1
  go_wp2_with fail
  have hA : 0 < n → ∀ a, A = some a → a.block ≠ w.heap.size + 1 ∧ a.block ≠ w.heap.size + 1 + 1 := by
    rintro h0 a rfl
    obtain ⟨ga, off, e, hb, _⟩ := HR.out.2 h0
    injection e with e
    subst e
    show ga ≠ _ ∧ ga ≠ _
    omega
  have hW : StepsAt ((((w.alloc (.cells #[.slice A n c] 42)).alloc (.cells #[.slice none 0 0] 47)).alloc (.cells #[.pointer none, .int .u16 0] 129)).alloc (.cells #[.pointer (some ⟨w.heap.size + 1 + 1, 0, none⟩)] 95))
      ((((w.alloc (.cells #[.slice A n c] 42)).alloc (.cells #[.slice none 0 0] 47)).alloc (.cells #[.pointer none, .int .u16 0] 129)).alloc (.cells #[.pointer (some ⟨w.heap.size + 1 + 1, 0, none⟩)] 95)).heap.size A n ss := by
    have hT : Touch Nowhere w ((((w.alloc (.cells #[.slice A n c] 42)).alloc (.cells #[.slice none 0 0] 47)).alloc (.cells #[.pointer none, .int .u16 0] 129)).alloc (.cells #[.pointer (some ⟨w.heap.size + 1 + 1, 0, none⟩)] 95)) := ((((Touch.refl _ w).alloc _).alloc _).alloc _).alloc _
    have h := HR.out.keep (w' := ((((w.alloc (.cells #[.slice A n c] 42)).alloc (.cells #[.slice none 0 0] 47)).alloc (.cells #[.pointer none, .int .u16 0] 129)).alloc (.cells #[.pointer (some ⟨w.heap.size + 1 + 1, 0, none⟩)] 95))) fun p hp => hT.cell hp (fun h => h)
    refine ⟨h.1, fun hn => ?_⟩
    obtain ⟨ga, off, e, hb, hc⟩ := h.2 hn
    exact ⟨ga, off, e, Nat.lt_of_lt_of_le hb hT.size, hc⟩
  have HW := Lib.hid hW
  have HAA := Lib.hid hA
  clear hA hW
  refine (queue_quiet w.heap.size (w.heap.size + 1 + 1 + 1) (w.heap.size + 1) (w.heap.size + 1 + 1) n c A ss _
    ((((blk_mk' rfl).alloc _).alloc _).alloc _) (blk_mk' (by simp)) (((blk_mk' (by simp)).alloc _).alloc _) ((blk_mk' (by simp)).alloc _) HW.out HAA.out hn HSS.out).mono ?_
  rintro e w2 ⟨rfl, ht, v, hv, hown⟩
  obtain ⟨A1, c1, rfl⟩ := own_slice hown
  have cv : w2.cell? ⟨w.heap.size + 1, 0, none⟩ = some (.slice A1 n c1) := hv.cell 0
  have fv := hv.free 0
  have hlv := hv.lt
  have HT := Lib.hid ht
  have HV := Lib.hid hv
  have HO := Lib.hid hown
  clear ht hv hown
  go_wp2_with fail
  have hc2 : (w2.setCell ⟨w.heap.size + 1, 0, none⟩ (.slice A1 n c1)).cell? ⟨w.heap.size + 1, 0, none⟩ = some (.slice A1 n c1) := by simp [go_sem, cv]
  refine bodyPost_ret (v := .slice A1 n c1) (by simp [results, Try.results21, go_sem, hc2]) rfl ⟨?_, A1, c1, rfl, ?_⟩
  · have t1 : Touch (fun b => b = w.heap.size + 1 ∨ b = w.heap.size + 1 + 1) w w2 := (((((Touch.refl _ w).alloc _).alloc _).alloc _).alloc _).trans HT.out fun _ _ h => h
    exact (t1.setCell (p := ⟨w.heap.size + 1, 0, none⟩) (fun h => absurd h (by simp)) _).below (Nat.le_refl _) (fun i hi hs => by omega)
  · have h2 := own_far HO.out (p := ⟨w.heap.size + 1, 0, none⟩) (by simp) (.slice A1 n c1)
    exact own_low' h2 (by simp; omega)

def Distinct (xs : List Int) : Prop := ∀ (k : Nat) x, xs[k]? = some x → x ∉ xs.take k

def ApartPost (xs : List Int) (w : World) (e : Ending) (w' : World) : Prop := w' = w ∧ ∃ b : Bool, e = .returned (.bool b) ∧ (b = true → Distinct xs)

set_option maxHeartbeats 800000 in
theorem apart_any (n c B : Nat) (A : Option Addr) (xs : List Int) (w : World) (hr : Reads w B 1 A n (xs.map (Value.int .i64))) (hn : n ≤ 9223372036854775807) (hnc : n ≤ c) :
    Calls Try.prog 20 #[.slice A n c] w (ApartPost xs w) := by
  have hlen : xs.length = n := by simpa using hr.1
  have HR := Lib.hid hr
  have HLEN := Lib.hid hlen
  clear hr hlen
  go_enter Try.func20, Try.ntmps20
  go_wp2_with fail
  go_loop [7] (fun i => ∃ k : Nat, i = .int .i64 k ∧ k ≤ n ∧ Hid (∀ (j : Nat) x, j < k → xs[j]? = some x → x ∉ xs.take j)) (fun i => n - (intOf i).toNat)
  case atStart => exact ⟨0, rfl, by omega, fun j x hj => by omega⟩
  case round =>
    obtain ⟨k, rfl, hk, hno⟩ := hrel
    by_cases hlt : k < n
    · obtain ⟨ad, x, rfl, hab, hx, hc⟩ := i64_at HR.out hlt
      have hrt := HR.out.take (k := k) (by omega)
      rw [Nat.mul_one, List.map_take.symm] at hrt
      have HRT := Lib.hid hrt
      have HX := Lib.hid hx
      have hkc : k ≤ c := by omega
      clear hx hrt
      go_wp2_with fail
      refine (within_any k c B (some ad) (xs.take k) x _ HRT.out (by omega)).mono ?_
      rintro e w' ⟨rfl, rfl⟩
      by_cases hm : x ∈ xs.take k
      · have hd : decide (x ∈ xs.take k) = true := by simp [hm]
        rw [hd]
        clear hm hd
        go_wp2_with fail
        go_ret
        exact ⟨rfl, false, rfl, by simp⟩
      · have hd : decide (x ∈ xs.take k) = false := by simp [hm]
        rw [hd]
        have HM := Lib.hid hm
        clear hm hd
        go_wp2_with fail
        refine ⟨⟨k + 1, by go_num, by omega, fun j y hj hy => ?_⟩, by simp [intOf]; omega⟩
        rcases Nat.lt_or_ge j k with h | h
        · exact hno.out j y h hy
        · obtain rfl : j = k := by omega
          rw [HX.out] at hy
          injection hy with hy
          subst hy
          exact HM.out
    · obtain rfl : k = n := by omega
      go_wp2_with fail
      go_ret
      refine ⟨rfl, true, rfl, fun _ j y hy => ?_⟩
      refine hno.out j y ?_ hy
      rw [← HLEN.out]
      exact (List.getElem?_eq_some_iff.1 hy).1
end Go.Proofs.Ytlkmmkphpiamcaa
