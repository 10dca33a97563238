/-
  impl.Jitter. Conditions: at most 100 calls; from 1 to 65535 packets wanted. By an AI agent.
-/
import Derived.Test.YtlkmmkphpiamcaaJg
namespace Go.Proofs.Ytlkmmkphpiamcaa
open Go.RowKit

theorem StepsAt.alloc {w : World} {A : Option Addr} {n : Nat} {ss : List Stp} {B B' : Nat} {w' : World} (h : StepsAt w B A n ss) (ht : Touch Nowhere w w') (hB : B ≤ w.heap.size) (hB' : B ≤ B') : StepsAt w' B' A n ss := by
  have h1 := h.keep (w' := w') fun p hp => ht.cell (by omega) (fun h => h)
  refine ⟨h1.1, fun hn => ?_⟩
  obtain ⟨ga, off, e, hb, hc⟩ := h1.2 hn
  exact ⟨ga, off, e, by omega, hc⟩

theorem jitter_quiet (bl bo bb jb q mp mn n c : Nat) (A : Option Addr) (ss : List Stp) (w : World)
    (hbl : Blk w bl 42 #[.slice A n c]) (hbo : Blk w bo 47 #[.slice none 0 0]) (hbb : Blk w bb 108 #[.pointer (some ⟨jb, 0, none⟩)]) (hj : ∀ B, JQ B w jb q mp ⟨mn, 0, false, []⟩ [])
    (hr : StepsAt w w.heap.size A n ss) (hA : 0 < n → ∀ a, A = some a → a.block ≠ bo ∧ a.block ≠ jb ∧ a.block ≠ q) (hn : n ≤ 100) (hss : ∀ s ∈ ss, s.what ≤ 1 ∧ s.seq ≤ 65535 ∧ s.time ≤ 4294967295) :
    Calls Try.prog 32 #[.func (.func 54) #[] #[.pointer (some ⟨bl, 0, none⟩), .pointer (some ⟨bo, 0, none⟩), .pointer (some ⟨bb, 0, none⟩)]] w
      fun e w' => e = .returned (.bool true) ∧ Touch (fun b => b = bo ∨ b = jb ∨ b = q) w w' ∧ ∃ v, Blk w' bo 47 #[v] ∧ w'.ownsRow (w.heap.size + 1) 59 3 v n (anL (jOut mn ss)) := by
  have lo := hbo.lt
  obtain ⟨lj, lq⟩ := (hj 0).lts
  have hs : (w.alloc (.cells #[.bool false] 4)).heap.size = w.heap.size + 1 := by simp
  have hT : Touch Nowhere w (w.alloc (.cells #[.bool false] 4)) := (Touch.refl _ w).alloc _
  refine (quietly_54 _ _ _ w (fun w' => JInv bo jb q mp mn n (w.heap.size + 1) ss (w.alloc (.cells #[.bool false] 4)) w') ?_).mono ?_
  · refine (jitter_closure bl bo bb jb q mp mn n c A ss _ (hbl.alloc _) (hbo.alloc _) (hbb.alloc _) ((hj _).idle hT) (hr.alloc hT (Nat.le_refl _) (by simp)) hA hn hss).mono ?_
    rintro e w' ⟨rfl, h⟩
    rw [hs] at h
    obtain ⟨ns, v, hq⟩ := id h
    exact ⟨rfl, h, (Blk.new w 4 _).touch hq.touch (by omega)⟩
  · rintro e w' ⟨rfl, w1, ⟨ns, v, hq⟩, rfl⟩
    have t1 : Touch (fun b => b = bo ∨ b = jb ∨ b = q) w w1 := ((Touch.refl _ w).alloc _).trans hq.touch fun _ _ h => h
    refine ⟨rfl, t1.setCell (fun h => absurd h (by simp)) _, v, hq.out.far (by simp; omega) _, ?_⟩
    have hlen : ss.take n = ss := List.take_of_length_le (by have := hr.1; omega)
    have ho := own_far hq.own (p := ⟨w.heap.size, 0, none⟩) (by simp) (.bool true)
    rwa [hlen] at ho

def JitterPost (mn : Nat) (ss : List Stp) (n : Nat) (w : World) (e : Ending) (w' : World) : Prop :=
  Below w.heap.size w w' ∧ ∃ A' c', e = .returned (.slice A' n c') ∧ w'.ownsRow w.heap.size 59 3 (.slice A' n c') n (anL (jOut mn ss))

set_option maxRecDepth 1000000 in
set_option maxHeartbeats 1600000 in
theorem jitter_impl (n c mn : Nat) (A : Option Addr) (ss : List Stp) (w : World)
    (hr : StepsAt w w.heap.size A n ss) (hn : n ≤ 100) (hm : mn ≤ 65535) (hss : ∀ s ∈ ss, s.what ≤ 1 ∧ s.seq ≤ 65535 ∧ s.time ≤ 4294967295) :
    Calls Try.prog 27 #[.int .i64 mn, .slice A n c] w (JitterPost mn ss n w) := by
  have hmf : ∀ (fn : Fn) (first cap : Array Value) (w : World), (Instr.makeFunc fn first cap).run Try.prog w = .ok (.func fn first cap) w := fun _ _ _ _ => rfl
  have hw16 := u16_self mn hm
  have hw64 : IntKind.i64.wrap (mn : Int) = (mn : Int) := IntWalk.i64_in _ (by omega)
  have HR := Lib.hid hr
  have HSS := Lib.hid hss
  clear hr hss
  go_enter Try.func27, Try.ntmps27
  go_wp2_with fail
  refine (with_any mn _).mono ?_
  rintro e w1 ⟨rfl, hw1⟩
  subst hw1
  go_wp2_with fail
  have hT : Touch Nowhere w ((((w.alloc (.cells #[.slice A n c] 42)).alloc (.cells #[.slice none 0 0] 47)).alloc (.cells #[.int .u16 mn] 33)).alloc (.cells #[.func (.func 68) #[] #[.pointer (some ⟨w.heap.size + 1 + 1, 0, none⟩)]] 111)) := ((((Touch.refl _ w).alloc _).alloc _).alloc _).alloc _
  have hsz : w.heap.size + 1 + 1 + 1 + 1 = ((((w.alloc (.cells #[.slice A n c] 42)).alloc (.cells #[.slice none 0 0] 47)).alloc (.cells #[.int .u16 mn] 33)).alloc (.cells #[.func (.func 68) #[] #[.pointer (some ⟨w.heap.size + 1 + 1, 0, none⟩)]] 111)).heap.size := by simp
  have h0 : Blk ((((w.alloc (.cells #[.slice A n c] 42)).alloc (.cells #[.slice none 0 0] 47)).alloc (.cells #[.int .u16 mn] 33)).alloc (.cells #[.func (.func 68) #[] #[.pointer (some ⟨w.heap.size + 1 + 1, 0, none⟩)]] 111)) w.heap.size 42 #[.slice A n c] := (((Blk.new _ _ _).alloc _).alloc _).alloc _
  have h1 : Blk ((((w.alloc (.cells #[.slice A n c] 42)).alloc (.cells #[.slice none 0 0] 47)).alloc (.cells #[.int .u16 mn] 33)).alloc (.cells #[.func (.func 68) #[] #[.pointer (some ⟨w.heap.size + 1 + 1, 0, none⟩)]] 111)) (w.heap.size + 1) 47 #[.slice none 0 0] := ((jblk (by simp)).alloc _).alloc _
  have h2 : Blk ((((w.alloc (.cells #[.slice A n c] 42)).alloc (.cells #[.slice none 0 0] 47)).alloc (.cells #[.int .u16 mn] 33)).alloc (.cells #[.func (.func 68) #[] #[.pointer (some ⟨w.heap.size + 1 + 1, 0, none⟩)]] 111)) (w.heap.size + 1 + 1) 33 #[.int .u16 mn] := (jblk (by simp)).alloc _
  have h3 : Blk ((((w.alloc (.cells #[.slice A n c] 42)).alloc (.cells #[.slice none 0 0] 47)).alloc (.cells #[.int .u16 mn] 33)).alloc (.cells #[.func (.func 68) #[] #[.pointer (some ⟨w.heap.size + 1 + 1, 0, none⟩)]] 111)) (w.heap.size + 1 + 1 + 1) 111 #[.func (.func 68) #[] #[.pointer (some ⟨w.heap.size + 1 + 1, 0, none⟩)]] := jblk (by simp)
  generalize ((((w.alloc (.cells #[.slice A n c] 42)).alloc (.cells #[.slice none 0 0] 47)).alloc (.cells #[.int .u16 mn] 33)).alloc (.cells #[.func (.func 68) #[] #[.pointer (some ⟨w.heap.size + 1 + 1, 0, none⟩)]] 111)) = W at *
  have H0 := Lib.hid h0
  have H1 := Lib.hid h1
  have HT := Lib.hid hT
  refine (new_any _ _ mn W h3 h2).mono ?_
  rintro e w3 ⟨jb, q, mp, rfl, ht3, hj1, hq1, hjq⟩
  have HB0 := Lib.hid ((h0.touch ht3 (fun h => h)).alloc (.cells #[.pointer (some ⟨jb, 0, none⟩)] 108))
  have HB1 := Lib.hid ((h1.touch ht3 (fun h => h)).alloc (.cells #[.pointer (some ⟨jb, 0, none⟩)] 108))
  have HBB : Hid (Blk (w3.alloc (.cells #[.pointer (some ⟨jb, 0, none⟩)] 108)) w3.heap.size 108 #[.pointer (some ⟨jb, 0, none⟩)]) := Blk.new _ _ _
  have HTT := Lib.hid (((hT.trans ht3 (fun _ _ h => h)).alloc (.cells #[.pointer (some ⟨jb, 0, none⟩)] 108)))
  have HJQ : Hid (∀ B, JQ B (w3.alloc (.cells #[.pointer (some ⟨jb, 0, none⟩)] 108)) jb q mp ⟨mn, 0, false, []⟩ []) := fun B => (hjq B).idle ((Touch.refl Nowhere w3).alloc _)
  have HSZ := Lib.hid hsz
  clear h0 h1 h2 h3 hT ht3 hjq hsz
  go_wp2_with fail
  generalize hV : w3.alloc (.cells #[.pointer (some ⟨jb, 0, none⟩)] 108) = V at *
  clear hV
  have hA : 0 < n → ∀ a, A = some a → a.block ≠ w.heap.size + 1 ∧ a.block ≠ jb ∧ a.block ≠ q := by
    rintro hn0 a rfl
    obtain ⟨ga, off, e, hb, _⟩ := HR.out.2 hn0
    injection e with e
    subst e
    have := HSZ.out
    show ga ≠ _ ∧ ga ≠ _ ∧ ga ≠ _
    omega
  refine (jitter_quiet w.heap.size (w.heap.size + 1) w3.heap.size jb q mp mn n c A ss V HB0.out HB1.out HBB.out HJQ.out (HR.out.alloc HTT.out (Nat.le_refl _) HTT.out.size) hA hn HSS.out).mono ?_
  rintro e w5 ⟨rfl, ht5, v, hv5, ho5⟩
  obtain ⟨A5, c5, rfl⟩ := own_slice ho5
  have cv : w5.cell? ⟨w.heap.size + 1, 0, none⟩ = some (.slice A5 n c5) := hv5.cell 0
  have fv := hv5.free 0
  have HT5 := Lib.hid (((HTT.out.mono (S' := fun b => b = w.heap.size + 1 ∨ b = jb ∨ b = q) (fun _ _ h => False.elim h)).trans ht5 (fun _ _ h => h)).mono (S' := fun b => w.heap.size ≤ b) (fun i hi h => by have := HSZ.out; omega))
  have HO5 := Lib.hid ho5
  have hszV := HTT.out.size
  clear ht5 hv5 ho5 hA
  go_wp2_with fail
  have hc2 : (w5.setCell ⟨w.heap.size + 1, 0, none⟩ (.slice A5 n c5)).cell? ⟨w.heap.size + 1, 0, none⟩ = some (.slice A5 n c5) := by simp [go_sem, cv]
  refine bodyPost_ret (v := .slice A5 n c5) (by simp [results, Try.results27, go_sem, hc2]) rfl ⟨?_, A5, c5, rfl, ?_⟩
  · exact (HT5.out.setCell (p := ⟨w.heap.size + 1, 0, none⟩) (fun h => by have h' : w.heap.size + 1 < w.heap.size := h; omega) _).below (Nat.le_refl _) (fun i hi hs => by have hs' : w.heap.size ≤ i := hs; omega)
  · have hlt : w.heap.size + 1 < V.heap.size + 1 := by have := HB1.out.lt; omega
    exact own_low' (own_far HO5.out (p := ⟨w.heap.size + 1, 0, none⟩) hlt (.slice A5 n c5)) (by omega)
end Go.Proofs.Ytlkmmkphpiamcaa
