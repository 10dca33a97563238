/-
  The priority queue: Pop. Conditions: as the queue's. By an AI agent.
-/
import Derived.Test.YtlkmmkphpiamcaaQb
namespace Go.Proofs.Ytlkmmkphpiamcaa
open Go.RowKit

def popOf : List Nd → Option (Nd × List Nd)
  | [] => none
  | n :: r => some (n, r)

set_option maxHeartbeats 800000 in
theorem pop_any (B g : Nat) (ns : List Nd) (w : World) (h : QAt B w g ns) (hl : ns.length < 60000) :
    Calls Try.prog 47 #[.pointer (some ⟨g, 0, none⟩)] w (TakePost B g (popOf ns) w) := by
  cases ns with
  | nil =>
    have c0 : w.cell? ⟨g, 0, none⟩ = some (.pointer none) := h.hd.1
    clear h
    go_enter Try.func47, Try.ntmps47
    go_wp2_with fail
    go_ret2
    exact ⟨⟨_, _, rfl⟩, rfl⟩
  | cons n r =>
    obtain ⟨c0, c1, fg⟩ := h.hd
    obtain ⟨L, hL⟩ : ∃ L, r.length = L := ⟨_, rfl⟩
    have c1' : w.cell? ⟨g, 1, none⟩ = some (.int .u16 ((L + 1 : Nat) : Int)) := by rw [← hL]; exact c1
    have f0 := fg 0
    have f1 := fg 1
    obtain ⟨_, _, n0, n1, ⟨_, _⟩, _, fn, _, _⟩ := (h.seg.f (a := []) : NdF w n (headV r))
    have g0 := fn 0
    have g1 := fn 1
    have hng : n.blk ≠ g := h.notg n (by simp)
    have hgn := hng.symm
    have hul := u16_less L (by simp at hl; omega)
    have hulb := u16_self L (by simp at hl; omega)
    have H := Lib.hid h
    have HL := Lib.hid hL
    simp only [headV] at c0
    clear c1 fg fn
    cases r with
    | nil =>
      clear h hL
      simp only [headV] at n1
      go_enter Try.func47, Try.ntmps47
      go_wp2_with fail
      go_ret2
      exact ⟨rfl, head_done H.out HL.out⟩
    | cons m r' =>
      obtain ⟨_, _, _, _, ⟨pv, m2⟩, _, fm, _, _⟩ := (h.seg.f (a := [n]) : NdF w m (headV r'))
      have hd := h.apart
      simp only [List.map_cons, List.nodup_cons, List.mem_cons, not_or] at hd
      have hnm : n.blk ≠ m.blk := hd.1.1
      have hmn := hnm.symm
      have hmg : m.blk ≠ g := h.notg m (by simp)
      have hgm := hmg.symm
      have f2 := fm 2
      simp only [headV] at n1
      clear h hL hd fm
      go_enter Try.func47, Try.ntmps47
      go_wp2_with fail
      go_ret2
      exact ⟨rfl, head_done H.out HL.out⟩

theorem headV_nil : headV [] = .pointer none := rfl
theorem headV_cons (n : Nd) (r : List Nd) : headV (n :: r) = .pointer (some ⟨n.blk, 0, none⟩) := rfl
end Go.Proofs.Ytlkmmkphpiamcaa
