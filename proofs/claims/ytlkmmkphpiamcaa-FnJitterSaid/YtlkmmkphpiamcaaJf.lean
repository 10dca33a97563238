/-
  impl.Jitter: New, its option, the closure, the call. Conditions: at most 100 calls. By an AI agent.
-/
import Derived.Test.YtlkmmkphpiamcaaJe
import Derived.Test.YtlkmmkphpiamcaaQm
import Derived.Deep.RegionLaw
import Derived.Deep.DeepCutAuto
namespace Go.Proofs.Ytlkmmkphpiamcaa
open Go.RowKit

/-- quietly over a closure that returns: true. -/
theorem quietly_54 (p1 p2 p3 : Value) (w : World) (R : World → Prop)
    (hg : Calls Try.prog 54 #[p1, p2, p3] (w.alloc (.cells #[.bool false] 4)) fun e w' => e = .returned (.tuple #[]) ∧ R w' ∧ Blk w' w.heap.size 4 #[.bool false]) :
    Calls Try.prog 32 #[.func (.func 54) #[] #[p1, p2, p3]] w fun e w' => e = .returned (.bool true) ∧ ∃ w1, R w1 ∧ w' = w1.setCell ⟨w.heap.size, 0, none⟩ (.bool true) := by
  have H := Lib.hid hg
  clear hg
  have hmf : ∀ (fn : Fn) (first cap : Array Value) (w : World), (Instr.makeFunc fn first cap).run Try.prog w = .ok (.func fn first cap) w := fun _ _ _ _ => rfl
  go_enter_defers Try.func32, Try.ntmps32
  go_wp2_with fail
  refine H.out.mono ?_
  rintro e w1 ⟨rfl, hR, hb⟩
  have hc := hb.cell 0
  have hf := hb.free 0
  simp only [List.getElem?_toArray, List.getElem?_cons_zero] at hc
  have HR := Lib.hid hR
  have HB := Lib.hid hb
  clear hR hb
  go_wp2_with fail
  refine leaves_cons (f := 61) (args := #[.pointer (some ⟨w.heap.size, 0, none⟩)]) (by simp) (by simp [go_sem]) ?_
  refine (catch_idle ⟨w.heap.size, 0, none⟩ _).mono ?_
  rintro e u' w'' ⟨rfl, rfl, rfl⟩
  have hb2 : (w1.setCell ⟨w.heap.size, 0, none⟩ (.bool true)).cell? ⟨w.heap.size, 0, none⟩ = some (.bool true) := by
    simp [go_sem, hc]
  simp [Leaves, settle, results, Try.results32, go_sem, hb2]
  exact ⟨w1, HR.out, rfl⟩

theorem with_any (c : Nat) (w : World) : Calls Try.prog 53 #[.int .u16 c] w fun e w' => e = .returned (.func (.func 68) #[] #[.pointer (some ⟨w.heap.size, 0, none⟩)]) ∧ w' = w.alloc (.cells #[.int .u16 c] 33) := by
  have hmf : ∀ (fn : Fn) (first cap : Array Value) (w : World), (Instr.makeFunc fn first cap).run Try.prog w = .ok (.func fn first cap) w := fun _ _ _ _ => rfl
  go_enter Try.func53, Try.ntmps53
  go_wp2_with fail
  go_ret
  exact ⟨rfl, rfl⟩
theorem opt_any (jb cp mn : Nat) (x : Value) (w : World) (h1 : w.cell? ⟨cp, 0, none⟩ = some (.int .u16 mn)) (h2 : w.cell? ⟨jb, 1, none⟩ = some x) (h3 : w.frozen? ⟨jb, 1, none⟩ = false) :
    Calls Try.prog 68 #[.pointer (some ⟨jb, 0, none⟩), .pointer (some ⟨cp, 0, none⟩)] w fun e w' => e = .returned (.tuple #[]) ∧ w' = w.setCell ⟨jb, 1, none⟩ (.int .u16 mn) := by
  go_enter Try.func68, Try.ntmps68
  go_wp2_with fail
  go_end0
  exact ⟨rfl, rfl⟩

def NewJP (mn : Nat) (w : World) (e : Ending) (w' : World) : Prop :=
  ∃ jb q mp, e = .returned (.pointer (some ⟨jb, 0, none⟩)) ∧ Touch Nowhere w w' ∧ w.heap.size ≤ jb ∧ w.heap.size ≤ q ∧ ∀ B, JQ B w' jb q mp ⟨mn, 0, false, []⟩ []

set_option maxHeartbeats 1600000 in
theorem new_any (ob cp mn : Nat) (w : World) (ho : Blk w ob 111 #[.func (.func 68) #[] #[.pointer (some ⟨cp, 0, none⟩)]]) (hc : Blk w cp 33 #[.int .u16 mn]) :
    Calls Try.prog 52 #[.slice (some ⟨ob, 0, none⟩) 1 1] w (NewJP mn w) := by
  have hmm := @run_makeMap Try.prog
  have co := ho.cell 0
  have lo := ho.lt
  have lc := hc.lt
  simp at co
  have HO := Lib.hid ho
  have HC := Lib.hid hc
  clear ho hc
  go_enter Try.func52, Try.ntmps52
  go_wp2_with fail
  refine (newQueue_any _).mono ?_
  rintro e w1 ⟨rfl, hw1⟩
  subst hw1
  go_wp2_with fail
  have hT : Touch Nowhere w (((w.alloc (.cells #[.pointer none, .int .u16 0] 129)).alloc (.map #[] 0)).alloc (.cells #[.pointer (some ⟨w.heap.size, 0, none⟩), .int .u16 50, .int .u16 100, .int .u16 0, .int .u16 0, .bool false, .int .u16 0, .int .u32 0, .int .u32 0, .int .u32 0, .map (some (w.heap.size + 1))] 147)) := (((Touch.refl _ w).alloc _).alloc _).alloc _
  have hbx : Blk (((w.alloc (.cells #[.pointer none, .int .u16 0] 129)).alloc (.map #[] 0)).alloc (.cells #[.pointer (some ⟨w.heap.size, 0, none⟩), .int .u16 50, .int .u16 100, .int .u16 0, .int .u16 0, .bool false, .int .u16 0, .int .u32 0, .int .u32 0, .int .u32 0, .map (some (w.heap.size + 1))] 147)) (w.heap.size + 1 + 1) 147 (jC w.heap.size 50 0 0 false 0 0 0 (w.heap.size + 1)) := jblk (by simp)
  have hqu : ∀ B, QAt B (((w.alloc (.cells #[.pointer none, .int .u16 0] 129)).alloc (.map #[] 0)).alloc (.cells #[.pointer (some ⟨w.heap.size, 0, none⟩), .int .u16 50, .int .u16 100, .int .u16 0, .int .u16 0, .bool false, .int .u16 0, .int .u32 0, .int .u32 0, .int .u32 0, .map (some (w.heap.size + 1))] 147)) w.heap.size [] :=
    fun B => ⟨((Blk.new w 129 #[.pointer none, .int .u16 0]).alloc _).alloc _, trivial, by simp, by simp⟩
  have hmp : (((w.alloc (.cells #[.pointer none, .int .u16 0] 129)).alloc (.map #[] 0)).alloc (.cells #[.pointer (some ⟨w.heap.size, 0, none⟩), .int .u16 50, .int .u16 100, .int .u16 0, .int .u16 0, .bool false, .int .u16 0, .int .u32 0, .int .u32 0, .int .u32 0, .map (some (w.heap.size + 1))] 147)).heap[w.heap.size + 1]? = some (.map #[] 0) := by
    rw [Below.heap_alloc _ _ _ (by simp)]
    have h := heap_alloc_new (w.alloc (.cells #[.pointer none, .int .u16 0] 129)) (.map #[] 0)
    simpa using h
  have HT := Lib.hid hT
  have HBX := Lib.hid hbx
  have HQU := Lib.hid hqu
  have HMP := Lib.hid hmp
  clear hT hbx hqu hmp co
  generalize hW : ((w.alloc (.cells #[.pointer none, .int .u16 0] 129)).alloc (.map #[] 0)).alloc (.cells #[.pointer (some ⟨w.heap.size, 0, none⟩), .int .u16 50, .int .u16 100, .int .u16 0, .int .u16 0, .bool false, .int .u16 0, .int .u32 0, .int .u32 0, .int .u32 0, .map (some (w.heap.size + 1))] 147) = W at *
  clear hW
  have co : W.cell? ⟨ob, 0, none⟩ = some (.func (.func 68) #[] #[.pointer (some ⟨cp, 0, none⟩)]) := (HO.out.touch HT.out (fun h => h)).cell 0
  have cc : W.cell? ⟨cp, 0, none⟩ = some (.int .u16 mn) := (HC.out.touch HT.out (fun h => h)).cell 0
  have j1 : W.cell? ⟨w.heap.size + 1 + 1, 1, none⟩ = some (.int .u16 50) := HBX.out.cell 1
  have fj := HBX.out.free 1
  have hfin : JB (W.setCell ⟨w.heap.size + 1 + 1, 1, none⟩ (.int .u16 mn)) (w.heap.size + 1 + 1) w.heap.size (w.heap.size + 1) ⟨mn, 0, false, []⟩ :=
    ⟨⟨0, 0, 0, 0, by simpa [jC] using HBX.out.put 1 (.int .u16 (mn : Nat))⟩, 0, map_far HMP.out HBX.out⟩
  have hfq : ∀ B, JQ B (W.setCell ⟨w.heap.size + 1 + 1, 1, none⟩ (.int .u16 mn)) (w.heap.size + 1 + 1) w.heap.size (w.heap.size + 1) ⟨mn, 0, false, []⟩ [] := fun B =>
    ⟨hfin, ⟨(HQU.out B).head.far (p := ⟨w.heap.size + 1 + 1, 1, none⟩) ((HQU.out B).head.unlike HBX.out (by decide)) _, trivial, by simp, by simp⟩, rfl⟩
  have hft : Touch Nowhere w (W.setCell ⟨w.heap.size + 1 + 1, 1, none⟩ (.int .u16 mn)) := HT.out.setCell (p := ⟨w.heap.size + 1 + 1, 1, none⟩) (fun h => by have h' : w.heap.size + 1 + 1 < w.heap.size := h; omega) _
  have HFQ := Lib.hid hfq
  have HFT := Lib.hid hft
  clear hfin hfq hft
  go_loopw [13] (fun i wr => ∃ k : Nat, i = .int .i64 k ∧ k ≤ 1 ∧ Hid ((k = 0 → wr = W) ∧ (k = 1 → wr = W.setCell ⟨w.heap.size + 1 + 1, 1, none⟩ (.int .u16 mn)))) (fun i _ => 1 - (intOf i).toNat)
  case atStart => exact ⟨0, rfl, by omega, fun _ => rfl, fun h => by omega⟩
  case round =>
    obtain ⟨k, rfl, hk, hw⟩ := hrel
    by_cases hk0 : k = 0
    · subst hk0
      obtain rfl := hw.out.1 rfl
      clear hw
      go_wp2_with fail
      refine (opt_any (w.heap.size + 1 + 1) cp mn _ wr cc j1 fj).mono ?_
      rintro e w5 ⟨rfl, hw5⟩
      subst hw5
      go_wp2_with fail
      exact ⟨⟨1, by go_num, by omega, fun h => by omega, fun _ => by first | rfl | trivial⟩, by simp [intOf]⟩
    · obtain rfl : k = 1 := by omega
      have hwr := hw.out.2 rfl
      have HFQ2 : Hid (∀ B, JQ B wr (w.heap.size + 1 + 1) w.heap.size (w.heap.size + 1) ⟨mn, 0, false, []⟩ []) := by rw [hwr]; exact HFQ.out
      have HFT2 : Hid (Touch Nowhere w wr) := by rw [hwr]; exact HFT.out
      clear hwr hw
      go_wp2_with fail
      go_ret
      exact ⟨_, _, _, rfl, HFT2.out, by omega, Nat.le_refl _, HFQ2.out⟩
end Go.Proofs.Ytlkmmkphpiamcaa
