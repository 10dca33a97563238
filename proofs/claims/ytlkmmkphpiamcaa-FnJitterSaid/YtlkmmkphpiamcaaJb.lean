/-
  The jitter buffer: emit, updateStats, updateState. Conditions: at most 100 packets. By an AI agent.
-/
import Derived.Test.YtlkmmkphpiamcaaQh
import Derived.Test.YtlkmmkphpiamcaaQk
import Derived.Test.YtlkmmkphpiamcaaJa
import Derived.Maps.OwnSet
import Derived.BigQuiet
namespace Go.Proofs.Ytlkmmkphpiamcaa
open Go.RowKit Go.ChangeShapes Go.WideShapes Go.MapKept
open Go.Maps (Keyed string_keyed)

/-- A look-up in a map without entries. -/
theorem look_empty {P : Program} {k e t : TypeId} {w : World} {b : Nat} {clock : Nat} (K : Keyed P k) (ht : P.underlying t = some (.map k e)) {z : Value} (hz : (zeroValue e).run P w = .ok z w) (hb : w.heap[b]? = some (.map #[] clock)) {key : Value} {kl : Lit} (hkey : keyOf P k key = some kl) :
    (Instr.lookup t (.map (some b)) key false).run P w = .ok z w := by
  rcases K.find w hkey [] (by simp) with ⟨f1, _⟩ | ⟨j, e0, _, f2, _⟩
  · simp [Instr.lookup, run_underlying ht, MapKept.run_getObj_map hb, K.check w _ hkey, f1, hz, Result.andThen]
  · simp at f2

def emN (b : Bool) : Nat := if b then 1 else 0
def jC (q mn last head : Nat) (em : Bool) (s0 s1 s2 : Int) (mp : Nat) : Array Value :=
  #[.pointer (some ⟨q, 0, none⟩), .int .u16 mn, .int .u16 100, .int .u16 last, .int .u16 head, .bool em, .int .u16 (emN em), .int .u32 s0, .int .u32 s1, .int .u32 s2, .map (some mp)]

theorem emit_any (jb mp : Nat) (ev : ByteArray) (hev : ev.size ≤ maxLen) (w : World) (h : w.cell? ⟨jb, 10, none⟩ = some (.map (some mp))) (hm : ∃ c, w.heap[mp]? = some (.map #[] c)) :
    Calls Try.prog 90 #[.pointer (some ⟨jb, 0, none⟩), .string ev] w fun e w' => e = .returned (.tuple #[]) ∧ w' = w := by
  obtain ⟨c, hc⟩ := hm
  have hl : (Instr.lookup 145 (.map (some mp)) (.string ev) false).run Try.prog w = .ok (.slice none 0 0) w :=
    look_empty (string_keyed Try.underlying181) Try.underlying145 (by kernel_rfl) hc (kl := .string ev.data.toList) (by simp [keyOf, Try.underlying181, mapKey]; simpa using hev)
  clear hc
  go_enter Try.func90, Try.ntmps90
  go_wp2_with fail
  go_loop [13] (fun i => i = .int .i64 0) (fun _ => 0)
  case atStart => rfl
  case round =>
    subst hrel
    go_wp2_with fail
    go_end0
    exact ⟨rfl, rfl⟩

theorem QL.drewN {B g L : Nat} {w : World} {ns : List Nd} (h : QL B w g ns L) (k : Nat) : QL B (w.drewN k) g ns L := h.calm ((Touch.refl Nowhere w).drewN k) (fun _ _ _ _ _ h => h)

/-- A jitter buffer in memory. -/
structure JB (w : World) (jb q mp : Nat) (d : JS) : Prop where
  box : ∃ (last : Nat) (s0 s1 s2 : Int), Blk w jb 147 (jC q d.mn last d.head d.em s0 s1 s2 mp)
  map : ∃ c, w.heap[mp]? = some (.map #[] c)
theorem map_far {w : World} {mp b i c t : Nat} {cs : Array Value} {v : Value} (h : w.heap[mp]? = some (.map #[] c)) (hb : Blk w b t cs) : (w.setCell ⟨b, i, none⟩ v).heap[mp]? = some (.map #[] c) := by
  refine (Below.heap_setCell w ⟨b, i, none⟩ v mp (fun e => ?_)).trans h
  have e : mp = b := e
  subst e
  unfold Blk at hb
  rw [hb] at h
  cases h
theorem map_touch {w w' : World} {mp c : Nat} {S : Nat → Prop} (h : w.heap[mp]? = some (.map #[] c)) (ht : Touch S w w') (hS : ∀ b, S b → ∃ t cs, Blk w b t cs) : w'.heap[mp]? = some (.map #[] c) := by
  have hlt : mp < w.heap.size := by
    rcases Nat.lt_or_ge mp w.heap.size with h1 | h1
    · exact h1
    · rw [Array.getElem?_eq_none h1] at h
      cases h
  refine (ht.block mp hlt fun hs => ?_).trans h
  obtain ⟨t, cs, hb⟩ := hS mp hs
  unfold Blk at hb
  rw [hb] at h
  cases h

def StatsP (jb q mp mn head : Nat) (em : Bool) (s1 s2 : Int) (w : World) (e : Ending) (w' : World) : Prop :=
  e = .returned (.tuple #[]) ∧ Touch (· = jb) w w' ∧ ∃ (last : Nat) (s0 : Int), Blk w' jb 147 (jC q mn last head em s0 s1 s2 mp)

set_option maxHeartbeats 800000 in
theorem stats_any (B jb q mp mn last head s L : Nat) (em : Bool) (s0 s1 s2 : Int) (ns : List Nd) (w : World) (hb : Blk w jb 147 (jC q mn last head em s0 s1 s2 mp)) (hq : QL B w q ns L) :
    Calls Try.prog 91 #[.pointer (some ⟨jb, 0, none⟩), .int .u16 s] w (StatsP jb q mp mn head em s1 s2 w) := by
  have c0 : w.cell? ⟨jb, 0, none⟩ = some (.pointer (some ⟨q, 0, none⟩)) := hb.cell 0
  have c3 : w.cell? ⟨jb, 3, none⟩ = some (.int .u16 last) := hb.cell 3
  have c7 : w.cell? ⟨jb, 7, none⟩ = some (.int .u32 s0) := hb.cell 7
  have f3 := hb.free 3
  have f7 := hb.free 7
  obtain ⟨z, hz⟩ : ∃ z, IntKind.u16.wrap ((last : Int) + 1) = z := ⟨_, rfl⟩
  obtain ⟨y, hy⟩ : ∃ y, IntKind.u32.wrap (s0 + 1) = y := ⟨_, rfl⟩
  have HB := Lib.hid hb
  have HQ := Lib.hid hq
  clear hb hq
  cases L with
  | zero =>
    go_enter Try.func91, Try.ntmps91
    go_wp2_with fail
    refine (len_any B q 0 ns w HQ.out).mono ?_
    rintro e w1 ⟨rfl, rfl⟩
    go_wp2_with fail
    go_end0
    exact ⟨rfl, (Touch.refl (· = jb) _).setCell (p := ⟨jb, 3, none⟩) (fun _ => rfl) _, s, s0, by simpa [jC] using HB.out.put 3 (.int .u16 (s : Nat))⟩
  | succ l =>
    have hl0 : (0 : Int) < ((l + 1 : Nat) : Int) := by omega
    by_cases hs : (s : Int) = z
    · have hsb : ((s : Int) != z) = false := by simp [hs]
      clear hs
      go_enter Try.func91, Try.ntmps91
      go_wp2_with fail
      refine (len_any B q (l + 1) ns w HQ.out).mono ?_
      rintro e w1 ⟨rfl, rfl⟩
      go_wp2_with fail
      go_end0
      exact ⟨rfl, (Touch.refl (· = jb) _).setCell (p := ⟨jb, 3, none⟩) (fun _ => rfl) _, s, s0, by simpa [jC] using HB.out.put 3 (.int .u16 (s : Nat))⟩
    · have hsb : ((s : Int) != z) = true := by simp [hs]
      clear hs
      go_enter Try.func91, Try.ntmps91
      go_wp2_with fail
      refine (len_any B q (l + 1) ns w HQ.out).mono ?_
      rintro e w1 ⟨rfl, rfl⟩
      go_wp2_with fail
      go_end0
      exact ⟨rfl, ((Touch.refl (· = jb) _).setCell (p := ⟨jb, 7, none⟩) (fun _ => rfl) _).setCell (p := ⟨jb, 3, none⟩) (fun _ => rfl) _, s, y, by simpa [jC] using (HB.out.put 7 (.int .u32 y)).put 3 (.int .u16 (s : Nat))⟩

def StateP (jb q mp mn last head L : Nat) (em : Bool) (s0 s1 s2 : Int) (w : World) (e : Ending) (w' : World) : Prop :=
  e = .returned (.tuple #[]) ∧ Touch (· = jb) w w' ∧ Blk w' jb 147 (jC q mn last head (em || decide (mn ≤ L)) s0 s1 s2 mp)

set_option maxHeartbeats 1600000 in
theorem state_any (B jb q mp mn last head L : Nat) (em : Bool) (s0 s1 s2 : Int) (ns : List Nd) (w : World) (hb : Blk w jb 147 (jC q mn last head em s0 s1 s2 mp)) (hm : ∃ c, w.heap[mp]? = some (.map #[] c)) (hq : QL B w q ns L) :
    Calls Try.prog 92 #[.pointer (some ⟨jb, 0, none⟩)] w (StateP jb q mp mn last head L em s0 s1 s2 w) := by
  have c0 : w.cell? ⟨jb, 0, none⟩ = some (.pointer (some ⟨q, 0, none⟩)) := hb.cell 0
  have c1 : w.cell? ⟨jb, 1, none⟩ = some (.int .u16 mn) := hb.cell 1
  have c5 : w.cell? ⟨jb, 5, none⟩ = some (.bool em) := hb.cell 5
  have c6 : w.cell? ⟨jb, 6, none⟩ = some (.int .u16 (emN em)) := hb.cell 6
  have f5 := hb.free 5
  have f6 := hb.free 6
  have HB := Lib.hid hb
  have HQ := Lib.hid hq
  have HM := Lib.hid hm
  clear hb hq hm
  by_cases hle : mn ≤ L
  · have hlei : (mn : Int) ≤ (L : Int) := by omega
    have hled : decide (mn ≤ L) = true := by simpa using hle
    cases em with
    | true =>
      rw [show emN true = 1 from rfl] at c6
      go_enter Try.func92, Try.ntmps92
      go_wp2_with fail
      go_quiet ((go_at_call 51; exact Calls.quiet_of_same (len_any B q L ns _ (HQ.out.drewN _))))
      go_wp2_with fail
      go_end0
      exact ⟨rfl, (Touch.refl (· = jb) _).drewN _, HB.out.drewN _⟩
    | false =>
      rw [show emN false = 0 from rfl] at c6
      go_enter Try.func92, Try.ntmps92
      go_wp2_with fail
      go_quiet ((go_at_call 51; exact Calls.quiet_of_same (len_any B q L ns _ (HQ.out.drewN _))))
      have hb2 : ∀ k, Blk (((w.drewN k).setCell ⟨jb, 6, none⟩ (.int .u16 1)).setCell ⟨jb, 5, none⟩ (.bool true)) jb 147 (jC q mn last head true s0 s1 s2 mp) := fun k => by
        simpa [jC, emN] using (((HB.out.drewN k).put 6 (.int .u16 1)).put 5 (.bool true))
      have HB2 := Lib.hid hb2
      clear hb2
      go_wp2_with fail
      refine (emit_any jb mp _ (by decide) _ ((HB2.out _).cell 10) ?_).mono ?_
      · obtain ⟨c, hc⟩ := HM.out
        exact ⟨c, map_far (map_far hc (HB.out.drewN _)) ((HB.out.drewN _).put 6 (.int .u16 1))⟩
      rintro e w1 ⟨rfl, rfl⟩
      go_wp2_with fail
      go_end0
      refine ⟨rfl, (((Touch.refl (· = jb) _).drewN _).setCell (p := ⟨jb, 6, none⟩) (fun _ => rfl) _).setCell (p := ⟨jb, 5, none⟩) (fun _ => rfl) _, ?_⟩
      rw [show (false || decide (mn ≤ L)) = true by simp [hle]]
      exact HB2.out _
  · have hlei : ¬ (mn : Int) ≤ (L : Int) := by omega
    have hled : decide (mn ≤ L) = false := by simpa using hle
    have hle2 : decide ((mn : Int) ≤ (L : Int)) = false := by simpa using hle
    go_enter Try.func92, Try.ntmps92
    go_wp2_with fail
    go_quiet ((go_at_call 51; exact Calls.quiet_of_same (len_any B q L ns _ (HQ.out.drewN _))))
    go_wp2_with fail
    go_end0
    exact ⟨rfl, (Touch.refl (· = jb) _).drewN _, by rw [hled, Bool.or_false]; exact HB.out.drewN _⟩
end Go.Proofs.Ytlkmmkphpiamcaa
