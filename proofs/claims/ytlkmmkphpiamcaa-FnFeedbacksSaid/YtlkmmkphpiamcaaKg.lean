/-
  The recorder: RemoveOldPackets, maybeCullOldPackets, setStartSequenceNumber. Condition: the recorder lies in its blocks; all numbers within 256. By an AI agent.
-/
import Derived.Test.YtlkmmkphpiamcaaKf
namespace Go.Proofs.Ytlkmmkphpiamcaa
open Go.RowKit

def cellNat (w : World) (a : Addr) : Nat := match w.cell? a with
  | some (.int _ n) => n.toNat
  | _ => 0
theorem cellNat_of {w : World} {a : Addr} {k : IntKind} {n : Nat} (h : w.cell? a = some (.int k (n : Int))) : cellNat w a = n := by
  unfold cellNat
  rw [h]
  simp
theorem Mp.bump {w : World} {r g C b e : Nat} {f : Nat → Int} {rest : List Value} (h : Mp w r g C b e f rest) (hb : b < e) (i : Int) (hi : i = ((b + 1 : Nat) : Int)) : Mp (w.setCell ⟨r, 1, none⟩ (.int .i64 i)) r g C (b + 1) e f rest := by
  have hrg := h.ne
  have hroom := h.room
  have hs := h.small
  subst hi
  obtain ⟨cs, hb1, hz, hrow⟩ := h.row
  refine .of h.cap ?_ (by omega) (by omega) hs (hb1.far (p := ⟨r, 1, none⟩) hrg.symm _) hz fun s h1 h2 => hrow s (by omega) h2
  have := h.blk.put 1 (.int .i64 ((b + 1 : Nat) : Int))
  rwa [put1C] at this

set_option maxHeartbeats 1000000 in
set_option maxRecDepth 100000 in
theorem remove_lt (r g C b e x : Nat) (lim : Int) (f : Nat → Int) (rest : List Value) (w : World) (hM : Mp w r g C b e f rest) (h2 : e ≤ b + 256) (hx : x ≤ e) :
    Calls Try.prog 93 #[.pointer (some ⟨r, 0, none⟩), .int .i64 (x : Int), .int .i64 lim] w fun v w' => v = .returned (.tuple #[]) ∧
      ∃ b' g' C', b ≤ b' ∧ b' ≤ max b (min x e) ∧ Mp w' r g' C' b' e f rest ∧ (g' = g ∨ w.heap.size ≤ g') ∧ Touch (· = r) w w' := by
  have c2 := hM.map.c2
  have hsm := hM.small
  have hbe := hM.be
  have HM := Lib.hid hM
  have hrlt := hM.blk.lt
  clear hM
  go_enter Try.func93, Try.ntmps93
  go_wp2_with fail
  go_loopw [] (fun wr => ∃ k : Nat, wr.cell? ⟨r, 1, none⟩ = some (.int .i64 (k : Int)) ∧ b ≤ k ∧ k ≤ max b x ∧ k ≤ e ∧ Hid (Mp wr r g C k e f rest ∧ Touch (· = r) w wr)) (fun wr => x - cellNat wr ⟨r, 1, none⟩)
  case atStart => exact ⟨b, HM.out.map.c1, Nat.le_refl _, by omega, hbe, HM.out, Touch.refl _ _⟩
  case round =>
    obtain ⟨k, d1, hbk, hkx, hke, hinv⟩ := hrel
    have hcn := cellNat_of d1
    have hend : ∀ n, Calls Try.prog 97 #[.pointer (some ⟨r, 0, none⟩), .int .i64 (IntKind.i64.wrap ((e : Int) - (k : Int)))] (wr.drewN (n + 1)) fun v w' => v = .returned (.tuple #[]) ∧
      ∃ b' g' C', b ≤ b' ∧ b' ≤ max b (min x e) ∧ Mp w' r g' C' b' e f rest ∧ (g' = g ∨ w.heap.size ≤ g') ∧ Touch (· = r) w w' := by
      intro n
      have h := adjust_any r g C k e (e - k) f rest (wr.drewN (n + 1)) (hinv.out.1.drewN (n + 1)) (by omega) (by omega)
      rw [show ((e - k : Nat) : Int) = IntKind.i64.wrap ((e : Int) - (k : Int)) by rw [IntKind.wrap_i64]; omega] at h
      refine h.mono ?_
      rintro v w' ⟨rfl, g', C', _, hm', hg', ht'⟩
      exact ⟨rfl, k, g', C', hbk, by omega, hm', hg'.imp_right fun h => Nat.le_trans hinv.out.2.size h, hinv.out.2.trans (Touch.undrewN (n := n + 1) ht') fun _ _ h => h⟩
    have d2 := hinv.out.1.map.c2
    have f1 := hinv.out.1.blk.free 1
    have HE := Lib.hid hend
    clear hend
    by_cases hlt : k < x
    · have HG := Lib.hid (get_any r g C k e k f wr hinv.out.1.map)
      have hput : ∀ n, Mp ((wr.drewN n).setCell ⟨r, 1, none⟩ (.int .i64 ((k : Int) + 1))) r g C (k + 1) e f rest ∧ Touch (· = r) w ((wr.drewN n).setCell ⟨r, 1, none⟩ (.int .i64 ((k : Int) + 1))) :=
        fun n => ⟨(hinv.out.1.drewN n).bump (by omega) _ (by omega), (hinv.out.2.drewN n).setCell (p := ⟨r, 1, none⟩) (fun _ => rfl) _⟩
      have HP := Lib.hid hput
      obtain ⟨v, hv⟩ : ∃ v, arr k e f k = v := ⟨_, rfl⟩
      rw [hv] at HG
      clear hput hv
      by_cases hl : v ≤ lim
      · go_wp2_with fail
        refine HG.out.mono ?_
        rintro v' w' ⟨rfl, n, rfl⟩
        go_wp2_with fail
        have h := HP.out n
        have d := h.1.map.c1
        refine ⟨⟨k + 1, d, by omega, by omega, by omega, h⟩, ?_⟩
        rw [cellNat_of d, hcn]
        omega
      · go_wp2_with fail
        refine HG.out.mono ?_
        rintro v' w' ⟨rfl, n, rfl⟩
        go_upto_region 3 with fail
        have hE := HE.out n
        go_region_law (go_simp; go_at_call 97; refine hE.mono ?_; rintro v w' ⟨rfl, hpost⟩)
        all_goals go_end0
        all_goals exact ⟨rfl, hpost⟩
    · go_upto_region 3 with fail
      have hE : Calls Try.prog 97 _ wr.drew _ := HE.out 0
      go_region_law (go_simp; go_at_call 97; refine hE.mono ?_; rintro v w' ⟨rfl, hpost⟩)
      all_goals go_end0
      all_goals exact ⟨rfl, hpost⟩
set_option maxHeartbeats 1000000 in
set_option maxRecDepth 100000 in
theorem remove_ge (r g C b e x : Nat) (lim : Int) (f : Nat → Int) (rest : List Value) (w : World) (hM : Mp w r g C b e f rest) (h2 : e ≤ b + 256) (hx : e < x) :
    Calls Try.prog 93 #[.pointer (some ⟨r, 0, none⟩), .int .i64 (x : Int), .int .i64 lim] w fun v w' => v = .returned (.tuple #[]) ∧
      ∃ b' g' C', b ≤ b' ∧ b' ≤ max b (min x e) ∧ Mp w' r g' C' b' e f rest ∧ (g' = g ∨ w.heap.size ≤ g') ∧ Touch (· = r) w w' := by
  have c2 := hM.map.c2
  have hsm := hM.small
  have hbe := hM.be
  have HM := Lib.hid hM
  have hrlt := hM.blk.lt
  clear hM
  go_enter Try.func93, Try.ntmps93
  go_wp2_with fail
  go_loopw [] (fun wr => ∃ k : Nat, wr.cell? ⟨r, 1, none⟩ = some (.int .i64 (k : Int)) ∧ b ≤ k ∧ k ≤ e ∧ Hid (Mp wr r g C k e f rest ∧ Touch (· = r) w wr)) (fun wr => e - cellNat wr ⟨r, 1, none⟩)
  case atStart => exact ⟨b, HM.out.map.c1, Nat.le_refl _, hbe, HM.out, Touch.refl _ _⟩
  case round =>
    obtain ⟨k, d1, hbk, hke, hinv⟩ := hrel
    have hcn := cellNat_of d1
    have hend : ∀ n, Calls Try.prog 97 #[.pointer (some ⟨r, 0, none⟩), .int .i64 (IntKind.i64.wrap ((e : Int) - (k : Int)))] (wr.drewN (n + 1)) fun v w' => v = .returned (.tuple #[]) ∧
      ∃ b' g' C', b ≤ b' ∧ b' ≤ max b (min x e) ∧ Mp w' r g' C' b' e f rest ∧ (g' = g ∨ w.heap.size ≤ g') ∧ Touch (· = r) w w' := by
      intro n
      have h := adjust_any r g C k e (e - k) f rest (wr.drewN (n + 1)) (hinv.out.1.drewN (n + 1)) (by omega) (by omega)
      rw [show ((e - k : Nat) : Int) = IntKind.i64.wrap ((e : Int) - (k : Int)) by rw [IntKind.wrap_i64]; omega] at h
      refine h.mono ?_
      rintro v w' ⟨rfl, g', C', _, hm', hg', ht'⟩
      exact ⟨rfl, k, g', C', hbk, by omega, hm', hg'.imp_right fun h => Nat.le_trans hinv.out.2.size h, hinv.out.2.trans (Touch.undrewN (n := n + 1) ht') fun _ _ h => h⟩
    have d2 := hinv.out.1.map.c2
    have f1 := hinv.out.1.blk.free 1
    have HE := Lib.hid hend
    clear hend
    by_cases hlt : k < e
    · have HG := Lib.hid (get_any r g C k e k f wr hinv.out.1.map)
      have hput : ∀ n, Mp ((wr.drewN n).setCell ⟨r, 1, none⟩ (.int .i64 ((k : Int) + 1))) r g C (k + 1) e f rest ∧ Touch (· = r) w ((wr.drewN n).setCell ⟨r, 1, none⟩ (.int .i64 ((k : Int) + 1))) :=
        fun n => ⟨(hinv.out.1.drewN n).bump (by omega) _ (by omega), (hinv.out.2.drewN n).setCell (p := ⟨r, 1, none⟩) (fun _ => rfl) _⟩
      have HP := Lib.hid hput
      obtain ⟨v, hv⟩ : ∃ v, arr k e f k = v := ⟨_, rfl⟩
      rw [hv] at HG
      clear hput hv
      by_cases hl : v ≤ lim
      · go_wp2_with fail
        refine HG.out.mono ?_
        rintro v' w' ⟨rfl, n, rfl⟩
        go_wp2_with fail
        have h := HP.out n
        have d := h.1.map.c1
        refine ⟨⟨k + 1, d, by omega, by omega, h⟩, ?_⟩
        rw [cellNat_of d, hcn]
        omega
      · go_wp2_with fail
        refine HG.out.mono ?_
        rintro v' w' ⟨rfl, n, rfl⟩
        go_upto_region 3 with fail
        have hE := HE.out n
        go_region_law (go_simp; go_at_call 97; refine hE.mono ?_; rintro v w' ⟨rfl, hpost⟩)
        all_goals go_end0
        all_goals exact ⟨rfl, hpost⟩
    · go_upto_region 3 with fail
      have hE : Calls Try.prog 97 _ wr.drew _ := HE.out 0
      go_region_law (go_simp; go_at_call 97; refine hE.mono ?_; rintro v w' ⟨rfl, hpost⟩)
      all_goals go_end0
      all_goals exact ⟨rfl, hpost⟩

theorem remove_any (r g C b e x : Nat) (lim : Int) (f : Nat → Int) (rest : List Value) (w : World) (hM : Mp w r g C b e f rest) (h2 : e ≤ b + 256) :
    Calls Try.prog 93 #[.pointer (some ⟨r, 0, none⟩), .int .i64 (x : Int), .int .i64 lim] w fun v w' => v = .returned (.tuple #[]) ∧
      ∃ b' g' C', b ≤ b' ∧ b' ≤ max b (min x e) ∧ Mp w' r g' C' b' e f rest ∧ (g' = g ∨ w.heap.size ≤ g') ∧ Touch (· = r) w w' := by
  rcases Nat.lt_or_ge e x with h | h
  · exact remove_ge r g C b e x lim f rest w hM h2 h
  · exact remove_lt r g C b e x lim f rest w hM h2 h

/-- The recorder's cells behind the map's: the unwrapper, the start, the senders, the count of reports, the count of packets. -/
def restC (i : Bool) (L : Nat) (p : Option Addr) (sd md : Int) (cnt held : Nat) : List Value :=
  [.bool i, .int .i64 (L : Int), .pointer p, .int .u32 sd, .int .u32 md, .int .u8 (cnt : Int), .int .i64 (held : Int)]
/-- The recorder lies in block r, its map's row in block g, its start in block p. -/
structure RecAt (w : World) (r g C b e : Nat) (F : Nat → Int) (p s L : Nat) (sd md : Int) (cnt held : Nat) : Prop where
  mp : Mp w r g C b e F (restC true L (some ⟨p, 0, none⟩) sd md cnt held)
  box : Blk w p 2 #[.int .i64 (s : Int)]
  ne : p ≠ g
theorem RecAt.rp {w : World} {r g C b e : Nat} {F : Nat → Int} {p s L : Nat} {sd md : Int} {cnt held : Nat} (h : RecAt w r g C b e F p s L sd md cnt held) : r ≠ p := h.mp.blk.unlike h.box (by decide)
theorem RecAt.drewN {w : World} {r g C b e : Nat} {F : Nat → Int} {p s L : Nat} {sd md : Int} {cnt held : Nat} (h : RecAt w r g C b e F p s L sd md cnt held) (n : Nat) : RecAt (w.drewN n) r g C b e F p s L sd md cnt held := ⟨h.mp.drewN n, h.box, h.ne⟩

set_option maxHeartbeats 1000000 in
set_option maxRecDepth 100000 in
theorem setStart_some (r g C b e x p s L : Nat) (F : Nat → Int) (sd md : Int) (cnt held : Nat) (w : World) (hR : RecAt w r g C b e F p s L sd md cnt held) :
    Calls Try.prog 79 #[.pointer (some ⟨r, 0, none⟩), .int .i64 (x : Int)] w fun v w' => v = .returned (.tuple #[]) ∧ RecAt w' r g C b e F p x L sd md cnt held ∧ Touch (· = p) w w' := by
  have c5 := hR.mp.blk.cell 5
  simp [recC, restC] at c5
  have p0 := hR.box.cell 0
  simp at p0
  have fp := hR.box.free 0
  have hfin : RecAt (w.setCell ⟨p, 0, none⟩ (.int .i64 (x : Int))) r g C b e F p x L sd md cnt held ∧ Touch (· = p) w (w.setCell ⟨p, 0, none⟩ (.int .i64 (x : Int))) := by
    have ht := (Touch.refl (· = p) w).setCell (p := ⟨p, 0, none⟩) (fun _ => rfl) (.int .i64 (x : Int))
    exact ⟨⟨hR.mp.touch ht hR.rp (fun h => hR.ne h.symm), hR.box.put 0 _, hR.ne⟩, ht⟩
  have HF := Lib.hid hfin
  clear hR hfin
  go_enter Try.func79, Try.ntmps79
  go_wp2_with fail
  go_end0
  exact ⟨rfl, HF.out⟩

theorem put5C (s : Value) (b e : Nat) (i : Bool) (L : Nat) (p p' : Option Addr) (sd md : Int) (cnt held : Nat) : (recC s b e (restC i L p sd md cnt held)).setIfInBounds 5 (.pointer p') = recC s b e (restC i L p' sd md cnt held) := by simp [recC, restC]

set_option maxHeartbeats 1000000 in
set_option maxRecDepth 100000 in
theorem setStart_none (r b e x L : Nat) (S : Value) (i : Bool) (sd md : Int) (cnt held : Nat) (w : World) (hR : Blk w r 154 (recC S b e (restC i L none sd md cnt held))) :
    Calls Try.prog 79 #[.pointer (some ⟨r, 0, none⟩), .int .i64 (x : Int)] w fun v w' => v = .returned (.tuple #[]) ∧
      Blk w' r 154 (recC S b e (restC i L (some ⟨w.heap.size, 0, none⟩) sd md cnt held)) ∧ Blk w' w.heap.size 2 #[.int .i64 (x : Int)] ∧ Touch (· = r) w w' := by
  have c5 := hR.cell 5
  simp [recC, restC] at c5
  have f5 := hR.free 5
  have hlt := hR.lt
  have hsz : (w.setCell ⟨r, 5, none⟩ (.pointer (some ⟨w.heap.size, 0, none⟩))).heap.size = w.heap.size := by simp [World.setCell]
  have hfin : Blk ((w.setCell ⟨r, 5, none⟩ (.pointer (some ⟨w.heap.size, 0, none⟩))).alloc (.cells #[.int .i64 (x : Int)] 2)) r 154 (recC S b e (restC i L (some ⟨w.heap.size, 0, none⟩) sd md cnt held)) ∧
      Blk ((w.setCell ⟨r, 5, none⟩ (.pointer (some ⟨w.heap.size, 0, none⟩))).alloc (.cells #[.int .i64 (x : Int)] 2)) w.heap.size 2 #[.int .i64 (x : Int)] ∧
      Touch (· = r) w ((w.setCell ⟨r, 5, none⟩ (.pointer (some ⟨w.heap.size, 0, none⟩))).alloc (.cells #[.int .i64 (x : Int)] 2)) := by
    refine ⟨?_, ?_, ((Touch.refl (· = r) w).setCell (p := ⟨r, 5, none⟩) (fun _ => rfl) _).alloc _⟩
    · have h := hR.put 5 (.pointer (some ⟨w.heap.size, 0, none⟩))
      rw [put5C] at h
      exact h.alloc _
    · have h := Blk.new (w.setCell ⟨r, 5, none⟩ (.pointer (some ⟨w.heap.size, 0, none⟩))) 2 #[.int .i64 (x : Int)]
      rwa [hsz] at h
  have HF := Lib.hid hfin
  clear hR hfin
  go_enter Try.func79, Try.ntmps79
  go_wp2_with fail
  go_end0
  exact ⟨rfl, HF.out⟩
end Go.Proofs.Ytlkmmkphpiamcaa
