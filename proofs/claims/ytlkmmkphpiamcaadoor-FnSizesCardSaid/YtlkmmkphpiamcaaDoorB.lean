/-
  The receive log: bits, fixLastConsecutive, add. By an AI agent.
-/
import Derived.Test.YtlkmmkphpiamcaaDoorA
namespace Go.Proofs.YtlkmmkphpiamcaaDoor
open Go.RowKit

theorem pow64 (b : Nat) (hb : b < 64) : 2 ^ b < 18446744073709551616 := by
  have : 2 ^ b ≤ 2 ^ 63 := Nat.pow_le_pow_right (by omega) (by omega)
  omega
theorem wrapPow (b : Nat) (hb : b < 64) : IntKind.u64.wrap (2 ^ b) = ((2 ^ b : Nat) : Int) := by
  have := pow64 b hb
  rw [IntKind.wrap_u64]
  have e : ((2 : Int) ^ b) = ((2 ^ b : Nat) : Int) := by simp
  rw [e]
  generalize 2 ^ b = q at *
  omega
theorem and_pow (x b : Nat) : x &&& 2 ^ b = if x.testBit b then 2 ^ b else 0 := by
  apply Nat.eq_of_testBit_eq
  intro i
  rw [Nat.testBit_and, Nat.testBit_two_pow]
  by_cases h : b = i
  · subst h
    cases hx : x.testBit b <;> simp
  · cases hx : x.testBit b <;> simp [h]
theorem testBit_and (x b : Nat) (hx : x < 18446744073709551616) (hb : b < 64) : (bits BinOp.and IntKind.u64 (x : Int) (IntKind.u64.wrap (2 ^ b)) != 0) = x.testBit b := by
  rw [wrapPow b hb, u64_and_nat x _ hx (pow64 b hb)]
  rw [and_pow]
  have h0 : 0 < 2 ^ b := Nat.two_pow_pos b
  generalize 2 ^ b = q at *
  cases h : x.testBit b
  · simp
  · simp
    omega
theorem set_or (x b : Nat) (hx : x < 18446744073709551616) (hb : b < 64) : bits BinOp.or IntKind.u64 (x : Int) (IntKind.u64.wrap (2 ^ b)) = ((x ||| 2 ^ b : Nat) : Int) ∧ x ||| 2 ^ b < 18446744073709551616 := by
  rw [wrapPow b hb]
  refine ⟨u64_or_nat x _ hx (pow64 b hb), ?_⟩
  exact Nat.or_lt_two_pow (n := 64) hx (pow64 b hb)
theorem del_andNot (x b : Nat) (hx : x < 18446744073709551616) (hb : b < 64) : bits BinOp.andNot IntKind.u64 (x : Int) (IntKind.u64.wrap (2 ^ b)) = ((x &&& (18446744073709551615 - 2 ^ b) : Nat) : Int) ∧ x &&& (18446744073709551615 - 2 ^ b) < 18446744073709551616 := by
  rw [wrapPow b hb]
  refine ⟨u64_andNot_nat x _ hx (pow64 b hb), ?_⟩
  exact Nat.lt_of_le_of_lt Nat.and_le_left hx
theorem testBit_set (x b i : Nat) : (x ||| 2 ^ b).testBit i = (x.testBit i || decide (b = i)) := by
  rw [Nat.testBit_or, Nat.testBit_two_pow]
theorem testBit_del (x b i : Nat) (hb : b < 64) (hi : i < 64) : (x &&& (18446744073709551615 - 2 ^ b)).testBit i = (x.testBit i && !decide (b = i)) := by
  rw [Nat.testBit_and]
  congr 1
  have h := Nat.testBit_two_pow_sub_succ (n := 64) (x := 2 ^ b) (pow64 b hb) i
  have e : 2 ^ 64 - (2 ^ b + 1) = 18446744073709551615 - 2 ^ b := by omega
  rw [e] at h
  rw [h, Nat.testBit_two_pow]
  simp [hi]

/-- A receive log as data: which places are marked, its size, the greatest number, whether it has begun, the last number up to which all came. -/
structure Log where
  bits : Nat → Bool
  size : Nat
  top : Nat
  started : Bool
  last : Nat

def Log.ok (L : Log) : Prop := 64 ≤ L.size ∧ L.size ≤ 32768 ∧ L.size % 64 = 0 ∧ L.top ≤ 65535 ∧ L.last ≤ 65535
def W64 : Nat := 18446744073709551616
def Words (L : Log) (ws : List Nat) : Prop :=
  ws.length = L.size / 64 ∧ (∀ x ∈ ws, x < W64) ∧ ∀ q, q < L.size → (ws.getD (q / 64) 0).testBit (q % 64) = L.bits q
def logCells (p : Nat) (L : Log) : Array Value :=
  #[.slice (some ⟨p, 0, none⟩) (L.size / 64) (L.size / 64), .int .u16 L.size, .int .u16 L.top, .bool L.started, .int .u16 L.last]
/-- The log lies in block g, its words in block p. -/
def LogAt (w : World) (g p : Nat) (L : Log) : Prop :=
  L.ok ∧ Blk w g 97 (logCells p L) ∧ ∃ ws : List Nat, Words L ws ∧ Blk w p 81 (ws.map fun x : Nat => Value.int .u64 (x : Int)).toArray
def LS (g p : Nat) : Nat → Prop := fun b => b = g ∨ b = p

theorem LogAt.touch {w w' : World} {g p : Nat} {L : Log} {S : Nat → Prop} (h : LogAt w g p L) (ht : Touch S w w') (hg : ¬ S g) (hp : ¬ S p) : LogAt w' g p L := by
  obtain ⟨h1, h2, ws, h3, h4⟩ := h
  exact ⟨h1, h2.touch ht hg, ws, h3, h4.touch ht hp⟩
theorem LogAt.drewN {w : World} {g p n : Nat} {L : Log} (h : LogAt w g p L) : LogAt (w.drewN n) g p L := h
theorem LogAt.alloc {w : World} {g p : Nat} {L : Log} (h : LogAt w g p L) (o : Obj) : LogAt (w.alloc o) g p L :=
  h.touch (S := Nowhere) ((Touch.refl _ _).alloc o) (fun e => e) (fun e => e)

def Log.mark (L : Log) (s : Nat) : Log := { L with bits := fun q => L.bits q || decide (q = s % L.size) }
def Log.wipe (L : Log) (s : Nat) : Log := { L with bits := fun q => L.bits q && !decide (q = s % L.size) }
def Log.has (L : Log) (s : Nat) : Bool := L.bits (s % L.size)

theorem word_at {L : Log} {ws : List Nat} (h : Words L ws) (hk : L.ok) (s : Nat) : s % L.size / 64 < L.size / 64 ∧ s % L.size / 64 < ws.length ∧
    ∃ x, ws.getD (s % L.size / 64) 0 = x ∧ x < W64 ∧ x.testBit (s % L.size % 64) = L.has s := by
  obtain ⟨h1, h2, h3⟩ := h
  obtain ⟨k1, k2, k3, _⟩ := hk
  have hlt : s % L.size < L.size := Nat.mod_lt _ (by omega)
  have hj : s % L.size / 64 < L.size / 64 := by omega
  refine ⟨hj, by omega, _, rfl, ?_, h3 _ hlt⟩
  rw [List.getD, List.getElem?_eq_getElem (by omega)]
  exact h2 _ (List.getElem_mem _)

set_option maxHeartbeats 800000 in
theorem getReceived_any (g p : Nat) (L : Log) (s : Nat) (w : World) (hL : LogAt w g p L) (hs : s ≤ 65535) :
    Calls Tryd.prog 39 #[.pointer (some ⟨g, 0, none⟩), .int .u16 s] w fun e w' => e = .returned (.bool (L.has s)) ∧ w = w' := by
  obtain ⟨hok, hb, ws, hws, hp⟩ := hL
  obtain ⟨hj, hj', x, hx, hx2, hx3⟩ := word_at hws hok s
  have c0 := hb.cell 0
  have c1 := hb.cell 1
  have cx := hp.cell (s % L.size / 64)
  rw [List.getElem?_toArray, List.getElem?_map, List.getElem?_eq_getElem hj'] at cx
  rw [List.getD, List.getElem?_eq_getElem hj'] at hx
  simp only [Option.map_some, Option.getD_some] at cx hx
  rw [hx] at cx
  simp [logCells] at c0 c1
  obtain ⟨k1, k2, k3, _⟩ := hok
  have HX2 := Lib.hid hx2
  have HX3 := Lib.hid hx3
  obtain ⟨m, hm, hm'⟩ : ∃ m, L.size / 64 = m ∧ True := ⟨_, rfl, trivial⟩
  rw [hm] at hj c0
  generalize hsz : L.size = size at *
  have HSZ := Lib.hid hsz
  clear hsz hb hp hws hx hx2 hx3 hj' hm hm' k3
  have hmp : s % size < size := Nat.mod_lt _ (by omega)
  obtain ⟨r, hr, hr'⟩ : ∃ r : Nat, ((s : Int) % (size : Int)) = (r : Int) ∧ s % size = r := ⟨s % size, by omega, rfl⟩
  rw [hr'] at hj cx hmp
  have HR := Lib.hid hr'
  have hjm : (r : Int) / 64 < (m : Int) := by omega
  clear hr' hj
  go_enter Tryd.func39, Tryd.ntmps39
  go_wp2_with fail
  go_ret
  refine ⟨?_, rfl⟩
  have h2 := HX2.out
  rw [HR.out] at HX3
  show Ending.returned (.bool (bits BinOp.and IntKind.u64 (x : Int) (IntKind.u64.wrap (2 ^ (r % 64))) != 0)) = _
  rw [testBit_and x (r % 64) h2 (by omega), HX3.out]

theorem getD_set {l : List Nat} {j k : Nat} {x : Nat} (hj : j < l.length) : (l.set j x).getD k 0 = if j = k then x else l.getD k 0 := by
  by_cases h : j = k
  · subst h
    simp [List.getD, hj]
  · simp [List.getD, h]

theorem words_mark {L : Log} {ws : List Nat} (h : Words L ws) (hk : L.ok) (s x : Nat) (hx : ws.getD (s % L.size / 64) 0 = x) :
    Words (L.mark s) (ws.set (s % L.size / 64) (x ||| 2 ^ (s % L.size % 64))) := by
  obtain ⟨h1, h2, h3⟩ := h
  obtain ⟨hj, hj', _⟩ := word_at ⟨h1, h2, h3⟩ hk s
  have hx2 : x < W64 := by
    rw [← hx, List.getD, List.getElem?_eq_getElem hj']
    exact h2 _ (List.getElem_mem _)
  refine ⟨by simpa [Log.mark] using h1, fun y hy => ?_, fun q hq => ?_⟩
  · rcases List.mem_or_eq_of_mem_set hy with hy | rfl
    · exact h2 y hy
    · exact (set_or x _ hx2 (by omega)).2
  · rw [getD_set hj']
    have h4 := h3 q hq
    simp only [Log.mark] at hq ⊢
    by_cases he : s % L.size / 64 = q / 64
    · rw [if_pos he, testBit_set]
      rw [← he, hx] at h4
      rw [h4]
      congr 1
      rw [Bool.eq_iff_iff]
      simp
      omega
    · rw [if_neg he, h4]
      have : ¬ q = s % L.size := by rintro rfl; exact he rfl
      simp [this]
theorem words_wipe {L : Log} {ws : List Nat} (h : Words L ws) (hk : L.ok) (s x : Nat) (hx : ws.getD (s % L.size / 64) 0 = x) :
    Words (L.wipe s) (ws.set (s % L.size / 64) (x &&& (18446744073709551615 - 2 ^ (s % L.size % 64)))) := by
  obtain ⟨h1, h2, h3⟩ := h
  obtain ⟨hj, hj', _⟩ := word_at ⟨h1, h2, h3⟩ hk s
  have hx2 : x < W64 := by
    rw [← hx, List.getD, List.getElem?_eq_getElem hj']
    exact h2 _ (List.getElem_mem _)
  refine ⟨by simpa [Log.wipe] using h1, fun y hy => ?_, fun q hq => ?_⟩
  · rcases List.mem_or_eq_of_mem_set hy with hy | rfl
    · exact h2 y hy
    · exact (del_andNot x _ hx2 (by omega)).2
  · rw [getD_set hj']
    have h4 := h3 q hq
    simp only [Log.wipe] at hq ⊢
    by_cases he : s % L.size / 64 = q / 64
    · rw [if_pos he, testBit_del _ _ _ (by omega) (by omega)]
      rw [← he, hx] at h4
      rw [h4]
      congr 2
      rw [Bool.eq_iff_iff]
      simp
      omega
    · rw [if_neg he, h4]
      have : ¬ q = s % L.size := by rintro rfl; exact he rfl
      simp [this]

theorem logAt_stored {w : World} {g p : Nat} {L L' : Log} {ws : List Nat} {j x : Nat} (hok : L'.ok) (hc : logCells p L' = logCells p L) (hb : Blk w g 97 (logCells p L))
    (hp : Blk w p 81 (ws.map fun x : Nat => Value.int .u64 (x : Int)).toArray) (hw : Words L' (ws.set j x)) : LogAt (w.setCell ⟨p, j, none⟩ (.int .u64 (x : Int))) g p L' := by
  have hne : g ≠ p := hb.unlike hp (by decide)
  refine ⟨hok, by rw [hc]; exact hb.far hne _, _, hw, ?_⟩
  have := hp.put j (.int .u64 (x : Int))
  simpa [List.map_set] using this

set_option maxHeartbeats 800000 in
theorem setReceived_any (g p : Nat) (L : Log) (s : Nat) (w : World) (hL : LogAt w g p L) (hs : s ≤ 65535) :
    Calls Tryd.prog 41 #[.pointer (some ⟨g, 0, none⟩), .int .u16 s] w fun e w' => e = .returned (.tuple #[]) ∧ LogAt w' g p (L.mark s) ∧ Touch (LS g p) w w' := by
  obtain ⟨hok, hb, ws, hws, hp⟩ := hL
  obtain ⟨hj, hj', x, hx, hx2, hx3⟩ := word_at hws hok s
  have hfin : LogAt (w.setCell ⟨p, s % L.size / 64, none⟩ (.int .u64 ((x ||| 2 ^ (s % L.size % 64) : Nat) : Int))) g p (L.mark s) := logAt_stored (L := L) hok rfl hb hp (words_mark hws hok s x hx)
  have c0 := hb.cell 0
  have c1 := hb.cell 1
  have cx := hp.cell (s % L.size / 64)
  have fx := hp.free (s % L.size / 64)
  rw [List.getElem?_toArray, List.getElem?_map, List.getElem?_eq_getElem hj'] at cx
  rw [List.getD, List.getElem?_eq_getElem hj'] at hx
  simp only [Option.map_some, Option.getD_some] at cx hx
  rw [hx] at cx
  simp [logCells] at c0 c1
  obtain ⟨k1, k2, k3, _⟩ := hok
  have HX2 := Lib.hid hx2
  have HFIN := Lib.hid hfin
  obtain ⟨m, hm, hm'⟩ : ∃ m, L.size / 64 = m ∧ True := ⟨_, rfl, trivial⟩
  rw [hm] at hj c0
  clear hfin
  generalize hsz : L.size = size at *
  clear hsz hb hp hws hx hx2 hx3 hj' hm hm' k3
  have hmp : s % size < size := Nat.mod_lt _ (by omega)
  obtain ⟨r, hr, hr'⟩ : ∃ r : Nat, ((s : Int) % (size : Int)) = (r : Int) ∧ s % size = r := ⟨s % size, by omega, rfl⟩
  rw [hr'] at hj cx fx hmp
  rw [hr'] at HFIN
  have hjm : (r : Int) / 64 < (m : Int) := by omega
  clear hr' hj
  go_enter Tryd.func41, Tryd.ntmps41
  go_wp2_with fail
  go_end0
  have h2 := HX2.out
  rw [(set_or x (r % 64) h2 (by omega)).1]
  exact ⟨rfl, HFIN.out, (Touch.refl (LS g p) w).setCell (p := ⟨p, r / 64, none⟩) (fun _ => .inr rfl) _⟩

set_option maxHeartbeats 800000 in
theorem delReceived_any (g p : Nat) (L : Log) (s : Nat) (w : World) (hL : LogAt w g p L) (hs : s ≤ 65535) :
    Calls Tryd.prog 42 #[.pointer (some ⟨g, 0, none⟩), .int .u16 s] w fun e w' => e = .returned (.tuple #[]) ∧ LogAt w' g p (L.wipe s) ∧ Touch (LS g p) w w' := by
  obtain ⟨hok, hb, ws, hws, hp⟩ := hL
  obtain ⟨hj, hj', x, hx, hx2, hx3⟩ := word_at hws hok s
  have hfin : LogAt (w.setCell ⟨p, s % L.size / 64, none⟩ (.int .u64 ((x &&& (18446744073709551615 - 2 ^ (s % L.size % 64)) : Nat) : Int))) g p (L.wipe s) := logAt_stored (L := L) hok rfl hb hp (words_wipe hws hok s x hx)
  have c0 := hb.cell 0
  have c1 := hb.cell 1
  have cx := hp.cell (s % L.size / 64)
  have fx := hp.free (s % L.size / 64)
  rw [List.getElem?_toArray, List.getElem?_map, List.getElem?_eq_getElem hj'] at cx
  rw [List.getD, List.getElem?_eq_getElem hj'] at hx
  simp only [Option.map_some, Option.getD_some] at cx hx
  rw [hx] at cx
  simp [logCells] at c0 c1
  obtain ⟨k1, k2, k3, _⟩ := hok
  have HX2 := Lib.hid hx2
  have HFIN := Lib.hid hfin
  obtain ⟨m, hm, hm'⟩ : ∃ m, L.size / 64 = m ∧ True := ⟨_, rfl, trivial⟩
  rw [hm] at hj c0
  clear hfin
  generalize hsz : L.size = size at *
  clear hsz hb hp hws hx hx2 hx3 hj' hm hm' k3
  have hmp : s % size < size := Nat.mod_lt _ (by omega)
  obtain ⟨r, hr, hr'⟩ : ∃ r : Nat, ((s : Int) % (size : Int)) = (r : Int) ∧ s % size = r := ⟨s % size, by omega, rfl⟩
  rw [hr'] at hj cx fx hmp
  rw [hr'] at HFIN
  have hjm : (r : Int) / 64 < (m : Int) := by omega
  clear hr' hj
  go_enter Tryd.func42, Tryd.ntmps42
  go_wp2_with fail
  go_end0
  have h2 := HX2.out
  rw [(del_andNot x (r % 64) h2 (by omega)).1]
  exact ⟨rfl, HFIN.out, (Touch.refl (LS g p) w).setCell (p := ⟨p, r / 64, none⟩) (fun _ => .inr rfl) _⟩

open Go.RowKit

/-- What fixLastConsecutive finds: the last number behind which one lacks, or the greatest one. -/
def FixRel (L : Log) (n : Nat) : Prop :=
  ∃ d, n = (L.last + d) % 65536 ∧ (∀ e, e < d → (L.last + 1 + e) % 65536 ≠ (L.top + 1) % 65536 ∧ L.has ((L.last + 1 + e) % 65536) = true) ∧
    ((L.last + 1 + d) % 65536 = (L.top + 1) % 65536 ∨ L.has ((L.last + 1 + d) % 65536) = false)

theorem u16_succ (i : Nat) : IntKind.u16.wrap ((i : Int) + 1) = (((i + 1) % 65536 : Nat) : Int) := by
  rw [IntKind.wrap_u16]; omega
theorem u16_pred (i : Nat) : IntKind.u16.wrap ((i : Int) - 1) = (((i + 65535) % 65536 : Nat) : Int) := by
  rw [IntKind.wrap_u16]; omega
theorem u16_sub (a b : Nat) (h : b ≤ 65535) : IntKind.u16.wrap ((a : Int) - (b : Int)) = (((a + (65536 - b)) % 65536 : Nat) : Int) := by
  rw [IntKind.wrap_u16]; omega

set_option maxHeartbeats 800000 in
theorem fix_any (g p : Nat) (L : Log) (w : World) (hL : LogAt w g p L) :
    Calls Tryd.prog 43 #[.pointer (some ⟨g, 0, none⟩)] w fun e w' => e = .returned (.tuple #[]) ∧ ∃ n, n ≤ 65535 ∧ FixRel L n ∧ LogAt w' g p { L with last := n } ∧ Touch (LS g p) w w' := by
  have hb := hL.2.1
  obtain ⟨k1, k2, k3, k4, k5⟩ := hL.1
  have c2 := hb.cell 2
  have c4 := hb.cell 4
  have f4 := hb.free 4
  simp [logCells] at c2 c4
  have s1 := u16_succ L.last
  have s2 := u16_succ L.top
  obtain ⟨i0, h0, h0'⟩ : ∃ i, (L.last + 1) % 65536 = i ∧ i ≤ 65535 := ⟨_, rfl, by omega⟩
  obtain ⟨t1, h1, h1'⟩ : ∃ i, (L.top + 1) % 65536 = i ∧ i ≤ 65535 := ⟨_, rfl, by omega⟩
  rw [h0] at s1
  rw [h1] at s2
  have HB := Lib.hid hb
  have HL := Lib.hid hL
  have H0 := Lib.hid h0
  have H1 := Lib.hid h1
  clear hb hL h0 h1
  go_enter Tryd.func43, Tryd.ntmps43
  go_wp2_with fail
  go_loop [2] (fun v => ∃ i d : Nat, v = .int .u16 i ∧ i ≤ 65535 ∧ Hid (i = (L.last + 1 + d) % 65536 ∧ ∀ e, e < d → (L.last + 1 + e) % 65536 ≠ (L.top + 1) % 65536 ∧ L.has ((L.last + 1 + e) % 65536) = true)) (fun v => ((t1 : Int) + 65536 - intOf v).toNat % 65536)
  case atStart => exact ⟨i0, 0, rfl, h0', by rw [← H0.out]; exact ⟨rfl, fun e he => by omega⟩⟩
  case round =>
    obtain ⟨i, d, rfl, hi, hd⟩ := hrel
    have hfin : ∀ L' : Log, L'.size = L.size → L'.top = L.top → L'.bits = L.bits → L'.started = L.started → L'.last = (i + 65535) % 65536 →
        LogAt (w.setCell ⟨g, 4, none⟩ (.int .u16 (((i + 65535) % 65536 : Nat) : Int))) g p L' := by
      intro L' e1 e2 e3 e4 e5
      obtain ⟨hok, hb, ws, hws, hp⟩ := HL.out
      have hne : p ≠ g := (hb.unlike hp (by decide)).symm
      refine ⟨⟨by omega, by omega, by omega, by omega, by omega⟩, ?_, ws, ?_, hp.far hne _⟩
      · have := hb.put 4 (.int .u16 (((i + 65535) % 65536 : Nat) : Int))
        simpa [logCells, e1, e2, e3, e4, e5] using this
      · obtain ⟨q1, q2, q3⟩ := hws
        exact ⟨by rw [e1]; exact q1, q2, fun q hq => by rw [e3]; exact q3 q (by omega)⟩
    have HF := Lib.hid hfin
    have s3 : Hid (IntKind.u16.wrap ((i : Int) - 1) = (((i + 65535) % 65536 : Nat) : Int)) := u16_pred i
    clear hfin
    by_cases he : i = t1
    · obtain rfl := he
      go_wp2_with (go_at_call 39; refine (getReceived_any g p L i _ HL.out hi).mono ?_; rintro e w' ⟨rfl, rfl⟩)
      go_end0
      rw [s3.out]
      refine ⟨rfl, (i + 65535) % 65536, by omega, ?_, HF.out { L with last := (i + 65535) % 65536 } rfl rfl rfl rfl rfl, (Touch.refl (LS g p) w).setCell (p := ⟨g, 4, none⟩) (fun _ => .inl rfl) _⟩
      obtain ⟨d1, d2⟩ := hd.out
      exact ⟨d, by omega, d2, Or.inl (d1.symm.trans H1.out.symm)⟩
    · have hne : (i != t1) = true := by simpa using he
      cases hh : L.has i with
      | false =>
        go_wp2_with (go_at_call 39; refine (getReceived_any g p L i _ HL.out hi).mono ?_; rintro e w' ⟨rfl, rfl⟩)
        go_end0
        rw [s3.out]
        refine ⟨rfl, (i + 65535) % 65536, by omega, ?_, HF.out { L with last := (i + 65535) % 65536 } rfl rfl rfl rfl rfl, (Touch.refl (LS g p) w).setCell (p := ⟨g, 4, none⟩) (fun _ => .inl rfl) _⟩
        obtain ⟨d1, d2⟩ := hd.out
        exact ⟨d, by omega, d2, Or.inr (d1 ▸ hh)⟩
      | true =>
        go_wp2_with (go_at_call 39; refine (getReceived_any g p L i _ HL.out hi).mono ?_; rintro e w' ⟨rfl, rfl⟩)
        obtain ⟨d1, d2⟩ := hd.out
        refine ⟨⟨(i + 1) % 65536, d + 1, by rw [u16_succ], by omega, by omega, fun e hE => ?_⟩, ?_⟩
        · rcases Nat.lt_or_ge e d with hl | hl
          · exact d2 e hl
          · obtain rfl : e = d := by omega
            rw [← d1, H1.out]
            exact ⟨he, hh⟩
        · rw [u16_succ]
          simp only [intOf]
          omega

open Go.RowKit

/-- The numbers behind 't' wiped out, so many. -/
def wipes (L : Log) (t : Nat) : Nat → Log
  | 0 => L
  | d + 1 => (wipes L t d).wipe ((t + 1 + d) % 65536)
theorem wipes_same (L : Log) (t d : Nat) : (wipes L t d).size = L.size ∧ (wipes L t d).top = L.top ∧ (wipes L t d).started = L.started ∧ (wipes L t d).last = L.last := by
  induction d with
  | zero => exact ⟨rfl, rfl, rfl, rfl⟩
  | succ d ih => exact ih

/-- What add makes of a log. -/
def AddRel (L : Log) (s : Nat) (L' : Log) : Prop :=
  if L.started = false then L' = { L.mark s with top := s, started := true, last := s }
  else if (s + (65536 - L.top)) % 65536 = 0 then L' = L
  else if (s + (65536 - L.top)) % 65536 < 32768 then
    if (L.last + 1) % 65536 = s then L' = Log.mark { wipes L L.top ((s + (65536 - L.top)) % 65536 - 1) with top := s, last := s } s
    else if L.size < (s + (65536 - L.last)) % 65536 then
      ∃ n, FixRel { wipes L L.top ((s + (65536 - L.top)) % 65536 - 1) with top := s, last := (s + (65536 - L.size)) % 65536 } n ∧
        L' = Log.mark { wipes L L.top ((s + (65536 - L.top)) % 65536 - 1) with top := s, last := n } s
    else L' = Log.mark { wipes L L.top ((s + (65536 - L.top)) % 65536 - 1) with top := s } s
  else if (L.last + 1) % 65536 = s then ∃ n, FixRel { L with last := s } n ∧ L' = Log.mark { L with last := n } s
  else L' = L.mark s

structure LogCells (w : World) (g : Nat) (L : Log) : Prop where
  c1 : w.cell? ⟨g, 1, none⟩ = some (.int .u16 L.size)
  c2 : w.cell? ⟨g, 2, none⟩ = some (.int .u16 L.top)
  c3 : w.cell? ⟨g, 3, none⟩ = some (.bool L.started)
  c4 : w.cell? ⟨g, 4, none⟩ = some (.int .u16 L.last)
  f2 : w.frozen? ⟨g, 2, none⟩ = false
  f3 : w.frozen? ⟨g, 3, none⟩ = false
  f4 : w.frozen? ⟨g, 4, none⟩ = false
theorem LogAt.got {w : World} {g p : Nat} {L : Log} (h : LogAt w g p L) : LogCells w g L := by
  have hb := h.2.1
  exact ⟨by simpa [logCells] using hb.cell 1, by simpa [logCells] using hb.cell 2, by simpa [logCells] using hb.cell 3, by simpa [logCells] using hb.cell 4, hb.free 2, hb.free 3, hb.free 4⟩

theorem LogAt.turn {w : World} {g p : Nat} {L : Log} (h : LogAt w g p L) (i : Nat) (v : Value) (L' : Log) (hok : L'.ok) (hs : L'.size = L.size) (hbits : L'.bits = L.bits)
    (hc : (logCells p L).setIfInBounds i v = logCells p L') : LogAt (w.setCell ⟨g, i, none⟩ v) g p L' := by
  obtain ⟨_, hb, ws, ⟨q1, q2, q3⟩, hp⟩ := h
  have hne : p ≠ g := (hb.unlike hp (by decide)).symm
  refine ⟨hok, ?_, ws, ⟨by rw [hs]; exact q1, q2, fun q hq => by rw [hbits]; exact q3 q (by omega)⟩, hp.far hne _⟩
  have := hb.put i v
  rwa [hc] at this
theorem LogAt.setTop {w : World} {g p : Nat} {L : Log} (h : LogAt w g p L) (s : Nat) (hs : s ≤ 65535) : LogAt (w.setCell ⟨g, 2, none⟩ (.int .u16 (s : Int))) g p { L with top := s } := by
  obtain ⟨k1, k2, k3, k4, k5⟩ := h.1
  exact h.turn 2 _ _ ⟨k1, k2, k3, hs, k5⟩ rfl rfl (by simp [logCells])
theorem LogAt.setLast {w : World} {g p : Nat} {L : Log} (h : LogAt w g p L) (s : Nat) (hs : s ≤ 65535) : LogAt (w.setCell ⟨g, 4, none⟩ (.int .u16 (s : Int))) g p { L with last := s } := by
  obtain ⟨k1, k2, k3, k4, k5⟩ := h.1
  exact h.turn 4 _ _ ⟨k1, k2, k3, k4, hs⟩ rfl rfl (by simp [logCells])
theorem LogAt.start {w : World} {g p : Nat} {L : Log} (h : LogAt w g p L) : LogAt (w.setCell ⟨g, 3, none⟩ (.bool true)) g p { L with started := true } := by
  obtain ⟨k1, k2, k3, k4, k5⟩ := h.1
  exact h.turn 3 _ _ ⟨k1, k2, k3, k4, k5⟩ rfl rfl (by simp [logCells])
theorem touch_own {w w' : World} {g p : Nat} (h : Touch (LS g p) w w') (i : Nat) (v : Value) : Touch (LS g p) w (w'.setCell ⟨g, i, none⟩ v) := h.setCell (p := ⟨g, i, none⟩) (fun _ => .inl rfl) _

def AddPost (g p : Nat) (L : Log) (s : Nat) (w : World) (e : Ending) (w' : World) : Prop :=
  e = .returned (.tuple #[]) ∧ ∃ L', AddRel L s L' ∧ LogAt w' g p L' ∧ Touch (LS g p) w w'

set_option maxHeartbeats 800000 in
theorem add_first (g p : Nat) (L : Log) (s : Nat) (w : World) (hL : LogAt w g p L) (hs : s ≤ 65535) (hst : L.started = false) :
    Calls Tryd.prog 38 #[.pointer (some ⟨g, 0, none⟩), .int .u16 s] w (AddPost g p L s w) := by
  obtain ⟨c1, c2, c3, c4, f2, f3, f4⟩ := hL.got
  rw [hst] at c3
  have HL := Lib.hid hL
  have HST := Lib.hid hst
  clear hL hst
  go_enter Tryd.func38, Tryd.ntmps38
  go_wp2_with fail
  refine (setReceived_any g p L s w HL.out hs).mono ?_
  rintro e w1 ⟨rfl, hL1, ht1⟩
  clear c1 c2 c3 c4 f2 f3 f4
  obtain ⟨c1, c2, c3, c4, f2, f3, f4⟩ := hL1.got
  have HL1 := Lib.hid hL1
  have HT1 := Lib.hid ht1
  clear hL1 ht1
  go_wp2_with fail
  refine bodyPost_ret (results_none rfl _ _ _) rfl ?_
  refine ⟨rfl, _, ?_, ((HL1.out.setTop s hs).start).setLast s hs, touch_own (touch_own (touch_own HT1.out _ _) _ _) _ _⟩
  rw [AddRel, if_pos HST.out]

set_option maxHeartbeats 800000 in
theorem add_same (g p : Nat) (L : Log) (s : Nat) (w : World) (hL : LogAt w g p L) (hst : L.started = true) (hd : (s + (65536 - L.top)) % 65536 = 0) :
    Calls Tryd.prog 38 #[.pointer (some ⟨g, 0, none⟩), .int .u16 s] w (AddPost g p L s w) := by
  obtain ⟨c1, c2, c3, c4, f2, f3, f4⟩ := hL.got
  have hd' := u16_sub s L.top hL.1.2.2.2.1
  rw [hd] at hd'
  rw [hst] at c3
  have HL := Lib.hid hL
  have HST := Lib.hid hst
  have HD := Lib.hid hd
  clear hL hst hd
  go_enter Tryd.func38, Tryd.ntmps38
  go_wp2_with fail
  refine bodyPost_ret (results_none rfl _ _ _) rfl ?_
  refine ⟨rfl, L, ?_, HL.out, Touch.refl _ _⟩
  rw [AddRel, if_neg (by simp [HST.out]), if_pos HD.out]

set_option maxHeartbeats 800000 in
theorem add_down (g p : Nat) (L : Log) (s : Nat) (w : World) (hL : LogAt w g p L) (hs : s ≤ 65535) (hst : L.started = true) (hd : 32768 ≤ (s + (65536 - L.top)) % 65536) :
    Calls Tryd.prog 38 #[.pointer (some ⟨g, 0, none⟩), .int .u16 s] w (AddPost g p L s w) := by
  obtain ⟨c1, c2, c3, c4, f2, f3, f4⟩ := hL.got
  have hd' := u16_sub s L.top hL.1.2.2.2.1
  obtain ⟨D, hD⟩ : ∃ D, (s + (65536 - L.top)) % 65536 = D := ⟨_, rfl⟩
  have hDlt : D < 65536 := by omega
  rw [hD] at hd hd'
  rw [hst] at c3
  have hl := u16_succ L.last
  obtain ⟨l1, hl1⟩ : ∃ l1, (L.last + 1) % 65536 = l1 := ⟨_, rfl⟩
  rw [hl1] at hl
  have HL := Lib.hid hL
  have HST := Lib.hid hst
  have HD := Lib.hid hD
  have HL1 := Lib.hid hl1
  clear hL hst hD hl1
  have hD0 : (D == 0) = false := by simp; omega
  have hD1 : ¬ D < 32768 := by omega
  have hD2 : ¬ (D : Int) < 32768 := by omega
  by_cases hn : l1 = s
  · obtain rfl := hn
    go_enter Tryd.func38, Tryd.ntmps38
    go_wp2_with fail
    have HL2 := Lib.hid (HL.out.setLast l1 hs)
    refine (fix_any g p _ _ HL2.out).mono ?_
    rintro e w1 ⟨rfl, n, hn, hfix, hL3, ht3⟩
    have HL3 := Lib.hid hL3
    have HT3 := Lib.hid ht3
    have HF := Lib.hid hfix
    clear hL3 ht3 hfix
    go_wp2_with fail
    refine (setReceived_any g p _ l1 _ HL3.out hs).mono ?_
    rintro e w2 ⟨rfl, hL4, ht4⟩
    have HL4 := Lib.hid hL4
    have HT4 := Lib.hid ht4
    clear hL4 ht4
    go_wp2_with fail
    go_end0
    refine ⟨rfl, _, ?_, HL4.out, ((touch_own (Touch.refl _ w) 4 _).trans HT3.out fun _ _ h => h).trans HT4.out fun _ _ h => h⟩
    rw [AddRel, if_neg (by simp [HST.out]), if_neg (by rw [HD.out]; omega), if_neg (by rw [HD.out]; omega), if_pos HL1.out]
    exact ⟨n, HF.out, rfl⟩
  · have hne : (l1 == s) = false := by simpa using hn
    have hne2 : ((l1 : Int) == (s : Int)) = false := by simp; omega
    have HN := Lib.hid hn
    clear hn
    go_enter Tryd.func38, Tryd.ntmps38
    go_wp2_with fail
    refine (setReceived_any g p _ s _ HL.out hs).mono ?_
    rintro e w2 ⟨rfl, hL4, ht4⟩
    have HL4 := Lib.hid hL4
    have HT4 := Lib.hid ht4
    clear hL4 ht4
    go_wp2_with fail
    go_end0
    refine ⟨rfl, _, ?_, HL4.out, HT4.out⟩
    rw [AddRel, if_neg (by simp [HST.out]), if_neg (by rw [HD.out]; omega), if_neg (by rw [HD.out]; omega), if_neg (by rw [HL1.out]; exact HN.out)]

set_option maxRecDepth 1000000 in
set_option maxHeartbeats 1600000 in
theorem add_up (g p : Nat) (L : Log) (s : Nat) (w : World) (hL : LogAt w g p L) (hs : s ≤ 65535) (hst : L.started = true) (hd0 : 0 < (s + (65536 - L.top)) % 65536) (hd : (s + (65536 - L.top)) % 65536 < 32768) :
    Calls Tryd.prog 38 #[.pointer (some ⟨g, 0, none⟩), .int .u16 s] w (AddPost g p L s w) := by
  obtain ⟨c1, c2, c3, c4, f2, f3, f4⟩ := hL.got
  obtain ⟨k1, k2, k3, k4, k5⟩ := hL.1
  have hd' := u16_sub s L.top k4
  obtain ⟨D, hD⟩ : ∃ D, (s + (65536 - L.top)) % 65536 = D := ⟨_, rfl⟩
  rw [hD] at hd hd' hd0
  obtain ⟨I, hI⟩ : ∃ I : Int, (D : Int) = I := ⟨_, rfl⟩
  rw [hI] at hd'
  have hD0 : (I == 0) = false := by simp; omega
  have hD2 : I < 32768 := by omega
  have hD3 : 0 ≤ I := by omega
  have HI := Lib.hid hI
  have HDD := Lib.hid hd
  rw [hst] at c3
  obtain ⟨t1, ht1, ht1'⟩ : ∃ t1, (L.top + 1) % 65536 = t1 ∧ t1 ≤ 65535 := ⟨_, rfl, by omega⟩
  have ht := u16_succ L.top
  rw [ht1] at ht
  have HL := Lib.hid hL
  have HST := Lib.hid hst
  have HD := Lib.hid hD
  have HT1 := Lib.hid ht1
  clear hL hst hD ht1 hI hd
  go_enter Tryd.func38, Tryd.ntmps38
  go_wp2_with fail

  go_loopw [5] (fun v wr => ∃ i d : Nat, v = .int .u16 i ∧ i ≤ 65535 ∧ d + 1 ≤ D ∧ Hid (i = (L.top + 1 + d) % 65536 ∧ LogAt wr g p (wipes L L.top d) ∧ Touch (LS g p) w wr)) (fun v _ => ((s : Int) + 65536 - intOf v).toNat % 65536)
  case atStart => exact ⟨t1, 0, rfl, ht1', by omega, by rw [← HT1.out]; exact ⟨rfl, HL.out, Touch.refl _ _⟩⟩
  case round =>
    obtain ⟨i, d, rfl, hi, hd3, hrel2⟩ := hrel
    have HR := hrel2
    clear hrel2
    by_cases he : i = s
    · obtain rfl := he
      have hdD : d = D - 1 := by
        have h1 := HR.out.1
        have h2 := HD.out
        have := HDD.out
        omega
      obtain ⟨e1, hLw, htw⟩ := HR.out
      rw [hdD] at hLw
      have HLW := Lib.hid hLw
      have HTW := Lib.hid htw
      obtain ⟨w1s, w2s, w3s, w4s⟩ := wipes_same L L.top (D - 1)
      obtain ⟨q1, q2, q3, q4, qf2, qf3, qf4⟩ := hLw.got
      rw [w1s] at q1
      rw [w2s] at q2
      rw [w3s, HST.out] at q3
      rw [w4s] at q4
      obtain ⟨Lw, hLww⟩ : ∃ Lw, wipes L L.top (D - 1) = Lw := ⟨_, rfl⟩
      rw [hLww] at HLW w1s w2s w3s w4s
      have hadd : ∀ L', (if (L.last + 1) % 65536 = i then L' = Log.mark { Lw with top := i, last := i } i
          else if L.size < (i + (65536 - L.last)) % 65536 then ∃ n, FixRel { Lw with top := i, last := (i + (65536 - L.size)) % 65536 } n ∧ L' = Log.mark { Lw with top := i, last := n } i
          else L' = Log.mark { Lw with top := i } i) → AddRel L i L' := by
        intro L' h
        rw [AddRel, if_neg (by simp [HST.out]), if_neg (by rw [HD.out]; omega), if_pos (by rw [HD.out]; exact HDD.out)]
        rw [HD.out, hLww]
        exact h
      have HADD := Lib.hid hadd
      have hok : (4 : Nat) = 4 := rfl
      have hl := u16_succ L.last
      obtain ⟨l1, hl1⟩ : ∃ l1, (L.last + 1) % 65536 = l1 := ⟨_, rfl⟩
      rw [hl1] at hl
      have HL1 := Lib.hid hl1
      have W4 := Lib.hid w4s
      have W1 := Lib.hid w1s
      clear hLw htw hLww w1s w2s w3s w4s hadd hok hl1 hdD c1 c2 c3 c4 f2 f3 f4 HR e1
      have HLT := Lib.hid (HLW.out.setTop i hs)
      by_cases hn : l1 = i
      · obtain rfl := hn
        go_wp2_with fail
        have HL2 := Lib.hid (HLT.out.setLast l1 hs)
        refine (setReceived_any g p _ l1 _ HL2.out hs).mono ?_
        rintro e w2 ⟨rfl, hL4, ht4⟩
        have HL4 := Lib.hid hL4
        have HT4 := Lib.hid ht4
        clear hL4 ht4
        go_wp2_with fail
        go_end0
        refine ⟨rfl, _, HADD.out _ ?_, HL4.out, (touch_own (touch_own HTW.out 2 _) 4 _).trans HT4.out fun _ _ h => h⟩
        rw [if_pos HL1.out]
      · have hne : (l1 == i) = false := by simpa using hn
        have HN := Lib.hid hn
        clear hn
        have hb' := u16_sub i L.last k5
        obtain ⟨b, hbb⟩ : ∃ b, (i + (65536 - L.last)) % 65536 = b := ⟨_, rfl⟩
        rw [hbb] at hb'
        have HB := Lib.hid hbb
        clear hbb
        by_cases hgt : L.size < b
        · have hgt' : (L.size : Int) < (b : Int) := by omega
          have hz' := u16_sub i L.size (by omega)
          obtain ⟨z, hz, hz2⟩ : ∃ z, (i + (65536 - L.size)) % 65536 = z ∧ z ≤ 65535 := ⟨_, rfl, by omega⟩
          rw [hz] at hz'
          have HZ := Lib.hid hz
          clear hz
          go_wp2_with fail
          go_quiet (fail)
          go_wp2_with fail
          have HL2 := Lib.hid ((LogAt.drewN (n := nq) HLT.out).setLast z hz2)
          refine (fix_any g p _ _ HL2.out).mono ?_
          rintro e w1 ⟨rfl, n, hn, hfix, hL3, ht3⟩
          have HL3 := Lib.hid hL3
          have HT3 := Lib.hid ht3
          have HF := Lib.hid hfix
          clear hL3 ht3 hfix
          go_wp2_with fail
          refine (setReceived_any g p _ i _ HL3.out hs).mono ?_
          rintro e w2 ⟨rfl, hL4, ht4⟩
          have HL4 := Lib.hid hL4
          have HT4 := Lib.hid ht4
          clear hL4 ht4
          go_wp2_with fail
          go_end0
          refine ⟨rfl, _, HADD.out _ ?_, HL4.out, ((touch_own ((touch_own HTW.out 2 _).drewN nq) 4 _).trans HT3.out fun _ _ h => h).trans HT4.out fun _ _ h => h⟩
          rw [if_neg (by rw [HL1.out]; exact HN.out), HB.out, if_pos hgt, HZ.out]
          exact ⟨n, HF.out, rfl⟩
        · have hgt' : ¬ (L.size : Int) < (b : Int) := by omega
          go_wp2_with fail
          go_quiet (fail)
          go_wp2_with fail
          refine (setReceived_any g p _ i _ (LogAt.drewN (n := nq) HLT.out) hs).mono ?_
          rintro e w2 ⟨rfl, hL4, ht4⟩
          have HL4 := Lib.hid hL4
          have HT4 := Lib.hid ht4
          clear hL4 ht4
          go_wp2_with fail
          go_end0
          refine ⟨rfl, _, HADD.out _ ?_, HL4.out, ((touch_own HTW.out 2 _).drewN nq).trans HT4.out fun _ _ h => h⟩
          rw [if_neg (by rw [HL1.out]; exact HN.out), HB.out, if_neg hgt]
    · have hne : (i != s) = true := by simpa using he
      have HN := Lib.hid he
      clear he c1 c2 c3 c4 f2 f3 f4
      have HLW := Lib.hid HR.out.2.1
      go_wp2_with fail
      refine (delReceived_any g p _ i _ HLW.out hi).mono ?_
      rintro e w2 ⟨rfl, hL4, ht4⟩
      have HL4 := Lib.hid hL4
      have HT4 := Lib.hid ht4
      clear hL4 ht4
      go_wp2_with fail
      refine ⟨⟨(i + 1) % 65536, d + 1, by rw [u16_succ], by omega, ?_, ?_⟩, ?_⟩
      · have h1 := HR.out.1
        have h2 := HD.out
        have h3 := HN.out
        have := HDD.out
        omega
      · have h1 := HR.out.1
        refine ⟨by omega, ?_, HR.out.2.2.trans HT4.out fun _ _ h => h⟩
        have h2 := HL4.out
        rw [h1] at h2
        exact h2
      · rw [u16_succ]
        have h3 := HN.out
        simp only [intOf]
        omega
end Go.Proofs.YtlkmmkphpiamcaaDoor
