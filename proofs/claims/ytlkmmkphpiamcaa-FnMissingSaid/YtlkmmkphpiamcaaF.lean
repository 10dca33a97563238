/-
  The receive log: its bits, and the contracts of setReceived, delReceived, getReceived. Conditions: the size is a multiple of 64 up to 32768; numbers of 16 bits. By an AI agent.
-/
import Derived.Test.YtlkmmkphpiamcaaD
namespace Go.Proofs.Ytlkmmkphpiamcaa
theorem pow64 (b : Nat) (hb : b < 64) : 2 ^ b < 18446744073709551616 := by
  have : 2 ^ b ≤ 2 ^ 63 := Nat.pow_le_pow_right (by omega) (by omega)
  omega
theorem wrapPow (b : Nat) (hb : b < 64) : IntKind.u64.wrap (2 ^ b) = ((2 ^ b : Nat) : Int) := by
  have := pow64 b hb
  rw [IntKind.wrap_u64]
  have e : ((2 : Int) ^ b) = ((2 ^ b : Nat) : Int) := by simp
  rw [e]
  generalize 2 ^ b = q at *
  omega
theorem and_pow (x b : Nat) : x &&& 2 ^ b = if x.testBit b then 2 ^ b else 0 := by
  apply Nat.eq_of_testBit_eq
  intro i
  rw [Nat.testBit_and, Nat.testBit_two_pow]
  by_cases h : b = i
  · subst h
    cases hx : x.testBit b <;> simp
  · cases hx : x.testBit b <;> simp [h]
theorem testBit_and (x b : Nat) (hx : x < 18446744073709551616) (hb : b < 64) : (bits BinOp.and IntKind.u64 (x : Int) (IntKind.u64.wrap (2 ^ b)) != 0) = x.testBit b := by
  rw [wrapPow b hb, u64_and_nat x _ hx (pow64 b hb)]
  rw [and_pow]
  have h0 : 0 < 2 ^ b := Nat.two_pow_pos b
  generalize 2 ^ b = q at *
  cases h : x.testBit b
  · simp
  · simp
    omega
theorem set_or (x b : Nat) (hx : x < 18446744073709551616) (hb : b < 64) : bits BinOp.or IntKind.u64 (x : Int) (IntKind.u64.wrap (2 ^ b)) = ((x ||| 2 ^ b : Nat) : Int) ∧ x ||| 2 ^ b < 18446744073709551616 := by
  rw [wrapPow b hb]
  refine ⟨u64_or_nat x _ hx (pow64 b hb), ?_⟩
  exact Nat.or_lt_two_pow (n := 64) hx (pow64 b hb)
theorem del_andNot (x b : Nat) (hx : x < 18446744073709551616) (hb : b < 64) : bits BinOp.andNot IntKind.u64 (x : Int) (IntKind.u64.wrap (2 ^ b)) = ((x &&& (18446744073709551615 - 2 ^ b) : Nat) : Int) ∧ x &&& (18446744073709551615 - 2 ^ b) < 18446744073709551616 := by
  rw [wrapPow b hb]
  refine ⟨u64_andNot_nat x _ hx (pow64 b hb), ?_⟩
  exact Nat.lt_of_le_of_lt Nat.and_le_left hx
theorem testBit_set (x b i : Nat) : (x ||| 2 ^ b).testBit i = (x.testBit i || decide (b = i)) := by
  rw [Nat.testBit_or, Nat.testBit_two_pow]
theorem testBit_del (x b i : Nat) (hb : b < 64) (hi : i < 64) : (x &&& (18446744073709551615 - 2 ^ b)).testBit i = (x.testBit i && !decide (b = i)) := by
  rw [Nat.testBit_and]
  congr 1
  have h := Nat.testBit_two_pow_sub_succ (n := 64) (x := 2 ^ b) (pow64 b hb) i
  have e : 2 ^ 64 - (2 ^ b + 1) = 18446744073709551615 - 2 ^ b := by omega
  rw [e] at h
  rw [h, Nat.testBit_two_pow]
  simp [hi]
open Go.RowKit

/-- A receive log as data: which places are marked, its size, the greatest number, whether it has begun, the last number up to which all came. -/
structure Log where
  bits : Nat → Bool
  size : Nat
  top : Nat
  started : Bool
  last : Nat

def Log.ok (L : Log) : Prop := 64 ≤ L.size ∧ L.size ≤ 32768 ∧ L.size % 64 = 0 ∧ L.top ≤ 65535 ∧ L.last ≤ 65535
def W64 : Nat := 18446744073709551616
def Words (L : Log) (ws : List Nat) : Prop :=
  ws.length = L.size / 64 ∧ (∀ x ∈ ws, x < W64) ∧ ∀ q, q < L.size → (ws.getD (q / 64) 0).testBit (q % 64) = L.bits q
def logCells (p : Nat) (L : Log) : Array Value :=
  #[.slice (some ⟨p, 0, none⟩) (L.size / 64) (L.size / 64), .int .u16 L.size, .int .u16 L.top, .bool L.started, .int .u16 L.last]
/-- The log lies in block g, its words in block p. -/
def LogAt (w : World) (g p : Nat) (L : Log) : Prop :=
  L.ok ∧ Blk w g 179 (logCells p L) ∧ ∃ ws : List Nat, Words L ws ∧ Blk w p 205 (ws.map fun x : Nat => Value.int .u64 (x : Int)).toArray
def LS (g p : Nat) : Nat → Prop := fun b => b = g ∨ b = p

theorem LogAt.touch {w w' : World} {g p : Nat} {L : Log} {S : Nat → Prop} (h : LogAt w g p L) (ht : Touch S w w') (hg : ¬ S g) (hp : ¬ S p) : LogAt w' g p L := by
  obtain ⟨h1, h2, ws, h3, h4⟩ := h
  exact ⟨h1, h2.touch ht hg, ws, h3, h4.touch ht hp⟩
theorem LogAt.drewN {w : World} {g p n : Nat} {L : Log} (h : LogAt w g p L) : LogAt (w.drewN n) g p L := h
theorem LogAt.alloc {w : World} {g p : Nat} {L : Log} (h : LogAt w g p L) (o : Obj) : LogAt (w.alloc o) g p L :=
  h.touch (S := Nowhere) ((Touch.refl _ _).alloc o) (fun e => e) (fun e => e)

def Log.mark (L : Log) (s : Nat) : Log := { L with bits := fun q => L.bits q || decide (q = s % L.size) }
def Log.wipe (L : Log) (s : Nat) : Log := { L with bits := fun q => L.bits q && !decide (q = s % L.size) }
def Log.has (L : Log) (s : Nat) : Bool := L.bits (s % L.size)

theorem word_at {L : Log} {ws : List Nat} (h : Words L ws) (hk : L.ok) (s : Nat) : s % L.size / 64 < L.size / 64 ∧ s % L.size / 64 < ws.length ∧
    ∃ x, ws.getD (s % L.size / 64) 0 = x ∧ x < W64 ∧ x.testBit (s % L.size % 64) = L.has s := by
  obtain ⟨h1, h2, h3⟩ := h
  obtain ⟨k1, k2, k3, _⟩ := hk
  have hlt : s % L.size < L.size := Nat.mod_lt _ (by omega)
  have hj : s % L.size / 64 < L.size / 64 := by omega
  refine ⟨hj, by omega, _, rfl, ?_, h3 _ hlt⟩
  rw [List.getD, List.getElem?_eq_getElem (by omega)]
  exact h2 _ (List.getElem_mem _)

set_option maxHeartbeats 800000 in
theorem getReceived_any (g p : Nat) (L : Log) (s : Nat) (w : World) (hL : LogAt w g p L) (hs : s ≤ 65535) :
    Calls Try.prog 89 #[.pointer (some ⟨g, 0, none⟩), .int .u16 s] w fun e w' => e = .returned (.bool (L.has s)) ∧ w = w' := by
  obtain ⟨hok, hb, ws, hws, hp⟩ := hL
  obtain ⟨hj, hj', x, hx, hx2, hx3⟩ := word_at hws hok s
  have c0 := hb.cell 0
  have c1 := hb.cell 1
  have cx := hp.cell (s % L.size / 64)
  rw [List.getElem?_toArray, List.getElem?_map, List.getElem?_eq_getElem hj'] at cx
  rw [List.getD, List.getElem?_eq_getElem hj'] at hx
  simp only [Option.map_some, Option.getD_some] at cx hx
  rw [hx] at cx
  simp [logCells] at c0 c1
  obtain ⟨k1, k2, k3, _⟩ := hok
  have HX2 := Lib.hid hx2
  have HX3 := Lib.hid hx3
  obtain ⟨m, hm, hm'⟩ : ∃ m, L.size / 64 = m ∧ True := ⟨_, rfl, trivial⟩
  rw [hm] at hj c0
  generalize hsz : L.size = size at *
  have HSZ := Lib.hid hsz
  clear hsz hb hp hws hx hx2 hx3 hj' hm hm' k3
  have hmp : s % size < size := Nat.mod_lt _ (by omega)
  obtain ⟨r, hr, hr'⟩ : ∃ r : Nat, ((s : Int) % (size : Int)) = (r : Int) ∧ s % size = r := ⟨s % size, by omega, rfl⟩
  rw [hr'] at hj cx hmp
  have HR := Lib.hid hr'
  have hjm : (r : Int) / 64 < (m : Int) := by omega
  clear hr' hj
  go_enter Try.func89, Try.ntmps89
  go_wp2_with fail
  go_ret
  refine ⟨?_, rfl⟩
  have h2 := HX2.out
  rw [HR.out] at HX3
  show Ending.returned (.bool (bits BinOp.and IntKind.u64 (x : Int) (IntKind.u64.wrap (2 ^ (r % 64))) != 0)) = _
  rw [testBit_and x (r % 64) h2 (by omega), HX3.out]

theorem getD_set {l : List Nat} {j k : Nat} {x : Nat} (hj : j < l.length) : (l.set j x).getD k 0 = if j = k then x else l.getD k 0 := by
  by_cases h : j = k
  · subst h
    simp [List.getD, hj]
  · simp [List.getD, h]

theorem words_mark {L : Log} {ws : List Nat} (h : Words L ws) (hk : L.ok) (s x : Nat) (hx : ws.getD (s % L.size / 64) 0 = x) :
    Words (L.mark s) (ws.set (s % L.size / 64) (x ||| 2 ^ (s % L.size % 64))) := by
  obtain ⟨h1, h2, h3⟩ := h
  obtain ⟨hj, hj', _⟩ := word_at ⟨h1, h2, h3⟩ hk s
  have hx2 : x < W64 := by
    rw [← hx, List.getD, List.getElem?_eq_getElem hj']
    exact h2 _ (List.getElem_mem _)
  refine ⟨by simpa [Log.mark] using h1, fun y hy => ?_, fun q hq => ?_⟩
  · rcases List.mem_or_eq_of_mem_set hy with hy | rfl
    · exact h2 y hy
    · exact (set_or x _ hx2 (by omega)).2
  · rw [getD_set hj']
    have h4 := h3 q hq
    simp only [Log.mark] at hq ⊢
    by_cases he : s % L.size / 64 = q / 64
    · rw [if_pos he, testBit_set]
      rw [← he, hx] at h4
      rw [h4]
      congr 1
      rw [Bool.eq_iff_iff]
      simp
      omega
    · rw [if_neg he, h4]
      have : ¬ q = s % L.size := by rintro rfl; exact he rfl
      simp [this]
theorem words_wipe {L : Log} {ws : List Nat} (h : Words L ws) (hk : L.ok) (s x : Nat) (hx : ws.getD (s % L.size / 64) 0 = x) :
    Words (L.wipe s) (ws.set (s % L.size / 64) (x &&& (18446744073709551615 - 2 ^ (s % L.size % 64)))) := by
  obtain ⟨h1, h2, h3⟩ := h
  obtain ⟨hj, hj', _⟩ := word_at ⟨h1, h2, h3⟩ hk s
  have hx2 : x < W64 := by
    rw [← hx, List.getD, List.getElem?_eq_getElem hj']
    exact h2 _ (List.getElem_mem _)
  refine ⟨by simpa [Log.wipe] using h1, fun y hy => ?_, fun q hq => ?_⟩
  · rcases List.mem_or_eq_of_mem_set hy with hy | rfl
    · exact h2 y hy
    · exact (del_andNot x _ hx2 (by omega)).2
  · rw [getD_set hj']
    have h4 := h3 q hq
    simp only [Log.wipe] at hq ⊢
    by_cases he : s % L.size / 64 = q / 64
    · rw [if_pos he, testBit_del _ _ _ (by omega) (by omega)]
      rw [← he, hx] at h4
      rw [h4]
      congr 2
      rw [Bool.eq_iff_iff]
      simp
      omega
    · rw [if_neg he, h4]
      have : ¬ q = s % L.size := by rintro rfl; exact he rfl
      simp [this]

theorem logAt_stored {w : World} {g p : Nat} {L L' : Log} {ws : List Nat} {j x : Nat} (hok : L'.ok) (hc : logCells p L' = logCells p L) (hb : Blk w g 179 (logCells p L))
    (hp : Blk w p 205 (ws.map fun x : Nat => Value.int .u64 (x : Int)).toArray) (hw : Words L' (ws.set j x)) : LogAt (w.setCell ⟨p, j, none⟩ (.int .u64 (x : Int))) g p L' := by
  have hne : g ≠ p := hb.unlike hp (by decide)
  refine ⟨hok, by rw [hc]; exact hb.far hne _, _, hw, ?_⟩
  have := hp.put j (.int .u64 (x : Int))
  simpa [List.map_set] using this

set_option maxHeartbeats 800000 in
theorem setReceived_any (g p : Nat) (L : Log) (s : Nat) (w : World) (hL : LogAt w g p L) (hs : s ≤ 65535) :
    Calls Try.prog 106 #[.pointer (some ⟨g, 0, none⟩), .int .u16 s] w fun e w' => e = .returned (.tuple #[]) ∧ LogAt w' g p (L.mark s) ∧ Touch (LS g p) w w' := by
  obtain ⟨hok, hb, ws, hws, hp⟩ := hL
  obtain ⟨hj, hj', x, hx, hx2, hx3⟩ := word_at hws hok s
  have hfin : LogAt (w.setCell ⟨p, s % L.size / 64, none⟩ (.int .u64 ((x ||| 2 ^ (s % L.size % 64) : Nat) : Int))) g p (L.mark s) := logAt_stored (L := L) hok rfl hb hp (words_mark hws hok s x hx)
  have c0 := hb.cell 0
  have c1 := hb.cell 1
  have cx := hp.cell (s % L.size / 64)
  have fx := hp.free (s % L.size / 64)
  rw [List.getElem?_toArray, List.getElem?_map, List.getElem?_eq_getElem hj'] at cx
  rw [List.getD, List.getElem?_eq_getElem hj'] at hx
  simp only [Option.map_some, Option.getD_some] at cx hx
  rw [hx] at cx
  simp [logCells] at c0 c1
  obtain ⟨k1, k2, k3, _⟩ := hok
  have HX2 := Lib.hid hx2
  have HFIN := Lib.hid hfin
  obtain ⟨m, hm, hm'⟩ : ∃ m, L.size / 64 = m ∧ True := ⟨_, rfl, trivial⟩
  rw [hm] at hj c0
  clear hfin
  generalize hsz : L.size = size at *
  clear hsz hb hp hws hx hx2 hx3 hj' hm hm' k3
  have hmp : s % size < size := Nat.mod_lt _ (by omega)
  obtain ⟨r, hr, hr'⟩ : ∃ r : Nat, ((s : Int) % (size : Int)) = (r : Int) ∧ s % size = r := ⟨s % size, by omega, rfl⟩
  rw [hr'] at hj cx fx hmp
  rw [hr'] at HFIN
  have hjm : (r : Int) / 64 < (m : Int) := by omega
  clear hr' hj
  go_enter Try.func106, Try.ntmps106
  go_wp2_with fail
  go_end0
  have h2 := HX2.out
  rw [(set_or x (r % 64) h2 (by omega)).1]
  exact ⟨rfl, HFIN.out, (Touch.refl (LS g p) w).setCell (p := ⟨p, r / 64, none⟩) (fun _ => .inr rfl) _⟩

set_option maxHeartbeats 800000 in
theorem delReceived_any (g p : Nat) (L : Log) (s : Nat) (w : World) (hL : LogAt w g p L) (hs : s ≤ 65535) :
    Calls Try.prog 107 #[.pointer (some ⟨g, 0, none⟩), .int .u16 s] w fun e w' => e = .returned (.tuple #[]) ∧ LogAt w' g p (L.wipe s) ∧ Touch (LS g p) w w' := by
  obtain ⟨hok, hb, ws, hws, hp⟩ := hL
  obtain ⟨hj, hj', x, hx, hx2, hx3⟩ := word_at hws hok s
  have hfin : LogAt (w.setCell ⟨p, s % L.size / 64, none⟩ (.int .u64 ((x &&& (18446744073709551615 - 2 ^ (s % L.size % 64)) : Nat) : Int))) g p (L.wipe s) := logAt_stored (L := L) hok rfl hb hp (words_wipe hws hok s x hx)
  have c0 := hb.cell 0
  have c1 := hb.cell 1
  have cx := hp.cell (s % L.size / 64)
  have fx := hp.free (s % L.size / 64)
  rw [List.getElem?_toArray, List.getElem?_map, List.getElem?_eq_getElem hj'] at cx
  rw [List.getD, List.getElem?_eq_getElem hj'] at hx
  simp only [Option.map_some, Option.getD_some] at cx hx
  rw [hx] at cx
  simp [logCells] at c0 c1
  obtain ⟨k1, k2, k3, _⟩ := hok
  have HX2 := Lib.hid hx2
  have HFIN := Lib.hid hfin
  obtain ⟨m, hm, hm'⟩ : ∃ m, L.size / 64 = m ∧ True := ⟨_, rfl, trivial⟩
  rw [hm] at hj c0
  clear hfin
  generalize hsz : L.size = size at *
  clear hsz hb hp hws hx hx2 hx3 hj' hm hm' k3
  have hmp : s % size < size := Nat.mod_lt _ (by omega)
  obtain ⟨r, hr, hr'⟩ : ∃ r : Nat, ((s : Int) % (size : Int)) = (r : Int) ∧ s % size = r := ⟨s % size, by omega, rfl⟩
  rw [hr'] at hj cx fx hmp
  rw [hr'] at HFIN
  have hjm : (r : Int) / 64 < (m : Int) := by omega
  clear hr' hj
  go_enter Try.func107, Try.ntmps107
  go_wp2_with fail
  go_end0
  have h2 := HX2.out
  rw [(del_andNot x (r % 64) h2 (by omega)).1]
  exact ⟨rfl, HFIN.out, (Touch.refl (LS g p) w).setCell (p := ⟨p, r / 64, none⟩) (fun _ => .inr rfl) _⟩
end Go.Proofs.Ytlkmmkphpiamcaa
