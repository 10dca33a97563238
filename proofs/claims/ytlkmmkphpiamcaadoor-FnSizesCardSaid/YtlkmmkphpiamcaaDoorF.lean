/-
  The buffer of packets: its packets, its places. Conditions: the packets lie in blocks of their own. By an AI agent.
-/
import Derived.Test.YtlkmmkphpiamcaaDoorE
namespace Go.Proofs.YtlkmmkphpiamcaaDoor
open Go.RowKit

def BPowPost (size : Nat) (w : World) (e : Ending) (w' : World) : Prop :=
  w = w' ∧ ((IsPow size ∧ e = .returned .nilIface) ∨ (¬ IsPow size ∧ ∃ t x, e = .returned (.iface t x)))

set_option maxHeartbeats 800000 in
theorem bpower_any (size : Nat) (w : World) (hv : ¬ IsPow size → ∃ t x, w.cell? ⟨0, 0, none⟩ = some (.iface t x)) : Calls Tryd.prog 30 #[.int .u16 size] w (BPowPost size w) := by
  have HV := Lib.hid hv
  clear hv
  go_enter Tryd.func30, Tryd.ntmps30
  go_wp2_with fail
  go_loop [4] (fun v => ∃ k : Nat, v = .int .i64 k ∧ k ≤ 16 ∧ Hid (∀ j, j < k → size ≠ 2 ^ j)) (fun v => 16 - (intOf v).toNat)
  case atStart => exact ⟨0, rfl, by omega, fun j hj => by omega⟩
  case round =>
    obtain ⟨k, rfl, hk, hno⟩ := hrel
    by_cases hlt : k < 16
    · have hp := pow_wrap k hlt
      by_cases he : size = 2 ^ k
      · have hE : ((size : Int) == IntKind.u16.wrap (2 ^ k)) = true := by rw [hp, he]; simp
        have HE := Lib.hid he
        clear hp he
        go_wp2_with fail
        go_ret
        exact ⟨rfl, .inl ⟨⟨k, hlt, HE.out⟩, rfl⟩⟩
      · have hE : ((size : Int) == IntKind.u16.wrap (2 ^ k)) = false := by rw [hp]; simp; exact_mod_cast he
        have HE := Lib.hid he
        clear hp he
        go_wp2_with fail
        refine ⟨⟨k + 1, by go_num, by omega, fun j hj => ?_⟩, by simp [intOf]; omega⟩
        rcases Nat.lt_or_ge j k with h | h
        · exact hno.out j h
        · obtain rfl : j = k := by omega
          exact HE.out
    · obtain rfl : k = 16 := by omega
      have hn : ¬ IsPow size := by
        rintro ⟨i, hi, he⟩
        exact hno.out i hi he
      obtain ⟨t, x, hc⟩ := HV.out hn
      have HN := Lib.hid hn
      clear hn
      go_wp2_with fail
      go_ret
      exact ⟨rfl, .inr ⟨HN.out, t, x, rfl⟩⟩

/-- A packet that a buffer holds: its number, and its three bytes. -/
def pktCells (fac : Value) (hd : Option Addr) (pl s : Nat) (cnt : Int) : Array Value :=
  #[.func (.func 31) #[fac] #[], .int .i64 cnt, .pointer hd, .pointer none, .slice (some ⟨pl, 0, none⟩) 3 3, .int .u16 s, .int .u64 0, .int .i64 0, .pointer none, .bool false]

set_option maxHeartbeats 800000 in
theorem retain_any (b pl s : Nat) (fac : Value) (hd : Option Addr) (w : World) (hb : Blk w b 86 (pktCells fac hd pl s 1)) :
    Calls Tryd.prog 32 #[.pointer (some ⟨b, 0, none⟩)] w fun e w' => e = .returned .nilIface ∧ w' = w.setCell ⟨b, 1, none⟩ (.int .i64 2) := by
  have c1 : w.cell? ⟨b, 1, none⟩ = some (.int .i64 1) := hb.cell 1
  have f1 := hb.free 1
  have HB := Lib.hid hb
  clear hb
  go_enter Tryd.func32, Tryd.ntmps32
  go_wp2_with fail
  go_ret
  exact ⟨rfl, rfl⟩

set_option maxHeartbeats 800000 in
theorem release_two (b pl s : Nat) (fac : Value) (hd : Option Addr) (w : World) (hb : Blk w b 86 (pktCells fac hd pl s 2)) :
    Calls Tryd.prog 22 #[.pointer (some ⟨b, 0, none⟩)] w fun e w' => e = .returned (.tuple #[]) ∧ w' = w.setCell ⟨b, 1, none⟩ (.int .i64 1) := by
  have c1 : w.cell? ⟨b, 1, none⟩ = some (.int .i64 2) := hb.cell 1
  have f1 := hb.free 1
  have HB := Lib.hid hb
  clear hb
  go_enter Tryd.func22, Tryd.ntmps22
  go_wp2_with fail
  go_end0
  exact ⟨rfl, rfl⟩

set_option maxHeartbeats 800000 in
theorem relpkt_any (f h p : Value) (w : World) : Calls Tryd.prog 31 #[f, h, p] w fun e w' => e = .returned (.tuple #[]) ∧ w' = w := by
  go_enter Tryd.func31, Tryd.ntmps31
  go_wp2_with fail
  go_end0
  exact ⟨rfl, rfl⟩

set_option maxHeartbeats 800000 in
theorem release_last (b pl s : Nat) (fac : Value) (hd : Option Addr) (w : World) (hb : Blk w b 86 (pktCells fac hd pl s 1)) :
    Calls Tryd.prog 22 #[.pointer (some ⟨b, 0, none⟩)] w fun e w' => e = .returned (.tuple #[]) ∧ Touch (· = b) w w' := by
  have c0 : w.cell? ⟨b, 0, none⟩ = some (.func (.func 31) #[fac] #[]) := hb.cell 0
  have c1 : w.cell? ⟨b, 1, none⟩ = some (.int .i64 1) := hb.cell 1
  have c2 : w.cell? ⟨b, 2, none⟩ = some (.pointer hd) := hb.cell 2
  have c3 : w.cell? ⟨b, 3, none⟩ = some (.pointer none) := hb.cell 3
  have c4 : w.cell? ⟨b, 4, none⟩ = some (.slice (some ⟨pl, 0, none⟩) 3 3) := hb.cell 4
  have f1 := hb.free 1
  have f2 := hb.free 2
  have f3 := hb.free 3
  have f4 := hb.free 4
  have HB := Lib.hid hb
  clear hb
  go_enter Tryd.func22, Tryd.ntmps22
  go_wp2_with fail
  go_quiet ((go_at_call 31; exact Calls.quiet_of_same (relpkt_any _ _ _ _)))
  go_wp2_with fail
  go_end0
  refine ⟨rfl, ?_⟩
  exact ((((((Touch.refl (· = b) w).setCell (p := ⟨b, 1, none⟩) (fun _ => rfl) _).drewN nq).setCell (p := ⟨b, 2, none⟩) (fun _ => rfl) _).setCell (p := ⟨b, 3, none⟩) (fun _ => rfl) _).setCell (p := ⟨b, 4, none⟩) (fun _ => rfl) _)

structure Pkt where
  blk : Nat
  seq : Nat
  idx : Nat
/-- A live packet in memory: counted once. -/
def PktAt (w : World) (k : Pkt) : Prop := k.seq ≤ 65535 ∧ k.idx ≤ 255 ∧ ∃ fac hd pl, Blk w k.blk 86 (pktCells fac hd pl k.seq 1) ∧ Blk w pl 5 #[.int .u8 0, .int .u8 0, .int .u8 k.idx]
theorem PktAt.touch {w w' : World} {k : Pkt} {S : Nat → Prop} (h : PktAt w k) (ht : Touch S w w') (hb : ¬ S k.blk) (hp : ∀ pl cs, Blk w pl 5 cs → ¬ S pl) : PktAt w' k := by
  obtain ⟨h1, h2, fac, hd, pl, h3, h4⟩ := h
  exact ⟨h1, h2, fac, hd, pl, h3.touch ht hb, h4.touch ht (hp pl _ h4)⟩

/-- A buffer as data: what lies in each place, its size, the greatest number, whether it has begun. -/
structure RB where
  slots : Nat → Option Pkt
  size : Nat
  top : Nat
  started : Bool
def slotVal : Option Pkt → Value
  | none => .pointer none
  | some k => .pointer (some ⟨k.blk, 0, none⟩)
def bufCells (p : Nat) (R : RB) : Array Value := #[.slice (some ⟨p, 0, none⟩) R.size R.size, .int .u16 R.size, .int .u16 R.top, .bool R.started]
structure BufAt (B : Nat) (w : World) (g p : Nat) (R : RB) : Prop where
  s0 : 64 ≤ R.size
  s1 : R.size ≤ 32768
  t1 : R.top ≤ 65535
  hg : B ≤ g
  hp : B ≤ p
  head : Blk w g 78 (bufCells p R)
  row : ∃ cs : Array Value, Blk w p 51 cs ∧ cs.size = R.size ∧ ∀ j, j < R.size → cs[j]? = some (slotVal (R.slots j))
  pkts : ∀ j k, j < R.size → R.slots j = some k → PktAt w k ∧ B ≤ k.blk
  inj : ∀ i j k l, i < R.size → j < R.size → R.slots i = some k → R.slots j = some l → k.blk = l.blk → i = j

def RB.put (R : RB) (j : Nat) (o : Option Pkt) : RB := { R with slots := fun q => if q = j then o else R.slots q }

theorem slots_put {R : RB} {cs : Array Value} {j : Nat} {o : Option Pkt} (hs : cs.size = R.size) (hc : ∀ i, i < R.size → cs[i]? = some (slotVal (R.slots i))) (hj : j < R.size) :
    (cs.setIfInBounds j (slotVal o)).size = (R.put j o).size ∧ ∀ i, i < (R.put j o).size → (cs.setIfInBounds j (slotVal o))[i]? = some (slotVal ((R.put j o).slots i)) := by
  refine ⟨by simpa [RB.put] using hs, fun i hi => ?_⟩
  simp only [RB.put] at hi ⊢
  rw [Array.getElem?_setIfInBounds]
  by_cases h : j = i
  · subst h
    rw [if_pos rfl, if_pos (by omega), if_pos rfl]
  · rw [if_neg h, if_neg (Ne.symm h)]
    exact hc i hi

/-- Everything but the packet of one place is as it was. -/
def KeepsBut (R : RB) (j : Nat) (w w1 : World) : Prop := ∀ x t c, Blk w x t c → (t = 86 → ∀ k, R.slots j = some k → x ≠ k.blk) → Blk w1 x t c
theorem keeps_refl (R : RB) (j : Nat) (w : World) : KeepsBut R j w w := fun _ _ _ h _ => h
theorem keeps_touch {R : RB} {j : Nat} {k : Pkt} {w w1 : World} (hk : R.slots j = some k) (hp : PktAt w k) (ht : Touch (· = k.blk) w w1) : KeepsBut R j w w1 := by
  intro x t c hx hn
  refine hx.touch ht fun (e : x = k.blk) => ?_
  obtain ⟨_, _, fac, hd, pl, h3, _⟩ := hp
  by_cases h86 : t = 86
  · exact hn h86 k hk e
  · exact hx.unlike h3 h86 e

/-- A store into a place, behind the release of what was there. -/
theorem buf_store {B : Nat} {w w1 : World} {g p j : Nat} {R : RB} (h : BufAt B w g p R) (hj : j < R.size) (o : Option Pkt) (hkeep : KeepsBut R j w w1)
    (hnew : ∀ k, o = some k → PktAt w1 k ∧ B ≤ k.blk ∧ ∀ i l, i < R.size → R.slots i = some l → l.blk ≠ k.blk) : BufAt B (w1.setCell ⟨p, j, none⟩ (slotVal o)) g p (R.put j o) := by
  obtain ⟨s0, s1, t1, hg, hp, hh, ⟨cs, hr, hs, hc⟩, hk, hi⟩ := h
  have hgp : g ≠ p := hh.unlike hr (by decide)
  have keepB : ∀ x t c, Blk w x t c → t ≠ 86 → Blk w1 x t c := fun x t c hx ht => hkeep x t c hx fun e => absurd e ht
  have hr1 := keepB _ _ _ hr (by decide)
  have far : ∀ k, PktAt w1 k → PktAt (w1.setCell ⟨p, j, none⟩ (slotVal o)) k := by
    rintro k ⟨q1, q2, fac, hd, pl, q3, q4⟩
    exact ⟨q1, q2, fac, hd, pl, q3.far (p := ⟨p, j, none⟩) (q3.unlike hr1 (by decide)) _, q4.far (p := ⟨p, j, none⟩) (q4.unlike hr1 (by decide)) _⟩
  refine ⟨s0, s1, t1, hg, hp, (keepB _ _ _ hh (by decide)).far (p := ⟨p, j, none⟩) hgp _, ⟨_, hr1.put j _, slots_put (o := o) hs hc hj⟩, fun i k hi2 hk2 => ?_, fun i i' k l h1 h2 h3 h4 h5 => ?_⟩
  · simp only [RB.put] at hk2 hi2
    split at hk2
    · obtain ⟨n1, n2, _⟩ := hnew k hk2
      exact ⟨far k n1, n2⟩
    · rename_i hij
      obtain ⟨⟨q1, q2, fac, hd, pl, q3, q4⟩, hB⟩ := hk i k hi2 hk2
      exact ⟨far k ⟨q1, q2, fac, hd, pl, hkeep _ _ _ q3 (fun _ k' hk' e => hij (hi i j k k' hi2 hj hk2 hk' e)), keepB _ _ _ q4 (by decide)⟩, hB⟩
  · simp only [RB.put] at h1 h2 h3 h4
    split at h3
    · split at h4
      · omega
      · obtain ⟨_, _, n3⟩ := hnew k h3
        exact absurd h5.symm (n3 i' l h2 h4)
    · split at h4
      · obtain ⟨_, _, n3⟩ := hnew l h4
        exact absurd h5 (n3 i k h1 h3)
      · exact hi i i' k l h1 h2 h3 h4 h5

structure BufCells (w : World) (g p : Nat) (R : RB) : Prop where
  c0 : w.cell? ⟨g, 0, none⟩ = some (.slice (some ⟨p, 0, none⟩) R.size R.size)
  c1 : w.cell? ⟨g, 1, none⟩ = some (.int .u16 R.size)
  c2 : w.cell? ⟨g, 2, none⟩ = some (.int .u16 R.top)
  c3 : w.cell? ⟨g, 3, none⟩ = some (.bool R.started)
  f2 : w.frozen? ⟨g, 2, none⟩ = false
  f3 : w.frozen? ⟨g, 3, none⟩ = false
theorem BufAt.got {B : Nat} {w : World} {g p : Nat} {R : RB} (h : BufAt B w g p R) : BufCells w g p R := by
  have hb := h.head
  exact ⟨hb.cell 0, hb.cell 1, hb.cell 2, hb.cell 3, hb.free 2, hb.free 3⟩
theorem BufAt.place {B : Nat} {w : World} {g p j : Nat} {R : RB} (h : BufAt B w g p R) (hj : j < R.size) : w.cell? ⟨p, j, none⟩ = some (slotVal (R.slots j)) ∧ w.frozen? ⟨p, j, none⟩ = false := by
  obtain ⟨cs, hr, hs, hc⟩ := h.row
  exact ⟨by rw [hr.cell]; exact hc j hj, hr.free j⟩
theorem BufAt.turn {B : Nat} {w : World} {g p : Nat} {R : RB} (h : BufAt B w g p R) (i : Nat) (v : Value) (R' : RB) (hs : R'.size = R.size) (hsl : R'.slots = R.slots) (ht : R'.top ≤ 65535)
    (hc : (bufCells p R).setIfInBounds i v = bufCells p R') : BufAt B (w.setCell ⟨g, i, none⟩ v) g p R' := by
  obtain ⟨s0, s1, t1, hg, hp, hh, ⟨cs, hr, hsz, hcs⟩, hk, hi⟩ := h
  have hgp : g ≠ p := hh.unlike hr (by decide)
  refine ⟨by omega, by omega, ht, hg, hp, ?_, ⟨cs, hr.far (p := ⟨g, i, none⟩) hgp.symm _, by omega, fun j hj => by rw [hsl]; exact hcs j (by omega)⟩, fun j k hj hk2 => ?_, fun a b k l h1 h2 h3 h4 => hi a b k l (by omega) (by omega) (by rw [← hsl]; exact h3) (by rw [← hsl]; exact h4)⟩
  · have := hh.put i v
    rwa [hc] at this
  · rw [hsl] at hk2
    obtain ⟨⟨q1, q2, fac, hd, pl, q3, q4⟩, hB⟩ := hk j k (by omega) hk2
    exact ⟨⟨q1, q2, fac, hd, pl, q3.far (p := ⟨g, i, none⟩) (q3.unlike hh (by decide)) _, q4.far (p := ⟨g, i, none⟩) (q4.unlike hh (by decide)) _⟩, hB⟩
theorem BufAt.setTop {B : Nat} {w : World} {g p : Nat} {R : RB} (h : BufAt B w g p R) (s : Nat) (hs : s ≤ 65535) : BufAt B (w.setCell ⟨g, 2, none⟩ (.int .u16 (s : Int))) g p { R with top := s } :=
  h.turn 2 _ _ rfl rfl hs (by simp [bufCells])
theorem BufAt.start {B : Nat} {w : World} {g p : Nat} {R : RB} (h : BufAt B w g p R) : BufAt B (w.setCell ⟨g, 3, none⟩ (.bool true)) g p { R with started := true } :=
  h.turn 3 _ _ rfl rfl h.t1 (by simp [bufCells])
theorem BufAt.drewN {B : Nat} {w : World} {g p n : Nat} {R : RB} (h : BufAt B w g p R) : BufAt B (w.drewN n) g p R := ⟨h.s0, h.s1, h.t1, h.hg, h.hp, h.head, h.row, h.pkts, h.inj⟩

def RB.clears (R : RB) (t : Nat) : Nat → RB
  | 0 => R
  | d + 1 => (clears R t d).put ((t + 1 + d) % 65536 % R.size) none
def RB.add (R : RB) (k : Pkt) : RB :=
  if R.started = false then { R.put (k.seq % R.size) (some k) with top := k.seq, started := true }
  else if (k.seq + (65536 - R.top)) % 65536 = 0 then R
  else if (k.seq + (65536 - R.top)) % 65536 < 32768 then RB.put { R.clears R.top ((k.seq + (65536 - R.top)) % 65536 - 1) with top := k.seq } (k.seq % R.size) (some k)
  else R.put (k.seq % R.size) (some k)
theorem clears_same (R : RB) (t d : Nat) : (R.clears t d).size = R.size ∧ (R.clears t d).top = R.top ∧ (R.clears t d).started = R.started := by
  induction d with
  | zero => exact ⟨rfl, rfl, rfl⟩
  | succ d ih => exact ih
theorem clears_sub (R : RB) (t d : Nat) : ∀ i l, (R.clears t d).slots i = some l → R.slots i = some l := by
  induction d with
  | zero => exact fun _ _ h => h
  | succ d ih =>
    intro i l h
    simp only [RB.clears, RB.put] at h
    split at h
    · cases h
    · exact ih i l h
end Go.Proofs.YtlkmmkphpiamcaaDoor
