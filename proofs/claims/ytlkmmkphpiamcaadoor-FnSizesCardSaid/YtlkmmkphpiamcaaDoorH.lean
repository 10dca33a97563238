/-
  The buffer of packets: a new buffer, a new packet, Add, Get. Conditions: sizes from 64 on where a power of two. By an AI agent.
-/
import Derived.Test.YtlkmmkphpiamcaaDoorG
import Derived.Deep.QuietTactic
import Derived.BigQuiet
namespace Go.Proofs.YtlkmmkphpiamcaaDoor
open Go.RowKit

theorem badd_any (B g p : Nat) (R : RB) (k : Pkt) (w : World) (hR : BufAt B w g p R) (hp : PktAt w k) (hB : B ≤ k.blk) (hne : ∀ i l, i < R.size → R.slots i = some l → l.blk ≠ k.blk)
    (hnil : R.started = false → ∀ j, j < R.size → R.slots j = none) :
    Calls Tryd.prog 19 #[.pointer (some ⟨g, 0, none⟩), .pointer (some ⟨k.blk, 0, none⟩)] w (BAddPost B g p R k w) := by
  cases hst : R.started with
  | false => exact badd_first B g p R k w hR hst hp hB (hnil hst)
  | true =>
    rcases Nat.eq_zero_or_pos ((k.seq + (65536 - R.top)) % 65536) with h | h
    · exact badd_same B g p R k w hR hst hp h
    · rcases Nat.lt_or_ge ((k.seq + (65536 - R.top)) % 65536) 32768 with h2 | h2
      · exact badd_up B g p R k w hR hst hp hB hne h h2
      · exact badd_down B g p R k w hR hst hp hB hne h2

def RB.get (R : RB) (n : Nat) : Option Pkt :=
  if (R.top + (65536 - n)) % 65536 < 32768 ∧ (R.top + (65536 - n)) % 65536 < R.size then
    match R.slots (n % R.size) with
    | none => none
    | some k => if k.seq = n then some k else none
  else none

def BGetPost (R : RB) (n : Nat) (w : World) (e : Ending) (w' : World) : Prop :=
  (R.get n = none ∧ e = .returned (.pointer none) ∧ ∃ m, w' = w.drewN m) ∨
  (∃ k m, R.get n = some k ∧ R.slots (n % R.size) = some k ∧ e = .returned (.pointer (some ⟨k.blk, 0, none⟩)) ∧ w' = (w.drewN m).setCell ⟨k.blk, 1, none⟩ (.int .i64 2))

set_option maxRecDepth 100000 in
set_option maxHeartbeats 1600000 in
theorem bget_any (B g p : Nat) (R : RB) (n : Nat) (w : World) (hR : BufAt B w g p R) (hn : n ≤ 65535) :
    Calls Tryd.prog 20 #[.pointer (some ⟨g, 0, none⟩), .int .u16 n] w (BGetPost R n w) := by
  obtain ⟨c0, c1, c2, c3, f2, f3⟩ := hR.got
  have hd' := u16_sub R.top n hn
  obtain ⟨D, I, hDD, hI⟩ : ∃ (D : Nat) (I : Int), (R.top + (65536 - n)) % 65536 = D ∧ (D : Int) = I := ⟨_, _, rfl, rfl⟩
  rw [hDD, hI] at hd'
  have hz0 : 64 ≤ R.size := hR.s0
  have hz1 : R.size ≤ 32768 := hR.s1
  have hjlt : n % R.size < R.size := Nat.mod_lt _ (by omega)
  obtain ⟨cj, fj⟩ := hR.place hjlt
  obtain ⟨r, hr, hr'⟩ : ∃ r : Nat, ((n : Int) % (R.size : Int)) = (r : Int) ∧ n % R.size = r := ⟨n % R.size, by omega, rfl⟩
  rw [hr'] at hjlt cj fj
  have hri : (r : Int) < (R.size : Int) := by omega
  have HRR := Lib.hid hr'
  have HDD := Lib.hid hDD
  have HR := Lib.hid hR
  have HZ1 := Lib.hid hz1
  by_cases h1 : I < 32768
  · by_cases h2 : I < (R.size : Int)
    · have hlt : (R.top + (65536 - n)) % 65536 < 32768 ∧ (R.top + (65536 - n)) % 65536 < R.size := by omega
      cases hsl : R.slots r with
      | none =>
        have hg : R.get n = none := by rw [RB.get, if_pos hlt, hr', hsl]
        have HG := Lib.hid hg
        rw [hsl] at cj
        simp only [slotVal] at cj
        clear hDD hI hR hr' hz1 hlt hsl hg
        go_enter Tryd.func20, Tryd.ntmps20
        go_wp2_with fail
        go_quiet (fail)
        go_wp2_with fail
        go_ret
        exact .inl ⟨HG.out, rfl, _, rfl⟩
      | some k =>
        obtain ⟨hpk, hBk⟩ := hR.pkts r k hjlt hsl
        obtain ⟨hs1, hs2, fac, hd, pl, hb, hb2⟩ := hpk
        have ck : w.cell? ⟨k.blk, 5, none⟩ = some (.int .u16 k.seq) := hb.cell 5
        by_cases he : k.seq = n
        · have hg : R.get n = some k := by rw [RB.get, if_pos hlt, hr', hsl]; simp [he]
          have HG := Lib.hid hg
          have HSL := Lib.hid (show R.slots (n % R.size) = some k by rw [hr']; exact hsl)
          have hE : ((k.seq : Int) != (n : Int)) = false := by simp [he]
          rw [hsl] at cj
          simp only [slotVal] at cj
          have HB := Lib.hid hb
          clear hDD hI hR hr' hz1 hlt hsl hg hb hb2 he
          go_enter Tryd.func20, Tryd.ntmps20
          go_wp2_with fail
          go_quiet (fail)
          go_wp2_with fail
          refine (retain_any k.blk pl k.seq fac hd _ (Blk.drewN HB.out _)).mono ?_
          rintro e w1 ⟨rfl, rfl⟩
          go_wp2_with fail
          go_ret
          exact .inr ⟨k, _, HG.out, HSL.out, rfl, rfl⟩
        · have hg : R.get n = none := by rw [RB.get, if_pos hlt, hr', hsl]; simp [he]
          have HG := Lib.hid hg
          have hE : ((k.seq : Int) != (n : Int)) = true := by simp; omega
          rw [hsl] at cj
          simp only [slotVal] at cj
          clear hDD hI hR hr' hz1 hlt hsl hg hb hb2 he
          go_enter Tryd.func20, Tryd.ntmps20
          go_wp2_with fail
          go_quiet (fail)
          go_wp2_with fail
          go_ret
          exact .inl ⟨HG.out, rfl, _, rfl⟩
    · have hg : R.get n = none := by rw [RB.get, if_neg (by omega)]
      have HG := Lib.hid hg
      clear hDD hI hR hr' hz1 hg
      go_enter Tryd.func20, Tryd.ntmps20
      go_wp2_with fail
      go_ret
      exact .inl ⟨HG.out, rfl, 0, rfl⟩
  · have hg : R.get n = none := by rw [RB.get, if_neg (by omega)]
    have HG := Lib.hid hg
    clear hDD hI hR hr' hz1 hg
    go_enter Tryd.func20, Tryd.ntmps20
    go_wp2_with fail
    go_ret
    exact .inl ⟨HG.out, rfl, 0, rfl⟩

set_option maxHeartbeats 800000 in
theorem payload_any (b pl s : Nat) (cnt : Int) (fac : Value) (hd : Option Addr) (w : World) (hb : Blk w b 86 (pktCells fac hd pl s cnt)) :
    Calls Tryd.prog 21 #[.pointer (some ⟨b, 0, none⟩)] w fun e w' => e = .returned (.slice (some ⟨pl, 0, none⟩) 3 3) ∧ w' = w := by
  have c4 : w.cell? ⟨b, 4, none⟩ = some (.slice (some ⟨pl, 0, none⟩) 3 3) := hb.cell 4
  clear hb
  go_enter Tryd.func21, Tryd.ntmps21
  go_wp2_with fail
  go_ret
  exact ⟨rfl, rfl⟩

set_option maxHeartbeats 800000 in
theorem newpkt_any (h pl s : Nat) (fac : Value) (cs : Array Value) (w : World) (hb : Blk w h 59 cs) (hs : cs[5]? = some (.int .u16 s)) :
    Calls Tryd.prog 18 #[fac, .pointer (some ⟨h, 0, none⟩), .slice (some ⟨pl, 0, none⟩) 3 3, .int .u32 0, .int .u8 0] w fun e w' =>
      e = .returned (.tuple #[.pointer (some ⟨w.heap.size, 0, none⟩), .nilIface]) ∧ w' = w.alloc (.cells (pktCells fac (some ⟨h, 0, none⟩) pl s 1) 86) := by
  have c5 : w.cell? ⟨h, 5, none⟩ = some (.int .u16 s) := by rw [hb.cell]; exact hs
  have hmf : ∀ (fn : Fn) (first cap : Array Value) (w : World), (Instr.makeFunc fn first cap).run Tryd.prog w = .ok (.func fn first cap) w := fun _ _ _ _ => rfl
  clear hb hs
  go_enter Tryd.func18, Tryd.ntmps18
  go_wp2_with fail
  go_ret2
  exact ⟨rfl, rfl⟩

theorem info_ptr : (Tryd.prog.info? 51).map (fun i => (i.zero, i.size, i.bytes)) = some (some (.pointer none), 1, 8) := by kernel_rfl
def nilRow (m : Nat) : Array Value := (List.replicate m (Value.pointer none)).toArray

theorem make_nils {P : Program} {t e : TypeId} {i : TypeInfo} {by_ : Nat} (ht : P.underlying t = some (.slice e)) (hi : P.info? e = some i) (hz : i.zero = some (.pointer none)) (hs : i.size = 1) (hb : i.bytes = by_)
    (kl kc : IntKind) (l : Int) (m : Nat) (hl : l = m) (hm : m ≤ 9223372036854775807) (hbm : by_ * m ≤ 281474976710656) (w : World) :
    (Instr.makeSlice t (.int kl l) (.int kc l)).run P w = .ok (.slice (some ⟨w.heap.size, 0, none⟩) m m) (w.alloc (.cells (nilRow m) e)) := by
  subst hl
  have hbm : (i.bytes : Int) * (m : Int) ≤ 281474976710656 := by
    have h0 : ((by_ * m : Nat) : Int) ≤ 281474976710656 := by omega
    rw [hb]
    rwa [Int.natCast_mul] at h0
  have h := run_make (P := P) w t e i (.pointer none) ht hi hz kl kc m m (by omega) (by omega) hbm (by omega)
  rw [h, hs]
  simp only [Int.toNat_natCast, Nat.mul_one]
  have : madeCells (Value.pointer none).cells m = nilRow m := by
    apply Array.ext'
    have := toList_madeCells_one (.pointer none) m
    simpa [nilRow, Value.cells] using this
  rw [this]

def freshBuf (size : Nat) : RB := { slots := fun _ => none, size := size, top := 0, started := false }

def BNewPost (size : Nat) (w : World) (e : Ending) (w' : World) : Prop :=
  Below w.heap.size w w' ∧ ((IsPow size ∧ ∃ g p, e = .returned (.tuple #[.pointer (some ⟨g, 0, none⟩), .nilIface]) ∧ BufAt w.heap.size w' g p (freshBuf size)) ∨
    (¬ IsPow size ∧ ∃ t x, e = .returned (.tuple #[.pointer none, .iface t x])))

set_option maxHeartbeats 800000 in
theorem newbuf_any (size : Nat) (w : World) (hv : ¬ IsPow size → ∃ t x, w.cell? ⟨0, 0, none⟩ = some (.iface t x)) (h0 : IsPow size → 64 ≤ size) (h1 : size ≤ 65535) : Calls Tryd.prog 17 #[.int .u16 size] w (BNewPost size w) := by
  obtain ⟨i0, hi0, hz0, hz1, hz2⟩ := info_parts info_ptr
  have hmk := fun W => make_nils (P := Tryd.prog) (t := 76) (e := 51) Tryd.underlying76 hi0 hz0 hz1 hz2 .u16 .u16 (size : Int) size rfl (by omega) (by omega) W
  have HV := Lib.hid hv
  clear hv
  go_enter Tryd.func17, Tryd.ntmps17
  go_wp2_with fail
  refine (bpower_any size w HV.out).mono ?_
  rintro e w' ⟨rfl, ⟨hp, rfl⟩ | ⟨hp, t, s, rfl⟩⟩
  · have HP := Lib.hid hp
    clear hp
    go_wp2_with fail
    go_ret2
    obtain ⟨q1, q2⟩ := pow_parts HP.out (h0 HP.out)
    refine ⟨((Below.refl _ _).alloc (Nat.le_refl _) _).alloc (by simp) _, .inl ⟨HP.out, w.heap.size + 1, w.heap.size, rfl, ?_⟩⟩
    refine ⟨h0 HP.out, q1, by simp [freshBuf], by omega, by omega, ?_, ⟨nilRow size, (Blk.new w 51 _).alloc _, by simp [nilRow, freshBuf], fun j hj => ?_⟩, fun j k hj h => by simp [freshBuf] at h, fun i j k l _ _ h => by simp [freshBuf] at h⟩
    · have := Blk.new (w.alloc (.cells (nilRow size) 51)) 78 (bufCells w.heap.size (freshBuf size))
      simpa [bufCells, freshBuf] using this
    · have hj' : j < size := hj
      simp [nilRow, freshBuf, slotVal, List.getElem?_replicate, hj']
  · have HP := Lib.hid hp
    clear hp
    go_wp2_with fail
    go_ret2
    exact ⟨Below.refl _ _, .inr ⟨HP.out, _, _, rfl⟩⟩
end Go.Proofs.YtlkmmkphpiamcaaDoor
