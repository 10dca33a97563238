/-
  logged: a receive log of a size with numbers. Conditions: sizes from 64 to 65535; numbers of 16 bits. By an AI agent.
-/
import Derived.Test.YtlkmmkphpiamcaaJ
namespace Go.Proofs.Ytlkmmkphpiamcaa
open Go.RowKit

def U16s (ns : List Nat) : List Value := ns.map fun q : Nat => Value.int .u16 (q : Int)
theorem u16s_at {w : World} {B n k : Nat} {A : Option Addr} {ns : List Nat} (h : Reads w B 1 A n (U16s ns)) (hn : ∀ q ∈ ns, q ≤ 65535) (hk : k < n) :
    ∃ ad s, A = some ad ∧ ad.block < B ∧ ns[k]? = some s ∧ s ≤ 65535 ∧ w.cell? (ad.add k) = some (.int .u16 (s : Int)) := by
  obtain ⟨ad, u, e, hb, hu, hc⟩ := h.at1 hk
  have hl : ns.length = n := by simpa [U16s] using h.1
  rw [U16s, List.getElem?_map, List.getElem?_eq_getElem (by omega)] at hu
  simp at hu
  refine ⟨ad, ns[k], e, hb, List.getElem?_eq_getElem (by omega), hn _ (List.getElem_mem _), ?_⟩
  rw [hc, ← hu]

/-- A log behind numbers that came one by one. -/
def Adds : Log → List Nat → Log → Prop
  | L, [], L' => L' = L
  | L, s :: r, L' => ∃ M, AddRel L s M ∧ Adds M r L'
theorem adds_snoc {s : Nat} {M N : Log} : ∀ {l : List Nat} {L : Log}, Adds L l M → AddRel M s N → Adds L (l ++ [s]) N
  | [], _, h, h2 => by
    obtain rfl : M = _ := h
    exact ⟨N, h2, rfl⟩
  | _ :: _, _, ⟨K, hk, h⟩, h2 => ⟨K, hk, adds_snoc h h2⟩

def LoggedPost (size : Nat) (ns : List Nat) (w : World) (e : Ending) (w' : World) : Prop :=
  Below w.heap.size w w' ∧ ((IsPow size ∧ ∃ g p L, e = .returned (.tuple #[.pointer (some ⟨g, 0, none⟩), .bool true]) ∧ w.heap.size ≤ g ∧ w.heap.size ≤ p ∧ LogAt w' g p L ∧ Adds (freshLog size) ns L) ∨
    (¬ IsPow size ∧ e = .returned (.tuple #[.pointer none, .bool false])))

def LgInv (g p size : Nat) (ns : List Nat) (w1 : World) (k : Nat) (wr : World) : Prop :=
  ∃ L, Adds (freshLog size) (ns.take k) L ∧ LogAt wr g p L ∧ Touch (LS g p) w1 wr

set_option maxRecDepth 100000 in
set_option maxHeartbeats 800000 in
theorem logged_any (size n c : Nat) (A : Option Addr) (ns : List Nat) (w : World) (h0 : 64 ≤ size) (h1 : size ≤ 65535)
    (hr : Reads w w.heap.size 1 A n (U16s ns)) (hn : n ≤ 9223372036854775807) (hns : ∀ q ∈ ns, q ≤ 65535) :
    Calls Try.prog 36 #[.int .i64 size, .slice A n c] w (LoggedPost size ns w) := by
  have hlen : ns.length = n := by simpa [U16s] using hr.1
  have HR := Lib.hid hr
  have HNS := Lib.hid hns
  have HLEN := Lib.hid hlen
  clear hr hns hlen
  go_enter Try.func36, Try.ntmps36
  go_wp2_with fail
  refine (zznew_any size w h0 h1).mono ?_
  rintro e w1 ⟨hb, ⟨hp, g, p, rfl, hg, hpp, hL⟩ | ⟨hp, t, s, rfl⟩⟩
  · have HB := Lib.hid hb
    have HP := Lib.hid hp
    have HL := Lib.hid hL
    clear hb hp hL
    go_wp2_with fail
    go_loopw [25] (fun v wr => ∃ k : Nat, v = .int .i64 k ∧ k ≤ n ∧ Hid (LgInv g p size ns w1 k wr)) (fun v _ => n - (intOf v).toNat)
    case atStart => exact ⟨0, rfl, by omega, ⟨_, rfl, HL.out, Touch.refl _ _⟩⟩
    case round =>
      obtain ⟨k, rfl, hk, hinv⟩ := hrel
      obtain ⟨L, hadds, hL, ht⟩ := hinv.out
      have HA := Lib.hid hadds
      have HLw := Lib.hid hL
      have HT := Lib.hid ht
      have HBw := Lib.hid (HB.out.trans (ht.below (B := w.heap.size) HB.out.size (by rintro i hi (rfl | rfl) <;> omega)))
      clear hinv hadds hL ht
      by_cases hlt : k < n
      · obtain ⟨ad, s, rfl, hab, hsk, hs, hc⟩ := u16s_at (HR.out.below HBw.out) HNS.out hlt
        have HSK := Lib.hid hsk
        clear hsk
        go_wp2_with fail
        refine (zzadd_any g p L s wr HLw.out hs).mono ?_
        rintro e w2 ⟨rfl, L', hadd, hL', ht'⟩
        have HADD := Lib.hid hadd
        have HL' := Lib.hid hL'
        have HT' := Lib.hid ht'
        clear hadd hL' ht'
        go_wp2_with fail
        refine ⟨⟨k + 1, by go_num, by omega, L', ?_, HL'.out, HT.out.trans HT'.out fun _ _ h => h⟩, by simp [intOf]; omega⟩
        rw [List.take_add_one, HSK.out]
        exact adds_snoc HA.out HADD.out
      · obtain rfl : k = n := by omega
        go_wp2_with fail
        go_ret2
        refine ⟨HBw.out, .inl ⟨HP.out, g, p, L, rfl, hg, hpp, HLw.out, ?_⟩⟩
        have h := HA.out
        rwa [List.take_of_length_le (by rw [HLEN.out]; omega)] at h
  · have HB := Lib.hid hb
    have HP := Lib.hid hp
    clear hb hp
    go_wp2_with fail
    go_ret2
    exact ⟨HB.out, .inr ⟨HP.out, rfl⟩⟩
end Go.Proofs.Ytlkmmkphpiamcaa
