/-
  fixLastConsecutive of the receive log. Condition: the log lies in its two blocks. By an AI agent.
-/
import Derived.Test.YtlkmmkphpiamcaaF
namespace Go.Proofs.Ytlkmmkphpiamcaa
open Go.RowKit

/-- What fixLastConsecutive finds: the last number behind which one lacks, or the greatest one. -/
def FixRel (L : Log) (n : Nat) : Prop :=
  ∃ d, n = (L.last + d) % 65536 ∧ (∀ e, e < d → (L.last + 1 + e) % 65536 ≠ (L.top + 1) % 65536 ∧ L.has ((L.last + 1 + e) % 65536) = true) ∧
    ((L.last + 1 + d) % 65536 = (L.top + 1) % 65536 ∨ L.has ((L.last + 1 + d) % 65536) = false)

theorem u16_succ (i : Nat) : IntKind.u16.wrap ((i : Int) + 1) = (((i + 1) % 65536 : Nat) : Int) := by
  rw [IntKind.wrap_u16]; omega
theorem u16_pred (i : Nat) : IntKind.u16.wrap ((i : Int) - 1) = (((i + 65535) % 65536 : Nat) : Int) := by
  rw [IntKind.wrap_u16]; omega
theorem u16_sub (a b : Nat) (h : b ≤ 65535) : IntKind.u16.wrap ((a : Int) - (b : Int)) = (((a + (65536 - b)) % 65536 : Nat) : Int) := by
  rw [IntKind.wrap_u16]; omega

set_option maxHeartbeats 800000 in
theorem fix_any (g p : Nat) (L : Log) (w : World) (hL : LogAt w g p L) :
    Calls Try.prog 108 #[.pointer (some ⟨g, 0, none⟩)] w fun e w' => e = .returned (.tuple #[]) ∧ ∃ n, n ≤ 65535 ∧ FixRel L n ∧ LogAt w' g p { L with last := n } ∧ Touch (LS g p) w w' := by
  have hb := hL.2.1
  obtain ⟨k1, k2, k3, k4, k5⟩ := hL.1
  have c2 := hb.cell 2
  have c4 := hb.cell 4
  have f4 := hb.free 4
  simp [logCells] at c2 c4
  have s1 := u16_succ L.last
  have s2 := u16_succ L.top
  obtain ⟨i0, h0, h0'⟩ : ∃ i, (L.last + 1) % 65536 = i ∧ i ≤ 65535 := ⟨_, rfl, by omega⟩
  obtain ⟨t1, h1, h1'⟩ : ∃ i, (L.top + 1) % 65536 = i ∧ i ≤ 65535 := ⟨_, rfl, by omega⟩
  rw [h0] at s1
  rw [h1] at s2
  have HB := Lib.hid hb
  have HL := Lib.hid hL
  have H0 := Lib.hid h0
  have H1 := Lib.hid h1
  clear hb hL h0 h1
  go_enter Try.func108, Try.ntmps108
  go_wp2_with fail
  go_loop [2] (fun v => ∃ i d : Nat, v = .int .u16 i ∧ i ≤ 65535 ∧ Hid (i = (L.last + 1 + d) % 65536 ∧ ∀ e, e < d → (L.last + 1 + e) % 65536 ≠ (L.top + 1) % 65536 ∧ L.has ((L.last + 1 + e) % 65536) = true)) (fun v => ((t1 : Int) + 65536 - intOf v).toNat % 65536)
  case atStart => exact ⟨i0, 0, rfl, h0', by rw [← H0.out]; exact ⟨rfl, fun e he => by omega⟩⟩
  case round =>
    obtain ⟨i, d, rfl, hi, hd⟩ := hrel
    have hfin : ∀ L' : Log, L'.size = L.size → L'.top = L.top → L'.bits = L.bits → L'.started = L.started → L'.last = (i + 65535) % 65536 →
        LogAt (w.setCell ⟨g, 4, none⟩ (.int .u16 (((i + 65535) % 65536 : Nat) : Int))) g p L' := by
      intro L' e1 e2 e3 e4 e5
      obtain ⟨hok, hb, ws, hws, hp⟩ := HL.out
      have hne : p ≠ g := (hb.unlike hp (by decide)).symm
      refine ⟨⟨by omega, by omega, by omega, by omega, by omega⟩, ?_, ws, ?_, hp.far hne _⟩
      · have := hb.put 4 (.int .u16 (((i + 65535) % 65536 : Nat) : Int))
        simpa [logCells, e1, e2, e3, e4, e5] using this
      · obtain ⟨q1, q2, q3⟩ := hws
        exact ⟨by rw [e1]; exact q1, q2, fun q hq => by rw [e3]; exact q3 q (by omega)⟩
    have HF := Lib.hid hfin
    have s3 : Hid (IntKind.u16.wrap ((i : Int) - 1) = (((i + 65535) % 65536 : Nat) : Int)) := u16_pred i
    clear hfin
    by_cases he : i = t1
    · obtain rfl := he
      go_wp2_with (go_at_call 89; refine (getReceived_any g p L i _ HL.out hi).mono ?_; rintro e w' ⟨rfl, rfl⟩)
      go_end0
      rw [s3.out]
      refine ⟨rfl, (i + 65535) % 65536, by omega, ?_, HF.out { L with last := (i + 65535) % 65536 } rfl rfl rfl rfl rfl, (Touch.refl (LS g p) w).setCell (p := ⟨g, 4, none⟩) (fun _ => .inl rfl) _⟩
      obtain ⟨d1, d2⟩ := hd.out
      exact ⟨d, by omega, d2, Or.inl (d1.symm.trans H1.out.symm)⟩
    · have hne : (i != t1) = true := by simpa using he
      cases hh : L.has i with
      | false =>
        go_wp2_with (go_at_call 89; refine (getReceived_any g p L i _ HL.out hi).mono ?_; rintro e w' ⟨rfl, rfl⟩)
        go_end0
        rw [s3.out]
        refine ⟨rfl, (i + 65535) % 65536, by omega, ?_, HF.out { L with last := (i + 65535) % 65536 } rfl rfl rfl rfl rfl, (Touch.refl (LS g p) w).setCell (p := ⟨g, 4, none⟩) (fun _ => .inl rfl) _⟩
        obtain ⟨d1, d2⟩ := hd.out
        exact ⟨d, by omega, d2, Or.inr (d1 ▸ hh)⟩
      | true =>
        go_wp2_with (go_at_call 89; refine (getReceived_any g p L i _ HL.out hi).mono ?_; rintro e w' ⟨rfl, rfl⟩)
        obtain ⟨d1, d2⟩ := hd.out
        refine ⟨⟨(i + 1) % 65536, d + 1, by rw [u16_succ], by omega, by omega, fun e hE => ?_⟩, ?_⟩
        · rcases Nat.lt_or_ge e d with hl | hl
          · exact d2 e hl
          · obtain rfl : e = d := by omega
            rw [← d1, H1.out]
            exact ⟨he, hh⟩
        · rw [u16_succ]
          simp only [intOf]
          omega
end Go.Proofs.Ytlkmmkphpiamcaa
