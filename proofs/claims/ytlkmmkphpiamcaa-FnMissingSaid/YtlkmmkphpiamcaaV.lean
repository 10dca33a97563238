/-
  impl.Missing: what a receive log of a size with numbers misses. Conditions: sizes from 64 to 65535; at most 100 skipped. By an AI agent.
-/
import Derived.Test.YtlkmmkphpiamcaaU
namespace Go.Proofs.Ytlkmmkphpiamcaa
open Go.RowKit

/-- quietly over a closure that returns: true. -/
theorem quietly_40 (p1 p2 p3 p4 p5 : Value) (w : World) (R : World → Prop)
    (hg : Calls Try.prog 40 #[p1, p2, p3, p4, p5] (w.alloc (.cells #[.bool false] 4)) fun e w' => e = .returned (.tuple #[]) ∧ R w' ∧ Blk w' w.heap.size 4 #[.bool false]) :
    Calls Try.prog 32 #[.func (.func 40) #[] #[p1, p2, p3, p4, p5]] w fun e w' => e = .returned (.bool true) ∧ ∃ w1, R w1 ∧ w' = w1.setCell ⟨w.heap.size, 0, none⟩ (.bool true) := by
  have H := Lib.hid hg
  clear hg
  have hmf : ∀ (fn : Fn) (first cap : Array Value) (w : World), (Instr.makeFunc fn first cap).run Try.prog w = .ok (.func fn first cap) w := fun _ _ _ _ => rfl
  go_enter_defers Try.func32, Try.ntmps32
  go_wp2_with fail
  refine H.out.mono ?_
  rintro e w1 ⟨rfl, hR, hb⟩
  have hc := hb.cell 0
  have hf := hb.free 0
  simp only [List.getElem?_toArray, List.getElem?_cons_zero] at hc
  have HR := Lib.hid hR
  have HB := Lib.hid hb
  clear hR hb
  go_wp2_with fail
  refine leaves_cons (f := 61) (args := #[.pointer (some ⟨w.heap.size, 0, none⟩)]) (by simp) (by simp [go_sem]) ?_
  refine (catch_idle ⟨w.heap.size, 0, none⟩ _).mono ?_
  rintro e u' w'' ⟨rfl, rfl, rfl⟩
  have hb2 : (w1.setCell ⟨w.heap.size, 0, none⟩ (.bool true)).cell? ⟨w.heap.size, 0, none⟩ = some (.bool true) := by
    simp [go_sem, hc]
  simp [Leaves, settle, results, Try.results32, go_sem, hb2]
  exact ⟨w1, HR.out, rfl⟩
def MisR (size skip : Nat) (ns : List Nat) (w : World) (e : Ending) (w' : World) : Prop :=
  Below w.heap.size w w' ∧ ((IsPow size ∧ ∃ L A c, Adds (freshLog size) ns L ∧ e = .returned (.tuple #[.slice A (missOut L skip).length c, .bool true]) ∧ Reads w' w'.heap.size 1 A (missOut L skip).length (U16s (missOut L skip))) ∨
    (¬ IsPow size ∧ e = .returned (.tuple #[.slice none 0 0, .bool false])))

theorem mis_quiet (bs bl bk bq bo size n c skip : Nat) (A : Option Addr) (ns : List Nat) (w : World)
    (hbs : Blk w bs 3 #[.int .i64 size]) (hbl : Blk w bl 22 #[.slice A n c]) (hbk : Blk w bk 4 #[.bool false]) (hbq : Blk w bq 3 #[.int .i64 skip]) (hbo : Blk w bo 22 #[.slice none 0 0])
    (h0 : 64 ≤ size) (h1 : size ≤ 65535) (hr : Reads w w.heap.size 1 A n (U16s ns)) (hn : n ≤ 9223372036854775807) (hns : ∀ q ∈ ns, q ≤ 65535) (hsk : skip ≤ 100) :
    Calls Try.prog 32 #[.func (.func 40) #[] #[.pointer (some ⟨bs, 0, none⟩), .pointer (some ⟨bl, 0, none⟩), .pointer (some ⟨bk, 0, none⟩), .pointer (some ⟨bq, 0, none⟩), .pointer (some ⟨bo, 0, none⟩)]] w
      fun e w' => e = .returned (.bool true) ∧ MisPost size bk bo skip ns w w' := by
  have ls := hbs.lt
  have ll := hbl.lt
  have lk := hbk.lt
  have lq := hbq.lt
  have lo := hbo.lt
  refine (quietly_40 _ _ _ _ _ w (MisPost size bk bo skip ns (w.alloc (.cells #[.bool false] 4))) ?_).mono ?_
  · refine (miss_closure bs bl bk bq bo size n c skip A ns _ (hbs.alloc _) (hbl.alloc _) (hbk.alloc _) (hbq.alloc _) (hbo.alloc _) h0 h1 ?_ hn hns hsk).mono ?_
    · exact (hr.touch (S := Nowhere) ((Touch.refl _ w).alloc _) (Nat.le_refl _) (fun _ _ h => h)).more (by simp)
    rintro e w' ⟨rfl, h⟩
    exact ⟨rfl, h, (Blk.new w 4 _).touch h.1 (by omega)⟩
  · rintro e w' ⟨rfl, w1, ⟨ht, h⟩, rfl⟩
    have t1 : Touch (fun b => b = bk ∨ b = bo) w w1 := ((Touch.refl _ w).alloc _).trans ht fun _ _ h => h
    refine ⟨rfl, t1.setCell (fun h => absurd h (by simp)) _, ?_⟩
    rcases h with ⟨hp, hk, L, v, ha, hv, hown⟩ | ⟨hp, hk, hv⟩
    · refine .inl ⟨hp, hk.far (by simp; omega) _, L, v, ha, hv.far (by simp; omega) _, ?_⟩
      have h2 := own_far hown (p := ⟨w.heap.size, 0, none⟩) (by simp) (.bool true)
      obtain ⟨h3, h4⟩ := h2
      refine ⟨h3, ?_⟩
      rcases h4 with h4 | ⟨g, cap, cur, hv, hg, hh⟩
      · exact .inl h4
      · exact .inr ⟨g, cap, cur, hv, by simp at hg; omega, hh⟩
    · exact .inr ⟨hp, hk.far (by simp; omega) _, hv.far (by simp; omega) _⟩

set_option maxHeartbeats 800000 in
theorem missing_impl (size n c skip : Nat) (A : Option Addr) (ns : List Nat) (w : World)
    (h0 : 64 ≤ size) (h1 : size ≤ 65535) (hr : Reads w w.heap.size 1 A n (U16s ns)) (hn : n ≤ 9223372036854775807) (hns : ∀ q ∈ ns, q ≤ 65535) (hsk : skip ≤ 100) :
    Calls Try.prog 18 #[.int .i64 size, .slice A n c, .int .i64 skip] w (MisR size skip ns w) := by
  have hmf : ∀ (fn : Fn) (first cap : Array Value) (w : World), (Instr.makeFunc fn first cap).run Try.prog w = .ok (.func fn first cap) w := fun _ _ _ _ => rfl
  have HR := Lib.hid hr
  have HNS := Lib.hid hns
  clear hr hns
  go_enter Try.func18, Try.ntmps18
  go_wp2_with fail
  refine (mis_quiet w.heap.size (w.heap.size + 1) (w.heap.size + 1 + 1 + 1 + 1) (w.heap.size + 1 + 1) (w.heap.size + 1 + 1 + 1) size n c skip A ns _
    (((((Blk.mk' rfl).alloc _).alloc _).alloc _).alloc _) ((((Blk.mk' (by simp)).alloc _).alloc _).alloc _) (Blk.mk' (by simp)) (((Blk.mk' (by simp)).alloc _).alloc _) ((Blk.mk' (by simp)).alloc _)
    h0 h1 ?_ hn HNS.out hsk).mono ?_
  · exact (HR.out.below (((((((Below.refl _ _).alloc (Nat.le_refl _) _).alloc (by simp) _).alloc (by simp; omega) _).alloc (by simp; omega) _).alloc (by simp; omega) _))).more (by simp; omega)
  rintro e w1 ⟨rfl, ht, h⟩
  have hb : Below w.heap.size w w1 := by
    have t0 : Touch (fun b => w.heap.size ≤ b) w w1 := (((((((Touch.refl _ w).alloc _).alloc _).alloc _).alloc _).alloc _).trans ht fun i hi h => by rcases h with h | h <;> omega)
    exact t0.below (Nat.le_refl _) (fun i hi => by omega)
  have HB := Lib.hid hb
  clear ht hb
  rcases h with ⟨hp, hk, L, v, ha, hv, hown⟩ | ⟨hp, hk, hv⟩
  · obtain ⟨A1, c1, rfl⟩ := own_slice hown
    have ck := hk.cell 0
    have fk := hk.free 0
    have cv := hv.cell 0
    have fv := hv.free 0
    simp at ck cv
    have HK := Lib.hid hk
    have HV := Lib.hid hv
    have HO := Lib.hid hown
    have HA := Lib.hid ha
    have HP := Lib.hid hp
    clear hk hv hown ha hp
    go_wp2_with fail
    have hb2 := (HV.out.put 0 (.slice A1 (missOut L skip).length c1)).far (p := ⟨w.heap.size + 1 + 1 + 1 + 1, 0, none⟩) (by simp) (.bool true)
    have hb3 := (HK.out.far (p := ⟨w.heap.size + 1 + 1 + 1, 0, none⟩) (by simp) (.slice A1 (missOut L skip).length c1)).put 0 (.bool true)
    have cv2 := hb2.cell 0
    have ck2 := hb3.cell 0
    simp at cv2 ck2
    refine bodyPost_ret_by (v := .tuple #[.slice A1 (missOut L skip).length c1, .bool true]) ?_ rfl ?_
    · simp [results, Try.results18, go_sem, cv2, ck2]
    refine ⟨(HB.out.setCell (p := ⟨w.heap.size + 1 + 1 + 1, 0, none⟩) (by simp; omega) _).setCell (p := ⟨w.heap.size + 1 + 1 + 1 + 1, 0, none⟩) (by simp; omega) _, .inl ⟨HP.out, L, A1, c1, HA.out, rfl, ?_⟩⟩
    exact Reads.own (own_far (own_far HO.out (p := ⟨w.heap.size + 1 + 1 + 1, 0, none⟩) (by simp) _) (p := ⟨w.heap.size + 1 + 1 + 1 + 1, 0, none⟩) (by simp) _)
  · have ck := hk.cell 0
    have fk := hk.free 0
    have cv := hv.cell 0
    have fv := hv.free 0
    simp at ck cv
    have HK := Lib.hid hk
    have HV := Lib.hid hv
    have HP := Lib.hid hp
    clear hk hv hp
    go_wp2_with fail
    have hb2 := (HV.out.put 0 (.slice none 0 0)).far (p := ⟨w.heap.size + 1 + 1 + 1 + 1, 0, none⟩) (by simp) (.bool false)
    have hb3 := (HK.out.far (p := ⟨w.heap.size + 1 + 1 + 1, 0, none⟩) (by simp) (.slice none 0 0)).put 0 (.bool false)
    have cv2 := hb2.cell 0
    have ck2 := hb3.cell 0
    simp at cv2 ck2
    refine bodyPost_ret_by (v := .tuple #[.slice none 0 0, .bool false]) ?_ rfl ?_
    · simp [results, Try.results18, go_sem, cv2, ck2]
    exact ⟨(HB.out.setCell (p := ⟨w.heap.size + 1 + 1 + 1, 0, none⟩) (by simp; omega) _).setCell (p := ⟨w.heap.size + 1 + 1 + 1 + 1, 0, none⟩) (by simp; omega) _, .inr ⟨HP.out, rfl⟩⟩
end Go.Proofs.Ytlkmmkphpiamcaa
