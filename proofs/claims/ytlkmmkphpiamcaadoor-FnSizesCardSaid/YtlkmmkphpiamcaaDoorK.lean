/-
  impl.Retained. Conditions: sizes to 65535, where a power of two from 64 on; at most 200 packets and questions. By an AI agent.
-/
import Derived.Test.YtlkmmkphpiamcaaDoorI
namespace Go.Proofs.YtlkmmkphpiamcaaDoor
open Go.RowKit

/-- quietly over a closure that returns: true. -/
theorem quietly_16 (p1 p2 p3 p4 p5 : Value) (w : World) (R : World → Prop)
    (hg : Calls Tryd.prog 16 #[p1, p2, p3, p4, p5] (w.alloc (.cells #[.bool false] 4)) fun e w' => e = .returned (.tuple #[]) ∧ R w' ∧ Blk w' w.heap.size 4 #[.bool false]) :
    Calls Tryd.prog 15 #[.func (.func 16) #[] #[p1, p2, p3, p4, p5]] w fun e w' => e = .returned (.bool true) ∧ ∃ w1, R w1 ∧ w' = w1.setCell ⟨w.heap.size, 0, none⟩ (.bool true) := by
  have H := Lib.hid hg
  clear hg
  have hmf : ∀ (fn : Fn) (first cap : Array Value) (w : World), (Instr.makeFunc fn first cap).run Tryd.prog w = .ok (.func fn first cap) w := fun _ _ _ _ => rfl
  go_enter_defers Tryd.func15, Tryd.ntmps15
  go_wp2_with fail
  refine H.out.mono ?_
  rintro e w1 ⟨rfl, hR, hb⟩
  have hc := hb.cell 0
  have hf := hb.free 0
  simp only [List.getElem?_toArray, List.getElem?_cons_zero] at hc
  have HR := Lib.hid hR
  have HB := Lib.hid hb
  clear hR hb
  go_wp2_with fail
  refine leaves_cons (f := 29) (args := #[.pointer (some ⟨w.heap.size, 0, none⟩)]) (by simp) (by simp [go_sem]) ?_
  refine (catch_idle ⟨w.heap.size, 0, none⟩ _).mono ?_
  rintro e u' w'' ⟨rfl, rfl, rfl⟩
  have hb2 : (w1.setCell ⟨w.heap.size, 0, none⟩ (.bool true)).cell? ⟨w.heap.size, 0, none⟩ = some (.bool true) := by
    simp [go_sem, hc]
  simp [Leaves, settle, results, Tryd.results15, go_sem, hb2]
  exact ⟨w1, HR.out, rfl⟩

def RetR (size : Nat) (ns qs : List Nat) (w : World) (e : Ending) (w' : World) : Prop :=
  Below w.heap.size w w' ∧ ((IsPow size ∧ ∃ R A c, Fed size ns ns.length R ∧ e = .returned (.tuple #[.slice A qs.length c, .bool true]) ∧ Reads w' w'.heap.size 1 A qs.length (OutVs R qs)) ∨
    (¬ IsPow size ∧ e = .returned (.tuple #[.slice none 0 0, .bool false])))

/-- The error that a size earns lies where the program's variable lies. -/
def ErrAt (w : World) : Prop := 0 < w.heap.size ∧ ∃ t x, w.cell? ⟨0, 0, none⟩ = some (.iface t x)
theorem ErrAt.below {w w' : World} (h : ErrAt w) (hb : Below w.heap.size w w') : ErrAt w' := by
  obtain ⟨h0, t, x, hc⟩ := h
  exact ⟨Nat.lt_of_lt_of_le h0 hb.size, t, x, (hb.cell (p := ⟨0, 0, none⟩) h0).trans hc⟩

theorem ret_quiet (bs bl bk bq bo size n c m d : Nat) (A Q : Option Addr) (ns qs : List Nat) (w : World)
    (hbs : Blk w bs 3 #[.int .i64 size]) (hbl : Blk w bl 22 #[.slice A n c]) (hbk : Blk w bk 4 #[.bool false]) (hbq : Blk w bq 22 #[.slice Q m d]) (hbo : Blk w bo 29 #[.slice none 0 0])
    (hv : ErrAt w) (h0 : IsPow size → 64 ≤ size) (h1 : size ≤ 65535)
    (base : Nat) (hbase : base ≤ bk ∧ base ≤ bo) (hbase2 : base ≤ w.heap.size) (hr : Reads w base 1 A n (U16s ns)) (hn : n ≤ 200) (hns : ∀ q ∈ ns, q ≤ 65535)
    (hq : Reads w base 1 Q m (U16s qs)) (hm : m ≤ 200) (hqs : ∀ q ∈ qs, q ≤ 65535) :
    Calls Tryd.prog 15 #[.func (.func 16) #[] #[.pointer (some ⟨bs, 0, none⟩), .pointer (some ⟨bk, 0, none⟩), .pointer (some ⟨bl, 0, none⟩), .pointer (some ⟨bq, 0, none⟩), .pointer (some ⟨bo, 0, none⟩)]] w
      fun e w' => e = .returned (.bool true) ∧ RetPost size bk bo ns qs w w' := by
  have ls := hbs.lt
  have ll := hbl.lt
  have lk := hbk.lt
  have lq := hbq.lt
  have lo := hbo.lt
  have hv1 := hv.below ((Below.refl w.heap.size w).alloc (Nat.le_refl _) (.cells #[.bool false] 4))
  refine (quietly_16 _ _ _ _ _ w (RetPost size bk bo ns qs (w.alloc (.cells #[.bool false] 4))) ?_).mono ?_
  · refine (ret_closure bs bl bk bq bo size n c m d A Q ns qs _ (hbs.alloc _) (hbl.alloc _) (hbk.alloc _) (hbq.alloc _) (hbo.alloc _) (fun _ => hv1.2) h0 h1 base hbase (by simp; omega) ?_ hn hns ?_ hm hqs).mono ?_
    · exact hr.touch (S := Nowhere) ((Touch.refl _ w).alloc _) (by omega) (fun _ _ h => h)
    · exact hq.touch (S := Nowhere) ((Touch.refl _ w).alloc _) (by omega) (fun _ _ h => h)
    rintro e w' ⟨rfl, h⟩
    exact ⟨rfl, h, (Blk.new w 4 _).touch h.1 (by omega)⟩
  · rintro e w' ⟨rfl, w1, ⟨ht, h⟩, rfl⟩
    have t1 : Touch (fun b => b = bk ∨ b = bo) w w1 := ((Touch.refl _ w).alloc _).trans ht fun _ _ h => h
    refine ⟨rfl, t1.setCell (fun h => absurd h (by simp)) _, ?_⟩
    rcases h with ⟨hp, hk, R, v, ha, hv, hown⟩ | ⟨hp, hk, hv⟩
    · refine .inl ⟨hp, hk.far (by simp; omega) _, R, v, ha, hv.far (by simp; omega) _, ?_⟩
      have h2 := own_far hown (p := ⟨w.heap.size, 0, none⟩) (by simp) (.bool true)
      exact own_low h2 (by simp)
    · exact .inr ⟨hp, hk.far (by simp; omega) _, hv.far (by simp; omega) _⟩

set_option maxHeartbeats 800000 in
theorem retained_impl (size n c m d : Nat) (A Q : Option Addr) (ns qs : List Nat) (w : World) (hv : ErrAt w)
    (h0 : IsPow size → 64 ≤ size) (h1 : size ≤ 65535) (hr : Reads w w.heap.size 1 A n (U16s ns)) (hn : n ≤ 200) (hns : ∀ q ∈ ns, q ≤ 65535)
    (hq : Reads w w.heap.size 1 Q m (U16s qs)) (hm : m ≤ 200) (hqs : ∀ q ∈ qs, q ≤ 65535) :
    Calls Tryd.prog 9 #[.int .i64 size, .slice A n c, .slice Q m d] w (RetR size ns qs w) := by
  have hmf : ∀ (fn : Fn) (first cap : Array Value) (w : World), (Instr.makeFunc fn first cap).run Tryd.prog w = .ok (.func fn first cap) w := fun _ _ _ _ => rfl
  have hmq : qs.length = m := by simpa [U16s] using hq.1
  have HR := Lib.hid hr
  have HQ := Lib.hid hq
  have HNS := Lib.hid hns
  have HQS := Lib.hid hqs
  have HMQ := Lib.hid hmq
  have HV := Lib.hid hv
  clear hr hq hns hqs hmq hv
  go_enter Tryd.func9, Tryd.ntmps9
  go_wp2_with fail
  have hbel : ∀ o1 o2 o3 o4 o5 : Obj, Below w.heap.size w (((((w.alloc o1).alloc o2).alloc o3).alloc o4).alloc o5) := fun o1 o2 o3 o4 o5 =>
    (((((Below.refl _ _).alloc (Nat.le_refl _) _).alloc (by simp) _).alloc (by simp; omega) _).alloc (by simp; omega) _).alloc (by simp; omega) _
  refine (ret_quiet w.heap.size (w.heap.size + 1) (w.heap.size + 1 + 1 + 1 + 1) (w.heap.size + 1 + 1) (w.heap.size + 1 + 1 + 1) size n c m d A Q ns qs _
    (((((Blk.mk' rfl).alloc _).alloc _).alloc _).alloc _) ((((Blk.mk' (by simp)).alloc _).alloc _).alloc _) (Blk.mk' (by simp)) (((Blk.mk' (by simp)).alloc _).alloc _) ((Blk.mk' (by simp)).alloc _)
    (HV.out.below (hbel _ _ _ _ _)) h0 h1 w.heap.size (by omega) (by simp; omega) (HR.out.below (hbel _ _ _ _ _)) hn HNS.out (HQ.out.below (hbel _ _ _ _ _)) hm HQS.out).mono ?_
  rintro e w1 ⟨rfl, ht, h⟩
  have hb : Below w.heap.size w w1 := by
    have t0 : Touch (fun b => w.heap.size ≤ b) w w1 := (((((((Touch.refl _ w).alloc _).alloc _).alloc _).alloc _).alloc _).trans ht fun i hi h => by rcases h with h | h <;> omega)
    exact t0.below (Nat.le_refl _) (fun i hi => by omega)
  have HB := Lib.hid hb
  clear ht hb
  rcases h with ⟨hp, hk, R, v, ha, hv, hown⟩ | ⟨hp, hk, hv⟩
  · obtain ⟨A1, c1, rfl⟩ := own_slice hown
    have ck := hk.cell 0
    have fk := hk.free 0
    have cv := hv.cell 0
    have fv := hv.free 0
    simp at ck cv
    have HK := Lib.hid hk
    have HV := Lib.hid hv
    have HO := Lib.hid hown
    have HA := Lib.hid ha
    have HP := Lib.hid hp
    clear hk hv hown ha hp hbel
    go_wp2_with fail
    have hb2 := (HV.out.put 0 (.slice A1 qs.length c1)).far (p := ⟨w.heap.size + 1 + 1 + 1 + 1, 0, none⟩) (by simp) (.bool true)
    have hb3 := (HK.out.far (p := ⟨w.heap.size + 1 + 1 + 1, 0, none⟩) (by simp) (.slice A1 qs.length c1)).put 0 (.bool true)
    have cv2 := hb2.cell 0
    have ck2 := hb3.cell 0
    simp at cv2 ck2
    refine bodyPost_ret_by (v := .tuple #[.slice A1 qs.length c1, .bool true]) ?_ rfl ?_
    · simp [results, Tryd.results9, go_sem, cv2, ck2]
    refine ⟨(HB.out.setCell (p := ⟨w.heap.size + 1 + 1 + 1, 0, none⟩) (by simp; omega) _).setCell (p := ⟨w.heap.size + 1 + 1 + 1 + 1, 0, none⟩) (by simp; omega) _, .inl ⟨HP.out, R, A1, c1, HA.out, rfl, ?_⟩⟩
    exact Reads.own (own_far (own_far HO.out (p := ⟨w.heap.size + 1 + 1 + 1, 0, none⟩) (by simp) _) (p := ⟨w.heap.size + 1 + 1 + 1 + 1, 0, none⟩) (by simp) _)
  · have ck := hk.cell 0
    have fk := hk.free 0
    have cv := hv.cell 0
    have fv := hv.free 0
    simp at ck cv
    have HK := Lib.hid hk
    have HV := Lib.hid hv
    have HP := Lib.hid hp
    clear hk hv hp hbel
    go_wp2_with fail
    have hb2 := (HV.out.put 0 (.slice none 0 0)).far (p := ⟨w.heap.size + 1 + 1 + 1 + 1, 0, none⟩) (by simp) (.bool false)
    have hb3 := (HK.out.far (p := ⟨w.heap.size + 1 + 1 + 1, 0, none⟩) (by simp) (.slice none 0 0)).put 0 (.bool false)
    have cv2 := hb2.cell 0
    have ck2 := hb3.cell 0
    simp at cv2 ck2
    refine bodyPost_ret_by (v := .tuple #[.slice none 0 0, .bool false]) ?_ rfl ?_
    · simp [results, Tryd.results9, go_sem, cv2, ck2]
    exact ⟨(HB.out.setCell (p := ⟨w.heap.size + 1 + 1 + 1, 0, none⟩) (by simp; omega) _).setCell (p := ⟨w.heap.size + 1 + 1 + 1 + 1, 0, none⟩) (by simp; omega) _, .inr ⟨HP.out, rfl⟩⟩
end Go.Proofs.YtlkmmkphpiamcaaDoor
