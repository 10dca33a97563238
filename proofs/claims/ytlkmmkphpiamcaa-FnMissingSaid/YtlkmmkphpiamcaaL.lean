/-
  impl.Has: what a receive log of a size with numbers has. Conditions: sizes from 64 to 65535; at most 1000 questions. By an AI agent.
-/
import Derived.Test.YtlkmmkphpiamcaaK
namespace Go.Proofs.Ytlkmmkphpiamcaa
open Go.RowKit

theorem info_bool : (Try.prog.info? 4).map (fun i => (i.zero, i.size, i.bytes)) = some (some (.bool false), 1, 1) := by kernel_rfl

/-- What get answers. -/
def Log.gets (L : Log) (s : Nat) : Bool := decide ((L.top + (65536 - s)) % 65536 < 32768 ∧ (L.top + (65536 - s)) % 65536 < L.size) && L.has s

def HasPost (size bk bo : Nat) (ns qs : List Nat) (w w' : World) : Prop :=
  Touch (fun b => b = bk ∨ b = bo) w w' ∧
  ((IsPow size ∧ Blk w' bk 4 #[.bool true] ∧ ∃ L v, Adds (freshLog size) ns L ∧ Blk w' bo 30 #[v] ∧ w'.ownsRow w.heap.size 4 1 v qs.length (qs.map fun s => Value.bool (L.gets s))) ∨
   (¬ IsPow size ∧ Blk w' bk 4 #[.bool false] ∧ Blk w' bo 30 #[.slice none 0 0]))

def HInv (bo : Nat) (qs : List Nat) (L : Log) (B : Nat) (w1 : World) (k : Nat) (wr : World) : Prop :=
  ∃ v, Blk wr bo 30 #[v] ∧ wr.ownsRow B 4 1 v k ((qs.take k).map fun s => Value.bool (L.gets s)) ∧ Touch (· = bo) w1 wr

theorem hinv_step {bo k gg cap B : Nat} {qs : List Nat} {L : Log} {w1 wr w2 : World} {v : Value} {s : Nat} {o : Obj} (hs : qs[k]? = some s)
    (HV : Blk wr bo 30 #[v]) (HO : wr.ownsRow B 4 1 v k ((qs.take k).map fun s => Value.bool (L.gets s))) (HT : Touch (· = bo) w1 wr)
    (hown2 : w2.ownsRow B 4 1 (.slice (some ⟨gg, 0, none⟩) (k + 1) cap) (k + 1) (((qs.take k).map fun s => Value.bool (L.gets s)) ++ [.bool (L.gets s)]))
    (hgrow : (wr.alloc o).grownBy w2 v.ownBlock) (ob : bo < B) (hB : w1.heap.size ≤ B) :
    HInv bo qs L B w1 (k + 1) (w2.setCell ⟨bo, 0, none⟩ (.slice (some ⟨gg, 0, none⟩) (k + 1) cap)) := by
  have hb2 := (HV.alloc o).grown hgrow (own_apart HO ob).symm
  refine ⟨_, by simpa using hb2.put 0 _, ?_, ?_⟩
  · have := own_far hown2 (p := ⟨bo, 0, none⟩) ob (.slice (some ⟨gg, 0, none⟩) (k + 1) cap)
    rw [List.take_add_one, hs]
    simpa using this
  · have t2 : Touch (· = bo) w1 w2 := (HT.alloc o).grown hgrow fun g hg hlt => by
      have := (HO.lt g hg).1
      omega
    exact t2.setCell (p := ⟨bo, 0, none⟩) (fun _ => rfl) _

set_option maxRecDepth 100000 in
set_option maxHeartbeats 800000 in
theorem has_closure (bs bl bk bq bo size n c m d : Nat) (A Q : Option Addr) (ns qs : List Nat) (w : World)
    (hbs : Blk w bs 3 #[.int .i64 size]) (hbl : Blk w bl 22 #[.slice A n c]) (hbk : Blk w bk 4 #[.bool false]) (hbq : Blk w bq 22 #[.slice Q m d]) (hbo : Blk w bo 30 #[.slice none 0 0])
    (h0 : 64 ≤ size) (h1 : size ≤ 65535) (hr : Reads w w.heap.size 1 A n (U16s ns)) (hn : n ≤ 9223372036854775807) (hns : ∀ q ∈ ns, q ≤ 65535)
    (base : Nat) (hbase : base ≤ bk ∧ base ≤ bo) (hq : Reads w base 1 Q m (U16s qs)) (hm : m ≤ 1000) (hqs : ∀ q ∈ qs, q ≤ 65535) :
    Calls Try.prog 35 #[.pointer (some ⟨bs, 0, none⟩), .pointer (some ⟨bl, 0, none⟩), .pointer (some ⟨bk, 0, none⟩), .pointer (some ⟨bq, 0, none⟩), .pointer (some ⟨bo, 0, none⟩)] w
      fun e w' => e = .returned (.tuple #[]) ∧ HasPost size bk bo ns qs w w' := by
  obtain ⟨i0, hi0, hz0, hz1, hz2⟩ := info_parts info_bool
  have cs := hbs.cell 0
  have cl := hbl.cell 0
  have lk := hbk.lt
  have lo := hbo.lt
  have lq := hbq.lt
  have dko : bk ≠ bo := hbk.unlike hbo (by decide)
  have dkq : bq ≠ bk := hbq.unlike hbk (by decide)
  have dqo : bq ≠ bo := hbq.unlike hbo (by decide)
  simp at cs cl
  have hmq : qs.length = m := by simpa [U16s] using hq.1
  have HBK := Lib.hid hbk
  have HBQ := Lib.hid hbq
  have HBO := Lib.hid hbo
  have HR := Lib.hid hr
  have HQ := Lib.hid hq
  have HNS := Lib.hid hns
  have HQS := Lib.hid hqs
  have HMQ := Lib.hid hmq
  obtain ⟨hba1, hba2⟩ := hbase
  clear hbs hbl hbk hbq hbo hr hq hns hqs hmq
  go_enter Try.func35, Try.ntmps35
  go_wp2_with fail
  refine (logged_any size n c A ns w h0 h1 HR.out hn HNS.out).mono ?_
  rintro e w1 ⟨hb, ⟨hp, g, p, L, rfl, hg, hpp, hL, hadds⟩ | ⟨hp, rfl⟩⟩
  · have hbk1 := HBK.out.below hb lk
    have ck := hbk1.cell 0
    have fk := hbk1.free 0
    have hbq1 := (HBQ.out.below hb lq).far (p := ⟨bk, 0, none⟩) dkq (.bool true)
    have cq := hbq1.cell 0
    simp at ck cq
    have HB := Lib.hid hb
    have HP := Lib.hid hp
    have HL := Lib.hid hL
    have HA := Lib.hid hadds
    have HBK1 := Lib.hid hbk1
    have lw := hb.size
    have HLW := Lib.hid (hL.touch ((Touch.refl (· = bk) w1).setCell (p := ⟨bk, 0, none⟩) (fun _ => rfl) (.bool true)) (by omega) (by omega))
    have HBOW := Lib.hid ((HBO.out.below hb lo).far (p := ⟨bk, 0, none⟩) (Ne.symm dko) (.bool true))
    have HQW := Lib.hid ((HQ.out.below (hb.mono (by omega))).touch ((Touch.refl (· = bk) w1).setCell (p := ⟨bk, 0, none⟩) (fun _ => rfl) (.bool true)) (B := base) (by omega) (by omega))
    have HTW : Hid (Touch (fun b => b = bk ∨ b = bo) w (w1.setCell ⟨bk, 0, none⟩ (.bool true))) := ((Touch.ofBelow hb (by omega)).setCell (p := ⟨bk, 0, none⟩) (fun _ => .inl rfl) _)
    have HBKW := Lib.hid (hbk1.put 0 (.bool true))
    have lsz : Hid ((w1.setCell ⟨bk, 0, none⟩ (.bool true)).heap.size = w1.heap.size) := by simp [Hid, World.setCell]
    clear hb hp hL hadds hbk1 hbq1
    go_wp2_with fail
    generalize hW : w1.setCell ⟨bk, 0, none⟩ (.bool true) = W at *
    clear hW
    go_loopw [17] (fun v wr => ∃ k : Nat, v = .int .i64 k ∧ k ≤ m ∧ Hid (HInv bo qs L W.heap.size W k wr)) (fun v _ => m - (intOf v).toNat)
    case atStart => exact ⟨0, rfl, by omega, _, HBOW.out, World.ownsRow_nil _ _ _ _, Touch.refl _ _⟩
    case round =>
      obtain ⟨k, rfl, hk, hinv⟩ := hrel
      obtain ⟨v, hv, hown, ht⟩ := hinv.out
      by_cases hlt : k < m
      · obtain ⟨ad, s, rfl, hab, hsk, hs, hc⟩ := u16s_at (HQW.out.touch ht (by have := lsz.out; omega) (by omega)) HQS.out hlt
        have HLr := Lib.hid (HLW.out.touch ht (by omega) (by omega))
        have co := hv.cell 0
        have fo := hv.free 0
        have lbo := hv.lt
        simp at co
        have HSK := Lib.hid hsk
        have HV := Lib.hid hv
        have HOWN := Lib.hid hown
        have HT := Lib.hid ht
        have hsz := ht.size
        have hszW : bo < W.heap.size := by have := lsz.out; omega
        have hgets := zzget_any g p L s
        have hget : ∀ W', LogAt W' g p L → Calls Try.prog 37 #[.pointer (some ⟨g, 0, none⟩), .int .u16 s] W' fun e w' => e = .returned (.bool (L.gets s)) ∧ W' = w' := fun W' h => zzget_any g p L s W' h hs
        have HG := Lib.hid hget
        clear hinv hsk hv hown ht hgets hget
        go_wp2_with fail
        go_region_law
          (first
            | (go_simp; go_at_call 37; refine (HG.out _ ?_).mono ?_; (exact HLr.out); rintro e w' ⟨rfl, rfl⟩)
            | (refine step_append_lies _ (by rfl) _ _ _ (by rfl) W.heap.size 4 i0 _ 1 1 Try.underlying30 hi0 hz0 hz1 hz2 rfl (by omega) v k _ (by rfl) ((own_drew HOWN.out).alloc _) ⟨wr.heap.size, 0, none⟩ 1 1 [.bool (L.gets s)] (by rfl) (by rfl) (World.news_of_block (cs := #[.bool (L.gets s)]) (t := 4) (fr := (0, 0)) (heap_alloc_new wr.drew _)) (by simp [Value.oneCell']) (by omega) (by simp only [maxLen]; omega) (by omega) (by simp; omega) (wr.heap.size + 1) (by simp) ?_; intro gg cap w2 hown2 hgrow hat hlt2; have hv2 := ((Blk.drew HV.out).alloc _).grown hgrow (own_apart HOWN.out hszW).symm; have co2 : w2.cell? ⟨bo, 0, none⟩ = some v := hv2.cell 0; have fo2 := hv2.free 0))
        all_goals go_wp2_with fail
        all_goals exact ⟨⟨k + 1, by go_num, by omega, hinv_step HSK.out (Blk.drew HV.out) (own_drew HOWN.out) HT.out.drew hown2 hgrow hszW (Nat.le_refl _)⟩, by simp [intOf]; omega⟩
      · obtain rfl : k = m := by omega
        have HV := Lib.hid hv
        have HOWN := Lib.hid hown
        have HT := Lib.hid ht
        clear hinv hv hown ht
        go_wp2_with fail
        go_end0
        refine ⟨rfl, HTW.out.trans HT.out (fun i _ h => .inr h), .inl ⟨HP.out, HBKW.out.touch HT.out dko, L, v, HA.out, HV.out, ?_⟩⟩
        have h := HOWN.out
        rw [List.take_of_length_le (by rw [HMQ.out]; omega)] at h
        rw [HMQ.out]
        have hlow : w.heap.size ≤ W.heap.size := by have := lsz.out; omega
        obtain ⟨h1, h2⟩ := h
        refine ⟨h1, ?_⟩
        rcases h2 with h2 | ⟨g, cap, cur, hv, hg, hh⟩
        · exact .inl h2
        · exact .inr ⟨g, cap, cur, hv, by omega, hh⟩
  · have hbk1 := HBK.out.below hb lk
    have ck := hbk1.cell 0
    have fk := hbk1.free 0
    simp at ck
    have HTW : Hid (Touch (fun b => b = bk ∨ b = bo) w (w1.setCell ⟨bk, 0, none⟩ (.bool false))) := ((Touch.ofBelow hb (by omega)).setCell (p := ⟨bk, 0, none⟩) (fun _ => .inl rfl) _)
    have HBOW := Lib.hid ((HBO.out.below hb lo).far (p := ⟨bk, 0, none⟩) (Ne.symm dko) (.bool false))
    have HBKW := Lib.hid (hbk1.put 0 (.bool false))
    have HP := Lib.hid hp
    clear hb hp hbk1
    go_wp2_with fail
    go_end0
    exact ⟨rfl, HTW.out, .inr ⟨HP.out, HBKW.out, HBOW.out⟩⟩

/-- quietly over a closure that returns: true. -/
theorem quietly_35 (p1 p2 p3 p4 p5 : Value) (w : World) (R : World → Prop)
    (hg : Calls Try.prog 35 #[p1, p2, p3, p4, p5] (w.alloc (.cells #[.bool false] 4)) fun e w' => e = .returned (.tuple #[]) ∧ R w' ∧ Blk w' w.heap.size 4 #[.bool false]) :
    Calls Try.prog 32 #[.func (.func 35) #[] #[p1, p2, p3, p4, p5]] w fun e w' => e = .returned (.bool true) ∧ ∃ w1, R w1 ∧ w' = w1.setCell ⟨w.heap.size, 0, none⟩ (.bool true) := by
  have H := Lib.hid hg
  clear hg
  have hmf : ∀ (fn : Fn) (first cap : Array Value) (w : World), (Instr.makeFunc fn first cap).run Try.prog w = .ok (.func fn first cap) w := fun _ _ _ _ => rfl
  go_enter_defers Try.func32, Try.ntmps32
  go_wp2_with fail
  refine H.out.mono ?_
  rintro e w1 ⟨rfl, hR, hb⟩
  have hc := hb.cell 0
  have hf := hb.free 0
  simp only [List.getElem?_toArray, List.getElem?_cons_zero] at hc
  have HR := Lib.hid hR
  have HB := Lib.hid hb
  clear hR hb
  go_wp2_with fail
  refine leaves_cons (f := 61) (args := #[.pointer (some ⟨w.heap.size, 0, none⟩)]) (by simp) (by simp [go_sem]) ?_
  refine (catch_idle ⟨w.heap.size, 0, none⟩ _).mono ?_
  rintro e u' w'' ⟨rfl, rfl, rfl⟩
  have hb2 : (w1.setCell ⟨w.heap.size, 0, none⟩ (.bool true)).cell? ⟨w.heap.size, 0, none⟩ = some (.bool true) := by
    simp [go_sem, hc]
  simp [Leaves, settle, results, Try.results32, go_sem, hb2]
  exact ⟨w1, HR.out, rfl⟩

def HasR (size : Nat) (ns qs : List Nat) (w : World) (e : Ending) (w' : World) : Prop :=
  Below w.heap.size w w' ∧ ((IsPow size ∧ ∃ L A c, Adds (freshLog size) ns L ∧ e = .returned (.tuple #[.slice A qs.length c, .bool true]) ∧ Reads w' w'.heap.size 1 A qs.length (qs.map fun s => Value.bool (L.gets s))) ∨
    (¬ IsPow size ∧ e = .returned (.tuple #[.slice none 0 0, .bool false])))

theorem Blk.mk' {w : World} {k : Nat} {t : TypeId} {cs : Array Value} (h : k = w.heap.size) : Blk (w.alloc (.cells cs t)) k t cs := by subst h; exact Blk.new w t cs

theorem has_quiet (bs bl bk bq bo size n c m d : Nat) (A Q : Option Addr) (ns qs : List Nat) (w : World)
    (hbs : Blk w bs 3 #[.int .i64 size]) (hbl : Blk w bl 22 #[.slice A n c]) (hbk : Blk w bk 4 #[.bool false]) (hbq : Blk w bq 22 #[.slice Q m d]) (hbo : Blk w bo 30 #[.slice none 0 0])
    (h0 : 64 ≤ size) (h1 : size ≤ 65535) (hr : Reads w w.heap.size 1 A n (U16s ns)) (hn : n ≤ 9223372036854775807) (hns : ∀ q ∈ ns, q ≤ 65535)
    (base : Nat) (hbase : base ≤ bk ∧ base ≤ bo) (hq : Reads w base 1 Q m (U16s qs)) (hm : m ≤ 1000) (hqs : ∀ q ∈ qs, q ≤ 65535) :
    Calls Try.prog 32 #[.func (.func 35) #[] #[.pointer (some ⟨bs, 0, none⟩), .pointer (some ⟨bl, 0, none⟩), .pointer (some ⟨bk, 0, none⟩), .pointer (some ⟨bq, 0, none⟩), .pointer (some ⟨bo, 0, none⟩)]] w
      fun e w' => e = .returned (.bool true) ∧ HasPost size bk bo ns qs w w' := by
  have ls := hbs.lt
  have ll := hbl.lt
  have lk := hbk.lt
  have lq := hbq.lt
  have lo := hbo.lt
  refine (quietly_35 _ _ _ _ _ w (HasPost size bk bo ns qs (w.alloc (.cells #[.bool false] 4))) ?_).mono ?_
  · refine (has_closure bs bl bk bq bo size n c m d A Q ns qs _ (hbs.alloc _) (hbl.alloc _) (hbk.alloc _) (hbq.alloc _) (hbo.alloc _) h0 h1 ?_ hn hns base hbase ?_ hm hqs).mono ?_
    · exact (hr.touch (S := Nowhere) ((Touch.refl _ w).alloc _) (Nat.le_refl _) (fun _ _ h => h)).more (by simp)
    · exact hq.touch (S := Nowhere) ((Touch.refl _ w).alloc _) (by omega) (fun _ _ h => h)
    rintro e w' ⟨rfl, h⟩
    exact ⟨rfl, h, (Blk.new w 4 _).touch h.1 (by omega)⟩
  · rintro e w' ⟨rfl, w1, ⟨ht, h⟩, rfl⟩
    have t1 : Touch (fun b => b = bk ∨ b = bo) w w1 := ((Touch.refl _ w).alloc _).trans ht fun _ _ h => h
    refine ⟨rfl, t1.setCell (fun h => absurd h (by simp)) _, ?_⟩
    rcases h with ⟨hp, hk, L, v, ha, hv, hown⟩ | ⟨hp, hk, hv⟩
    · refine .inl ⟨hp, hk.far (by simp; omega) _, L, v, ha, hv.far (by simp; omega) _, ?_⟩
      have h2 := own_far hown (p := ⟨w.heap.size, 0, none⟩) (by simp) (.bool true)
      obtain ⟨h3, h4⟩ := h2
      refine ⟨h3, ?_⟩
      rcases h4 with h4 | ⟨g, cap, cur, hv, hg, hh⟩
      · exact .inl h4
      · exact .inr ⟨g, cap, cur, hv, by simp at hg; omega, hh⟩
    · exact .inr ⟨hp, hk.far (by simp; omega) _, hv.far (by simp; omega) _⟩

set_option maxHeartbeats 800000 in
theorem has_any (size n c m d : Nat) (A Q : Option Addr) (ns qs : List Nat) (w : World)
    (h0 : 64 ≤ size) (h1 : size ≤ 65535) (hr : Reads w w.heap.size 1 A n (U16s ns)) (hn : n ≤ 9223372036854775807) (hns : ∀ q ∈ ns, q ≤ 65535)
    (hq : Reads w w.heap.size 1 Q m (U16s qs)) (hm : m ≤ 1000) (hqs : ∀ q ∈ qs, q ≤ 65535) :
    Calls Try.prog 15 #[.int .i64 size, .slice A n c, .slice Q m d] w (HasR size ns qs w) := by
  have hmf : ∀ (fn : Fn) (first cap : Array Value) (w : World), (Instr.makeFunc fn first cap).run Try.prog w = .ok (.func fn first cap) w := fun _ _ _ _ => rfl
  have hmq : qs.length = m := by simpa [U16s] using hq.1
  have HR := Lib.hid hr
  have HQ := Lib.hid hq
  have HNS := Lib.hid hns
  have HQS := Lib.hid hqs
  have HMQ := Lib.hid hmq
  clear hr hq hns hqs hmq
  go_enter Try.func15, Try.ntmps15
  go_wp2_with fail
  refine (has_quiet w.heap.size (w.heap.size + 1) (w.heap.size + 1 + 1 + 1 + 1) (w.heap.size + 1 + 1) (w.heap.size + 1 + 1 + 1) size n c m d A Q ns qs _
    (((((Blk.mk' rfl).alloc _).alloc _).alloc _).alloc _) ((((Blk.mk' (by simp)).alloc _).alloc _).alloc _) (Blk.mk' (by simp)) (((Blk.mk' (by simp)).alloc _).alloc _) ((Blk.mk' (by simp)).alloc _)
    h0 h1 ?_ hn HNS.out w.heap.size (by omega) ?_ hm HQS.out).mono ?_
  · exact (HR.out.below (((((((Below.refl _ _).alloc (Nat.le_refl _) _).alloc (by simp) _).alloc (by simp; omega) _).alloc (by simp; omega) _).alloc (by simp; omega) _))).more (by simp; omega)
  · exact HQ.out.below (((((((Below.refl _ _).alloc (Nat.le_refl _) _).alloc (by simp) _).alloc (by simp; omega) _).alloc (by simp; omega) _).alloc (by simp; omega) _))
  rintro e w1 ⟨rfl, ht, h⟩
  have hb : Below w.heap.size w w1 := by
    have t0 : Touch (fun b => w.heap.size ≤ b) w w1 := (((((((Touch.refl _ w).alloc _).alloc _).alloc _).alloc _).alloc _).trans ht fun i hi h => by rcases h with h | h <;> omega)
    exact t0.below (Nat.le_refl _) (fun i hi => by omega)
  have HB := Lib.hid hb
  clear ht hb
  rcases h with ⟨hp, hk, L, v, ha, hv, hown⟩ | ⟨hp, hk, hv⟩
  · obtain ⟨A1, c1, rfl⟩ := own_slice hown
    have ck := hk.cell 0
    have fk := hk.free 0
    have cv := hv.cell 0
    have fv := hv.free 0
    simp at ck cv
    have HK := Lib.hid hk
    have HV := Lib.hid hv
    have HO := Lib.hid hown
    have HA := Lib.hid ha
    have HP := Lib.hid hp
    clear hk hv hown ha hp
    go_wp2_with fail
    have hb2 := (HV.out.put 0 (.slice A1 qs.length c1)).far (p := ⟨w.heap.size + 1 + 1 + 1 + 1, 0, none⟩) (by simp) (.bool true)
    have hb3 := (HK.out.far (p := ⟨w.heap.size + 1 + 1 + 1, 0, none⟩) (by simp) (.slice A1 qs.length c1)).put 0 (.bool true)
    have cv2 := hb2.cell 0
    have ck2 := hb3.cell 0
    simp at cv2 ck2
    refine bodyPost_ret_by (v := .tuple #[.slice A1 qs.length c1, .bool true]) ?_ rfl ?_
    · simp [results, Try.results15, go_sem, cv2, ck2]
    refine ⟨(HB.out.setCell (p := ⟨w.heap.size + 1 + 1 + 1, 0, none⟩) (by simp; omega) _).setCell (p := ⟨w.heap.size + 1 + 1 + 1 + 1, 0, none⟩) (by simp; omega) _, .inl ⟨HP.out, L, A1, c1, HA.out, rfl, ?_⟩⟩
    exact Reads.own (own_far (own_far HO.out (p := ⟨w.heap.size + 1 + 1 + 1, 0, none⟩) (by simp) _) (p := ⟨w.heap.size + 1 + 1 + 1 + 1, 0, none⟩) (by simp) _)
  · have ck := hk.cell 0
    have fk := hk.free 0
    have cv := hv.cell 0
    have fv := hv.free 0
    simp at ck cv
    have HK := Lib.hid hk
    have HV := Lib.hid hv
    have HP := Lib.hid hp
    clear hk hv hp
    go_wp2_with fail
    have hb2 := (HV.out.put 0 (.slice none 0 0)).far (p := ⟨w.heap.size + 1 + 1 + 1 + 1, 0, none⟩) (by simp) (.bool false)
    have hb3 := (HK.out.far (p := ⟨w.heap.size + 1 + 1 + 1, 0, none⟩) (by simp) (.slice none 0 0)).put 0 (.bool false)
    have cv2 := hb2.cell 0
    have ck2 := hb3.cell 0
    simp at cv2 ck2
    refine bodyPost_ret_by (v := .tuple #[.slice none 0 0, .bool false]) ?_ rfl ?_
    · simp [results, Try.results15, go_sem, cv2, ck2]
    exact ⟨(HB.out.setCell (p := ⟨w.heap.size + 1 + 1 + 1, 0, none⟩) (by simp; omega) _).setCell (p := ⟨w.heap.size + 1 + 1 + 1 + 1, 0, none⟩) (by simp; omega) _, .inr ⟨HP.out, rfl⟩⟩
end Go.Proofs.Ytlkmmkphpiamcaa
