/-
  impl.Missing. By an AI agent.
-/
import Derived.Test.YtlkmmkphpiamcaaDoorD
namespace Go.Proofs.YtlkmmkphpiamcaaDoor
open Go.RowKit

open Go.RowKit

def Ints (ns : List Nat) : List Int := ns.map fun q : Nat => (q : Int)
theorem ints_get (ns : List Nat) (i : Nat) (h : i < ns.length) : (Ints ns).getD i 0 = (ns[i] : Int) := by
  simp [Ints, List.getD, List.getElem?_eq_getElem h]

theorem topAt_mem (outs : List Int) : ∀ i, i < outs.length → topAt outs i ∈ outs
  | 0, h => by
    simp [topAt, List.getD, List.getElem?_eq_getElem h]
  | i + 1, h => by
    simp only [topAt]
    rcases Int.le_total (topAt outs i) (outs.getD (i + 1) 0) with h1 | h1
    · rw [Int.max_eq_right h1, List.getD, List.getElem?_eq_getElem h]
      exact List.getElem_mem h
    · rw [Int.max_eq_left h1]
      exact topAt_mem outs i (by omega)
theorem topAt_ge (outs : List Int) : ∀ i j, j ≤ i → i < outs.length → outs.getD j 0 ≤ topAt outs i
  | 0, j, h, _ => by
    obtain rfl : j = 0 := by omega
    simp [topAt]
  | i + 1, j, h, hl => by
    simp only [topAt]
    rcases Nat.lt_or_ge i j with h1 | h1
    · obtain rfl : j = i + 1 := by omega
      omega
    · have := topAt_ge outs i j h1 (by omega)
      omega

open Go.RowKit

theorem info_bool : (Tryd.prog.info? 4).map (fun i => (i.zero, i.size, i.bytes)) = some (some (.bool false), 1, 1) := by kernel_rfl

/-- What get answers. -/
def Log.gets (L : Log) (s : Nat) : Bool := decide ((L.top + (65536 - s)) % 65536 < 32768 ∧ (L.top + (65536 - s)) % 65536 < L.size) && L.has s

def HasPost (size bk bo : Nat) (ns qs : List Nat) (w w' : World) : Prop :=
  Touch (fun b => b = bk ∨ b = bo) w w' ∧
  ((IsPow size ∧ Blk w' bk 4 #[.bool true] ∧ ∃ L v, Adds (freshLog size) ns L ∧ Blk w' bo 30 #[v] ∧ w'.ownsRow w.heap.size 4 1 v qs.length (qs.map fun s => Value.bool (L.gets s))) ∨
   (¬ IsPow size ∧ Blk w' bk 4 #[.bool false] ∧ Blk w' bo 30 #[.slice none 0 0]))

def HInv (bo : Nat) (qs : List Nat) (L : Log) (B : Nat) (w1 : World) (k : Nat) (wr : World) : Prop :=
  ∃ v, Blk wr bo 30 #[v] ∧ wr.ownsRow B 4 1 v k ((qs.take k).map fun s => Value.bool (L.gets s)) ∧ Touch (· = bo) w1 wr

theorem hinv_step {bo k gg cap B : Nat} {qs : List Nat} {L : Log} {w1 wr w2 : World} {v : Value} {s : Nat} {o : Obj} (hs : qs[k]? = some s)
    (HV : Blk wr bo 30 #[v]) (HO : wr.ownsRow B 4 1 v k ((qs.take k).map fun s => Value.bool (L.gets s))) (HT : Touch (· = bo) w1 wr)
    (hown2 : w2.ownsRow B 4 1 (.slice (some ⟨gg, 0, none⟩) (k + 1) cap) (k + 1) (((qs.take k).map fun s => Value.bool (L.gets s)) ++ [.bool (L.gets s)]))
    (hgrow : (wr.alloc o).grownBy w2 v.ownBlock) (ob : bo < B) (hB : w1.heap.size ≤ B) :
    HInv bo qs L B w1 (k + 1) (w2.setCell ⟨bo, 0, none⟩ (.slice (some ⟨gg, 0, none⟩) (k + 1) cap)) := by
  have hb2 := (HV.alloc o).grown hgrow (own_apart HO ob).symm
  refine ⟨_, by simpa using hb2.put 0 _, ?_, ?_⟩
  · have := own_far hown2 (p := ⟨bo, 0, none⟩) ob (.slice (some ⟨gg, 0, none⟩) (k + 1) cap)
    rw [List.take_add_one, hs]
    simpa using this
  · have t2 : Touch (· = bo) w1 w2 := (HT.alloc o).grown hgrow fun g hg hlt => by
      have := (HO.lt g hg).1
      omega
    exact t2.setCell (p := ⟨bo, 0, none⟩) (fun _ => rfl) _

def HasR (size : Nat) (ns qs : List Nat) (w : World) (e : Ending) (w' : World) : Prop :=
  Below w.heap.size w w' ∧ ((IsPow size ∧ ∃ L A c, Adds (freshLog size) ns L ∧ e = .returned (.tuple #[.slice A qs.length c, .bool true]) ∧ Reads w' w'.heap.size 1 A qs.length (qs.map fun s => Value.bool (L.gets s))) ∨
    (¬ IsPow size ∧ e = .returned (.tuple #[.slice none 0 0, .bool false])))

theorem Blk.mk' {w : World} {k : Nat} {t : TypeId} {cs : Array Value} (h : k = w.heap.size) : Blk (w.alloc (.cells cs t)) k t cs := by subst h; exact Blk.new w t cs

open Go.RowKit
theorem mrow_news {w : World} {b : Nat} {l : List Nat} (h : MRow w b l) : ∀ j u, (U16s l)[j]? = some u → w.cell? ((⟨b, 0, none⟩ : Addr).add j) = some u := by
  intro j u hu
  rcases Nat.eq_zero_or_pos l.length with h0 | h0
  · rw [List.eq_nil_of_length_eq_zero h0] at hu
    simp [U16s] at hu
  · obtain ⟨ad, e, _, hc⟩ := (mrow_reads h).2 h0
    injection e with e
    subst e
    exact hc j u hu
theorem own_low {w : World} {base base' : Nat} {e : TypeId} {size : Nat} {v : Value} {n : Nat} {xs : List Value} (h : w.ownsRow base' e size v n xs) (hb : base ≤ base') : w.ownsRow base e size v n xs := by
  obtain ⟨h1, h2⟩ := h
  refine ⟨h1, ?_⟩
  rcases h2 with h2 | ⟨g, cap, cur, hv, hg, hh⟩
  · exact .inl h2
  · exact .inr ⟨g, cap, cur, hv, by omega, hh⟩
theorem u16s_one (l : List Nat) : ∀ u ∈ U16s l, u.oneCell' = true := by
  intro u hu
  obtain ⟨q, _, rfl⟩ := List.mem_map.1 hu
  rfl

/-- What impl.Missing's closure leaves. -/
def missOut (L : Log) (skip : Nat) : List Nat :=
  if (L.top + (65536 - skip) + (65536 - L.last)) % 65536 < 32768 then missL L ((L.top + (65536 - skip) + (65536 - L.last)) % 65536) else []

def MisPost (size bk bo skip : Nat) (ns : List Nat) (w w' : World) : Prop :=
  Touch (fun b => b = bk ∨ b = bo) w w' ∧
  ((IsPow size ∧ Blk w' bk 4 #[.bool true] ∧ ∃ L v, Adds (freshLog size) ns L ∧ Blk w' bo 22 #[v] ∧ w'.ownsRow w.heap.size 32 1 v (missOut L skip).length (U16s (missOut L skip))) ∨
   (¬ IsPow size ∧ Blk w' bk 4 #[.bool false] ∧ Blk w' bo 22 #[.slice none 0 0]))

set_option maxRecDepth 100000 in
set_option maxHeartbeats 1600000 in
theorem miss_closure (bs bl bk bq bo size n c skip : Nat) (A : Option Addr) (ns : List Nat) (w : World)
    (hbs : Blk w bs 3 #[.int .i64 size]) (hbl : Blk w bl 22 #[.slice A n c]) (hbk : Blk w bk 4 #[.bool false]) (hbq : Blk w bq 3 #[.int .i64 skip]) (hbo : Blk w bo 22 #[.slice none 0 0])
    (h0 : IsPow size → 64 ≤ size) (h1 : size ≤ 65535) (hr : Reads w w.heap.size 1 A n (U16s ns)) (hn : n ≤ 9223372036854775807) (hns : ∀ q ∈ ns, q ≤ 65535) (hsk : skip ≤ 100) :
    Calls Tryd.prog 24 #[.pointer (some ⟨bs, 0, none⟩), .pointer (some ⟨bl, 0, none⟩), .pointer (some ⟨bk, 0, none⟩), .pointer (some ⟨bq, 0, none⟩), .pointer (some ⟨bo, 0, none⟩)] w
      fun e w' => e = .returned (.tuple #[]) ∧ MisPost size bk bo skip ns w w' := by
  obtain ⟨i0, hi0, hz0, hz1, hz2⟩ := info_parts info_u16
  have cs := hbs.cell 0
  have cl := hbl.cell 0
  have lk := hbk.lt
  have lo := hbo.lt
  have lq := hbq.lt
  have dko : bk ≠ bo := hbk.unlike hbo (by decide)
  have dkq : bq ≠ bk := hbq.unlike hbk (by decide)
  have dqo : bq ≠ bo := hbq.unlike hbo (by decide)
  simp at cs cl
  have HBK := Lib.hid hbk
  have HBQ := Lib.hid hbq
  have HBO := Lib.hid hbo
  have HR := Lib.hid hr
  have HNS := Lib.hid hns
  clear hbs hbl hbk hbq hbo hr hns
  go_enter Tryd.func24, Tryd.ntmps24
  go_wp2_with fail
  refine (logged_any size n c A ns w h0 h1 HR.out hn HNS.out).mono ?_
  rintro e w1 ⟨hb, ⟨hp, g, p, L, rfl, hg, hpp, hL, hadds⟩ | ⟨hp, rfl⟩⟩
  · have hbk1 := HBK.out.below hb lk
    have ck := hbk1.cell 0
    have fk := hbk1.free 0
    have hbq1 := (HBQ.out.below hb lq).far (p := ⟨bk, 0, none⟩) dkq (.bool true)
    have hbo1 := (HBO.out.below hb lo).far (p := ⟨bk, 0, none⟩) (Ne.symm dko) (.bool true)
    have cq := hbq1.cell 0
    have co := hbo1.cell 0
    have fo := hbo1.free 0
    simp at ck cq co
    have lw := hb.size
    have HLW := Lib.hid (hL.touch ((Touch.refl (· = bk) w1).setCell (p := ⟨bk, 0, none⟩) (fun _ => rfl) (.bool true)) (by omega) (by omega))
    have HTW : Hid (Touch (fun b => b = bk ∨ b = bo) w (w1.setCell ⟨bk, 0, none⟩ (.bool true))) := ((Touch.ofBelow hb (by omega)).setCell (p := ⟨bk, 0, none⟩) (fun _ => .inl rfl) _)
    have HBKW := Lib.hid (hbk1.put 0 (.bool true))
    have HBOW := Lib.hid hbo1
    have HBQW := Lib.hid hbq1
    have lsz : Hid ((w1.setCell ⟨bk, 0, none⟩ (.bool true)).heap.size = w1.heap.size) := by simp [Hid, World.setCell]
    have HP := Lib.hid hp
    have HA := Lib.hid hadds
    clear hb hp hL hadds hbk1 hbq1 hbo1
    go_wp2_with fail
    generalize hW : w1.setCell ⟨bk, 0, none⟩ (.bool true) = W at *
    clear hW
    have hloW : bo < W.heap.size := HBOW.out.lt
    have hqW : bq < W.heap.size := HBQW.out.lt
    have hcall : ∀ W', LogAt W' g p L → Calls Tryd.prog 26 #[.pointer (some ⟨g, 0, none⟩), .int .u16 (skip : Int)] W' (ZMissPost L skip W') := fun W' h => zzmissing_any g p L skip W' h (by omega)
    have HC := Lib.hid hcall
    clear hcall
    rcases Nat.lt_or_ge ((L.top + (65536 - skip) + (65536 - L.last)) % 65536) 32768 with hD | hD
    · have hmo : missOut L skip = missL L ((L.top + (65536 - skip) + (65536 - L.last)) % 65536) := by rw [missOut, if_pos hD]
      have hml := missL_len L ((L.top + (65536 - skip) + (65536 - L.last)) % 65536)
      obtain ⟨l, hl⟩ : ∃ l, missL L ((L.top + (65536 - skip) + (65536 - L.last)) % 65536) = l := ⟨_, rfl⟩
      have hlen : l.length ≤ 65536 := by rw [hl] at hml; omega
      have hcall : ∀ W', LogAt W' g p L → Calls Tryd.prog 26 #[.pointer (some ⟨g, 0, none⟩), .int .u16 (skip : Int)] W' (fun e w' => Touch Nowhere W' w' ∧ ∃ b, W'.heap.size ≤ b ∧ e = .returned (.slice (some ⟨b, 0, none⟩) l.length M16) ∧ MRow w' b l) := by
        intro W' h
        refine (HC.out W' h).mono ?_
        rintro e w' ⟨ht, ⟨h1, _⟩ | ⟨_, b, hb, he, hm⟩⟩
        · omega
        · rw [hl] at he hm
          exact ⟨ht, b, hb, he, hm⟩
      rw [hl] at hmo
      have HMO := Lib.hid hmo
      have HC2 := Lib.hid hcall
      have hskw : IntKind.u16.wrap (skip : Int) = (skip : Int) := by rw [IntKind.wrap_u16]; omega
      clear hD hmo hml hl hcall HC
      go_region_law
        (first
          | (go_simp; go_at_call 26; refine (HC2.out _ ?_).mono ?_; (exact HLW.out); rintro e w3 ⟨ht3, b, hb3, rfl, hm3⟩; have hbo3 := HBOW.out.touch ht3.undrew (fun h => h); have co3 : w3.cell? ⟨bo, 0, none⟩ = some (.slice none 0 0) := hbo3.cell 0; have cq3 : w3.cell? ⟨bq, 0, none⟩ = some (.int .i64 skip) := (HBQW.out.touch ht3.undrew (fun h => h)).cell 0; have HBO3 := Lib.hid hbo3; have HT3 := Lib.hid ht3.undrew; have HM3 := Lib.hid hm3; have HB3 := Lib.hid hb3; clear hbo3 ht3 hm3 hb3)
          | (refine step_append_src _ (by rfl) _ _ _ (by rfl) W.heap.size 32 i0 _ 1 2 Tryd.underlying22 hi0 hz0 hz1 hz2 rfl (by omega) (.slice none 0 0) 0 [] (by rfl) (World.ownsRow_nil _ _ _ _) ⟨b, 0, none⟩ l.length M16 (U16s l) (by rfl) (by simp [U16s]) (mrow_news HM3.out) (u16s_one l) (by simp only [maxLen]; omega) (by omega) HT3.out.size ?_; intro v4 w4 hown4 hgrow4; obtain ⟨A4, c4, rfl⟩ := own_slice hown4; have hbo4 := HBO3.out.grown hgrow4 (by simp [Value.ownBlock]); have co4 : w4.cell? ⟨bo, 0, none⟩ = some (.slice none 0 0) := hbo4.cell 0; have fo4 := hbo4.free 0; have HBO4 := Lib.hid hbo4; clear hbo4))
      all_goals
        go_wp2_with fail
        go_end0
        have hgt : Touch Nowhere W w4 := HT3.out.grown hgrow4 (fun k hk => by simp [Value.ownBlock] at hk)
        refine ⟨rfl, (HTW.out.trans hgt (fun _ _ h => False.elim h)).setCell (p := ⟨bo, 0, none⟩) (fun _ => .inr rfl) _, .inl ⟨HP.out, (HBKW.out.touch hgt (fun h => h)).far (p := ⟨bo, 0, none⟩) dko _, L, .slice A4 l.length c4, HA.out, ?_, ?_⟩⟩
        · have := HBO4.out.put 0 (.slice A4 l.length c4)
          simpa using this
        · rw [HMO.out]
          have h3 : w4.ownsRow W.heap.size 32 1 (.slice A4 l.length c4) l.length (U16s l) := by simpa using hown4
          exact own_low (own_far h3 (p := ⟨bo, 0, none⟩) hloW _) HTW.out.size
    · have hmo : missOut L skip = [] := by rw [missOut, if_neg (by omega)]
      have hcall : ∀ W', LogAt W' g p L → Calls Tryd.prog 26 #[.pointer (some ⟨g, 0, none⟩), .int .u16 (skip : Int)] W' (fun e w' => Touch Nowhere W' w' ∧ e = .returned (.slice none 0 0)) := by
        intro W' h
        refine (HC.out W' h).mono ?_
        rintro e w' ⟨ht, ⟨_, he⟩ | ⟨h1, _⟩⟩
        · exact ⟨ht, he⟩
        · omega
      have HMO := Lib.hid hmo
      have HC2 := Lib.hid hcall
      have hskw : IntKind.u16.wrap (skip : Int) = (skip : Int) := by rw [IntKind.wrap_u16]; omega
      clear hD hmo hcall HC
      go_region_law
        (first
          | (go_simp; go_at_call 26; refine (HC2.out _ ?_).mono ?_; (exact HLW.out); rintro e w3 ⟨ht3, rfl⟩; have hbo3 := HBOW.out.touch ht3.undrew (fun h => h); have co3 : w3.cell? ⟨bo, 0, none⟩ = some (.slice none 0 0) := hbo3.cell 0; have fo3 := hbo3.free 0; have cq3 : w3.cell? ⟨bq, 0, none⟩ = some (.int .i64 skip) := (HBQW.out.touch ht3.undrew (fun h => h)).cell 0; have HBO3 := Lib.hid hbo3; have HT3 := Lib.hid ht3.undrew; clear hbo3 ht3)
          | fail)
      all_goals
        go_wp2_with fail
        go_end0
        refine ⟨rfl, (HTW.out.trans HT3.out (fun _ _ h => False.elim h)).setCell (p := ⟨bo, 0, none⟩) (fun _ => .inr rfl) _, .inl ⟨HP.out, (HBKW.out.touch HT3.out (fun h => h)).far (p := ⟨bo, 0, none⟩) dko _, L, .slice none 0 0, HA.out, ?_, ?_⟩⟩
        · have := HBO3.out.put 0 (.slice none 0 0)
          simpa using this
        · rw [HMO.out]
          exact World.ownsRow_nil _ _ _ _
  · have hbk1 := HBK.out.below hb lk
    have ck := hbk1.cell 0
    have fk := hbk1.free 0
    simp at ck
    have HTW : Hid (Touch (fun b => b = bk ∨ b = bo) w ((w1.setCell ⟨bk, 0, none⟩ (.bool false)).setCell ⟨bk, 0, none⟩ (.bool false))) := (((Touch.ofBelow hb (by omega)).setCell (p := ⟨bk, 0, none⟩) (fun _ => .inl rfl) _)).setCell (p := ⟨bk, 0, none⟩) (fun _ => .inl rfl) _
    have HBOW := Lib.hid (((HBO.out.below hb lo).far (p := ⟨bk, 0, none⟩) (Ne.symm dko) (.bool false)).far (p := ⟨bk, 0, none⟩) (Ne.symm dko) (.bool false))
    have HBKW := Lib.hid ((hbk1.put 0 (.bool false)).put 0 (.bool false))
    have HP := Lib.hid hp
    clear hb hp hbk1
    go_wp2_with fail
    go_end0
    exact ⟨rfl, HTW.out, .inr ⟨HP.out, HBKW.out, HBOW.out⟩⟩

open Go.RowKit

/-- quietly over a closure that returns: true. -/
theorem quietly_24 (p1 p2 p3 p4 p5 : Value) (w : World) (R : World → Prop)
    (hg : Calls Tryd.prog 24 #[p1, p2, p3, p4, p5] (w.alloc (.cells #[.bool false] 4)) fun e w' => e = .returned (.tuple #[]) ∧ R w' ∧ Blk w' w.heap.size 4 #[.bool false]) :
    Calls Tryd.prog 15 #[.func (.func 24) #[] #[p1, p2, p3, p4, p5]] w fun e w' => e = .returned (.bool true) ∧ ∃ w1, R w1 ∧ w' = w1.setCell ⟨w.heap.size, 0, none⟩ (.bool true) := by
  have H := Lib.hid hg
  clear hg
  have hmf : ∀ (fn : Fn) (first cap : Array Value) (w : World), (Instr.makeFunc fn first cap).run Tryd.prog w = .ok (.func fn first cap) w := fun _ _ _ _ => rfl
  go_enter_defers Tryd.func15, Tryd.ntmps15
  go_wp2_with fail
  refine H.out.mono ?_
  rintro e w1 ⟨rfl, hR, hb⟩
  have hc := hb.cell 0
  have hf := hb.free 0
  simp only [List.getElem?_toArray, List.getElem?_cons_zero] at hc
  have HR := Lib.hid hR
  have HB := Lib.hid hb
  clear hR hb
  go_wp2_with fail
  refine leaves_cons (f := 29) (args := #[.pointer (some ⟨w.heap.size, 0, none⟩)]) (by simp) (by simp [go_sem]) ?_
  refine (catch_idle ⟨w.heap.size, 0, none⟩ _).mono ?_
  rintro e u' w'' ⟨rfl, rfl, rfl⟩
  have hb2 : (w1.setCell ⟨w.heap.size, 0, none⟩ (.bool true)).cell? ⟨w.heap.size, 0, none⟩ = some (.bool true) := by
    simp [go_sem, hc]
  simp [Leaves, settle, results, Tryd.results15, go_sem, hb2]
  exact ⟨w1, HR.out, rfl⟩
def MisR (size skip : Nat) (ns : List Nat) (w : World) (e : Ending) (w' : World) : Prop :=
  Below w.heap.size w w' ∧ ((IsPow size ∧ ∃ L A c, Adds (freshLog size) ns L ∧ e = .returned (.tuple #[.slice A (missOut L skip).length c, .bool true]) ∧ Reads w' w'.heap.size 1 A (missOut L skip).length (U16s (missOut L skip))) ∨
    (¬ IsPow size ∧ e = .returned (.tuple #[.slice none 0 0, .bool false])))

theorem mis_quiet (bs bl bk bq bo size n c skip : Nat) (A : Option Addr) (ns : List Nat) (w : World)
    (hbs : Blk w bs 3 #[.int .i64 size]) (hbl : Blk w bl 22 #[.slice A n c]) (hbk : Blk w bk 4 #[.bool false]) (hbq : Blk w bq 3 #[.int .i64 skip]) (hbo : Blk w bo 22 #[.slice none 0 0])
    (h0 : IsPow size → 64 ≤ size) (h1 : size ≤ 65535) (hr : Reads w w.heap.size 1 A n (U16s ns)) (hn : n ≤ 9223372036854775807) (hns : ∀ q ∈ ns, q ≤ 65535) (hsk : skip ≤ 100) :
    Calls Tryd.prog 15 #[.func (.func 24) #[] #[.pointer (some ⟨bs, 0, none⟩), .pointer (some ⟨bl, 0, none⟩), .pointer (some ⟨bk, 0, none⟩), .pointer (some ⟨bq, 0, none⟩), .pointer (some ⟨bo, 0, none⟩)]] w
      fun e w' => e = .returned (.bool true) ∧ MisPost size bk bo skip ns w w' := by
  have ls := hbs.lt
  have ll := hbl.lt
  have lk := hbk.lt
  have lq := hbq.lt
  have lo := hbo.lt
  refine (quietly_24 _ _ _ _ _ w (MisPost size bk bo skip ns (w.alloc (.cells #[.bool false] 4))) ?_).mono ?_
  · refine (miss_closure bs bl bk bq bo size n c skip A ns _ (hbs.alloc _) (hbl.alloc _) (hbk.alloc _) (hbq.alloc _) (hbo.alloc _) h0 h1 ?_ hn hns hsk).mono ?_
    · exact (hr.touch (S := Nowhere) ((Touch.refl _ w).alloc _) (Nat.le_refl _) (fun _ _ h => h)).more (by simp)
    rintro e w' ⟨rfl, h⟩
    exact ⟨rfl, h, (Blk.new w 4 _).touch h.1 (by omega)⟩
  · rintro e w' ⟨rfl, w1, ⟨ht, h⟩, rfl⟩
    have t1 : Touch (fun b => b = bk ∨ b = bo) w w1 := ((Touch.refl _ w).alloc _).trans ht fun _ _ h => h
    refine ⟨rfl, t1.setCell (fun h => absurd h (by simp)) _, ?_⟩
    rcases h with ⟨hp, hk, L, v, ha, hv, hown⟩ | ⟨hp, hk, hv⟩
    · refine .inl ⟨hp, hk.far (by simp; omega) _, L, v, ha, hv.far (by simp; omega) _, ?_⟩
      have h2 := own_far hown (p := ⟨w.heap.size, 0, none⟩) (by simp) (.bool true)
      obtain ⟨h3, h4⟩ := h2
      refine ⟨h3, ?_⟩
      rcases h4 with h4 | ⟨g, cap, cur, hv, hg, hh⟩
      · exact .inl h4
      · exact .inr ⟨g, cap, cur, hv, by simp at hg; omega, hh⟩
    · exact .inr ⟨hp, hk.far (by simp; omega) _, hv.far (by simp; omega) _⟩

set_option maxHeartbeats 800000 in
theorem missing_impl (size n c skip : Nat) (A : Option Addr) (ns : List Nat) (w : World)
    (h0 : IsPow size → 64 ≤ size) (h1 : size ≤ 65535) (hr : Reads w w.heap.size 1 A n (U16s ns)) (hn : n ≤ 9223372036854775807) (hns : ∀ q ∈ ns, q ≤ 65535) (hsk : skip ≤ 100) :
    Calls Tryd.prog 11 #[.int .i64 size, .slice A n c, .int .i64 skip] w (MisR size skip ns w) := by
  have hmf : ∀ (fn : Fn) (first cap : Array Value) (w : World), (Instr.makeFunc fn first cap).run Tryd.prog w = .ok (.func fn first cap) w := fun _ _ _ _ => rfl
  have HR := Lib.hid hr
  have HNS := Lib.hid hns
  clear hr hns
  go_enter Tryd.func11, Tryd.ntmps11
  go_wp2_with fail
  refine (mis_quiet w.heap.size (w.heap.size + 1) (w.heap.size + 1 + 1 + 1 + 1) (w.heap.size + 1 + 1) (w.heap.size + 1 + 1 + 1) size n c skip A ns _
    (((((Blk.mk' rfl).alloc _).alloc _).alloc _).alloc _) ((((Blk.mk' (by simp)).alloc _).alloc _).alloc _) (Blk.mk' (by simp)) (((Blk.mk' (by simp)).alloc _).alloc _) ((Blk.mk' (by simp)).alloc _)
    h0 h1 ?_ hn HNS.out hsk).mono ?_
  · exact (HR.out.below (((((((Below.refl _ _).alloc (Nat.le_refl _) _).alloc (by simp) _).alloc (by simp; omega) _).alloc (by simp; omega) _).alloc (by simp; omega) _))).more (by simp; omega)
  rintro e w1 ⟨rfl, ht, h⟩
  have hb : Below w.heap.size w w1 := by
    have t0 : Touch (fun b => w.heap.size ≤ b) w w1 := (((((((Touch.refl _ w).alloc _).alloc _).alloc _).alloc _).alloc _).trans ht fun i hi h => by rcases h with h | h <;> omega)
    exact t0.below (Nat.le_refl _) (fun i hi => by omega)
  have HB := Lib.hid hb
  clear ht hb
  rcases h with ⟨hp, hk, L, v, ha, hv, hown⟩ | ⟨hp, hk, hv⟩
  · obtain ⟨A1, c1, rfl⟩ := own_slice hown
    have ck := hk.cell 0
    have fk := hk.free 0
    have cv := hv.cell 0
    have fv := hv.free 0
    simp at ck cv
    have HK := Lib.hid hk
    have HV := Lib.hid hv
    have HO := Lib.hid hown
    have HA := Lib.hid ha
    have HP := Lib.hid hp
    clear hk hv hown ha hp
    go_wp2_with fail
    have hb2 := (HV.out.put 0 (.slice A1 (missOut L skip).length c1)).far (p := ⟨w.heap.size + 1 + 1 + 1 + 1, 0, none⟩) (by simp) (.bool true)
    have hb3 := (HK.out.far (p := ⟨w.heap.size + 1 + 1 + 1, 0, none⟩) (by simp) (.slice A1 (missOut L skip).length c1)).put 0 (.bool true)
    have cv2 := hb2.cell 0
    have ck2 := hb3.cell 0
    simp at cv2 ck2
    refine bodyPost_ret_by (v := .tuple #[.slice A1 (missOut L skip).length c1, .bool true]) ?_ rfl ?_
    · simp [results, Tryd.results11, go_sem, cv2, ck2]
    refine ⟨(HB.out.setCell (p := ⟨w.heap.size + 1 + 1 + 1, 0, none⟩) (by simp; omega) _).setCell (p := ⟨w.heap.size + 1 + 1 + 1 + 1, 0, none⟩) (by simp; omega) _, .inl ⟨HP.out, L, A1, c1, HA.out, rfl, ?_⟩⟩
    exact Reads.own (own_far (own_far HO.out (p := ⟨w.heap.size + 1 + 1 + 1, 0, none⟩) (by simp) _) (p := ⟨w.heap.size + 1 + 1 + 1 + 1, 0, none⟩) (by simp) _)
  · have ck := hk.cell 0
    have fk := hk.free 0
    have cv := hv.cell 0
    have fv := hv.free 0
    simp at ck cv
    have HK := Lib.hid hk
    have HV := Lib.hid hv
    have HP := Lib.hid hp
    clear hk hv hp
    go_wp2_with fail
    have hb2 := (HV.out.put 0 (.slice none 0 0)).far (p := ⟨w.heap.size + 1 + 1 + 1 + 1, 0, none⟩) (by simp) (.bool false)
    have hb3 := (HK.out.far (p := ⟨w.heap.size + 1 + 1 + 1, 0, none⟩) (by simp) (.slice none 0 0)).put 0 (.bool false)
    have cv2 := hb2.cell 0
    have ck2 := hb3.cell 0
    simp at cv2 ck2
    refine bodyPost_ret_by (v := .tuple #[.slice none 0 0, .bool false]) ?_ rfl ?_
    · simp [results, Tryd.results11, go_sem, cv2, ck2]
    exact ⟨(HB.out.setCell (p := ⟨w.heap.size + 1 + 1 + 1, 0, none⟩) (by simp; omega) _).setCell (p := ⟨w.heap.size + 1 + 1 + 1 + 1, 0, none⟩) (by simp; omega) _, .inr ⟨HP.out, rfl⟩⟩

open Go.RowKit

theorem u16s_ints (ns : List Nat) : U16s ns = (Ints ns).map (Value.int .u16) := by simp [U16s, Ints]
theorem line_small {ns : List Nat} {outs : List Int} (hns : ∀ q ∈ ns, q ≤ 65535) (h : LineRel (Ints ns) outs) (hn : ns.length ≤ 2147483647) : ∀ x ∈ outs, 0 ≤ x ∧ x ≤ 140737488355328 := by
  intro x hx
  obtain ⟨i, hi, rfl⟩ := List.mem_iff_getElem.1 hx
  have hol : outs.length = ns.length := by simpa [Ints] using h.1
  have hl : (Ints ns).length = ns.length := by simp [Ints]
  have h0 := (h.2 i (by rw [hl]; omega)).1
  have h1 := line_range h (fun y hy => by simp only [Ints, List.mem_map] at hy; obtain ⟨q, hq, rfl⟩ := hy; have := hns q hq; omega) i (by rw [hl]; omega)
  have h2 := topAt_ge outs i i (Nat.le_refl _) hi
  rw [List.getD, List.getElem?_eq_getElem hi] at h0 h2
  simp at h0 h2
  omega

theorem pow_of_power {size : Int} (h : ∃ j, j ≤ 9 ∧ size = 64 * 2 ^ j) : ∃ S : Nat, size = S ∧ IsPow S ∧ 64 ≤ S ∧ S ≤ 32768 := by
  obtain ⟨j, hj, rfl⟩ := h
  have : j = 0 ∨ j = 1 ∨ j = 2 ∨ j = 3 ∨ j = 4 ∨ j = 5 ∨ j = 6 ∨ j = 7 ∨ j = 8 ∨ j = 9 := by omega
  rcases this with rfl | rfl | rfl | rfl | rfl | rfl | rfl | rfl | rfl | rfl
  · exact ⟨64, by decide, ⟨6, by decide, by decide⟩, by decide, by decide⟩
  · exact ⟨128, by decide, ⟨7, by decide, by decide⟩, by decide, by decide⟩
  · exact ⟨256, by decide, ⟨8, by decide, by decide⟩, by decide, by decide⟩
  · exact ⟨512, by decide, ⟨9, by decide, by decide⟩, by decide, by decide⟩
  · exact ⟨1024, by decide, ⟨10, by decide, by decide⟩, by decide, by decide⟩
  · exact ⟨2048, by decide, ⟨11, by decide, by decide⟩, by decide, by decide⟩
  · exact ⟨4096, by decide, ⟨12, by decide, by decide⟩, by decide, by decide⟩
  · exact ⟨8192, by decide, ⟨13, by decide, by decide⟩, by decide, by decide⟩
  · exact ⟨16384, by decide, ⟨14, by decide, by decide⟩, by decide, by decide⟩
  · exact ⟨32768, by decide, ⟨15, by decide, by decide⟩, by decide, by decide⟩
end Go.Proofs.YtlkmmkphpiamcaaDoor
