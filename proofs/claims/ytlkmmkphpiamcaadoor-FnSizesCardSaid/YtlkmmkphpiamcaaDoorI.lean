/-
  Retained$1: the closure that fills a buffer and asks it. Conditions: at most 200 packets and questions. By an AI agent.
-/
import Derived.Test.YtlkmmkphpiamcaaDoorH
namespace Go.Proofs.YtlkmmkphpiamcaaDoor
open Go.RowKit

theorem BufAt.keep {B g p : Nat} {R : RB} {w w' : World} (h : BufAt B w g p R) (hk : ∀ b t cs, Blk w b t cs → (t = 86 ∨ t = 78 ∨ t = 51 ∨ t = 5) → Blk w' b t cs) : BufAt B w' g p R := by
  obtain ⟨s0, s1, t1, hg, hp, hh, ⟨cs, hr, hs, hc⟩, hpk, hi⟩ := h
  refine ⟨s0, s1, t1, hg, hp, hk _ _ _ hh (by simp), ⟨cs, hk _ _ _ hr (by simp), hs, hc⟩, fun j k hj hsl => ?_, hi⟩
  obtain ⟨⟨q1, q2, fac, hd, pl, q3, q4⟩, hB⟩ := hpk j k hj hsl
  exact ⟨⟨q1, q2, fac, hd, pl, hk _ _ _ q3 (by simp), hk _ _ _ q4 (by simp)⟩, hB⟩
theorem BufAt.calm {B g p : Nat} {R : RB} {w w' : World} {S : Nat → Prop} (h : BufAt B w g p R) (ht : Touch S w w') (hS : ∀ b t cs, Blk w b t cs → (t = 86 ∨ t = 78 ∨ t = 51 ∨ t = 5) → ¬ S b) : BufAt B w' g p R :=
  h.keep fun b t cs hb ht' => hb.touch ht (hS b t cs hb ht')
theorem BufAt.nowhere {B g p : Nat} {R : RB} {w w' : World} (h : BufAt B w g p R) (ht : Touch Nowhere w w') : BufAt B w' g p R := h.calm ht fun _ _ _ _ _ h => h

/-- What a buffer is after so many of some numbers. -/
inductive Fed (size : Nat) (ns : List Nat) : Nat → RB → Prop
  | zero : Fed size ns 0 (freshBuf size)
  | succ {i : Nat} {R : RB} {k : Pkt} (h : Fed size ns i R) (hs : ns[i]? = some k.seq) (hi : k.idx = i) : Fed size ns (i + 1) (R.add k)

theorem radd_same (R : RB) (k : Pkt) : (R.add k).size = R.size ∧ ((R.add k).started = true) := by
  unfold RB.add
  split
  · exact ⟨rfl, rfl⟩
  · rename_i h
    have h : R.started = true := by simpa using h
    split
    · exact ⟨rfl, h⟩
    · split
      · exact ⟨(clears_same R _ _).1, (clears_same R _ _).2.2.trans h⟩
      · exact ⟨rfl, h⟩
theorem Fed.same {size : Nat} {ns : List Nat} {i : Nat} {R : RB} (h : Fed size ns i R) : R.size = size ∧ (R.started = false → ∀ j, j < R.size → R.slots j = none) := by
  induction h with
  | zero => exact ⟨rfl, fun _ _ _ => rfl⟩
  | succ h hs hi ih =>
    refine ⟨(radd_same _ _).1.trans ih.1, fun hf => ?_⟩
    rw [(radd_same _ _).2] at hf
    cases hf

def outOf (R : RB) (s : Nat) : Int := match R.get s with | none => -1 | some k => k.idx
def OutVs (R : RB) (qs : List Nat) : List Value := qs.map fun s => Value.int .i64 (outOf R s)

def RetPost (size bk bo : Nat) (ns qs : List Nat) (w w' : World) : Prop :=
  Touch (fun b => b = bk ∨ b = bo) w w' ∧
  ((IsPow size ∧ Blk w' bk 4 #[.bool true] ∧ ∃ R v, Fed size ns ns.length R ∧ Blk w' bo 29 #[v] ∧ w'.ownsRow w.heap.size 3 1 v qs.length (OutVs R qs)) ∨
   (¬ IsPow size ∧ Blk w' bk 4 #[.bool false] ∧ Blk w' bo 29 #[.slice none 0 0]))

def FedInv (bk g p size : Nat) (ns : List Nat) (w : World) (k : Nat) (wr : World) : Prop :=
  ∃ R, Fed size ns k R ∧ BufAt w.heap.size wr g p R ∧ Touch (· = bk) w wr ∧ Blk wr bk 4 #[.bool true]

def AskInv (bk bo g p : Nat) (qs : List Nat) (R : RB) (B : Nat) (w : World) (k : Nat) (wr : World) : Prop :=
  ∃ v, Blk wr bo 29 #[v] ∧ wr.ownsRow B 3 1 v k (OutVs R (qs.take k)) ∧ Touch (fun b => b = bk ∨ b = bo) w wr ∧ BufAt w.heap.size wr g p R ∧ Blk wr bk 4 #[.bool true] ∧ (∀ j k, j < R.size → R.slots j = some k → k.blk < B) ∧ B ≤ wr.heap.size

theorem or_small (n : Nat) (h : n ≤ 255) : bits BinOp.or IntKind.i64 0 (n : Int) = (n : Int) := by
  have h2 : ∀ n : Fin 256, bits BinOp.or IntKind.i64 0 ((n.val : Nat) : Int) = ((n.val : Nat) : Int) := by decide +kernel
  exact h2 ⟨n, by omega⟩

theorem Blk.one {w : World} {g t t' : Nat} {cs cs' : Array Value} (h : Blk w g t cs) (h' : Blk w g t' cs') : t = t' ∧ cs = cs' := by
  unfold Blk at h h'
  rw [h] at h'
  injection h' with h'
  injection h' with h1 h2
  exact ⟨h2, h1⟩

theorem ask_grow {bo k B2 : Nat} {W w3 : World} {v v3 : Value} {xs ys : List Value} {o : Obj} (HV : Blk W bo 29 #[v]) (HO : W.ownsRow B2 3 1 v k xs) (hgrow : (W.alloc o).grownBy w3 v.ownBlock)
    (hown3 : w3.ownsRow B2 3 1 v3 (k + 1) ys) (ob : bo < B2) :
    Blk (w3.setCell ⟨bo, 0, none⟩ v3) bo 29 #[v3] ∧ (w3.setCell ⟨bo, 0, none⟩ v3).ownsRow B2 3 1 v3 (k + 1) ys ∧ (∀ b t cs, Blk W b t cs → t ≠ 29 → t ≠ 3 → Blk (w3.setCell ⟨bo, 0, none⟩ v3) b t cs) ∧
    (∀ (S : Nat → Prop) (w : World), Touch S w W → S bo → w.heap.size ≤ B2 → Touch S w (w3.setCell ⟨bo, 0, none⟩ v3)) ∧ W.heap.size ≤ (w3.setCell ⟨bo, 0, none⟩ v3).heap.size := by
  have hb2 := (HV.alloc o).grown hgrow (own_apart HO ob).symm
  refine ⟨by simpa using hb2.put 0 _, own_far hown3 (p := ⟨bo, 0, none⟩) ob v3, fun b t cs hb h1 h2 => ?_, fun S w ht hS hB => ?_, ?_⟩
  · refine ((hb.alloc o).grown hgrow fun e => ?_).far (p := ⟨bo, 0, none⟩) (hb.unlike HV h1) _
    rcases HO.2 with ⟨hn, _⟩ | ⟨g, cap, cur, hv, hg, hh, _⟩
    · rw [hn] at e
      simp [Value.ownBlock] at e
    · rw [hv] at e
      simp [Value.ownBlock] at e
      subst e
      unfold Blk at hb
      rw [hh] at hb
      injection hb with hb
      injection hb with _ hb
      exact h2 hb.symm
  · have t2 : Touch S w w3 := (ht.alloc o).grown hgrow fun g hg hlt => by
      have := (HO.lt g hg).1
      omega
    exact t2.setCell (p := ⟨bo, 0, none⟩) (fun _ => hS) _
  · have := hgrow.size
    simp at this
    simp [World.setCell]
    omega

theorem out_none {R : RB} {s j : Nat} {qs : List Nat} (hs : qs[j]? = some s) (h : R.get s = none) : OutVs R (qs.take j) ++ [.int .i64 (-1)] = OutVs R (qs.take (j + 1)) := by
  rw [List.take_add_one, hs]
  simp [OutVs, outOf, h]
theorem out_some {R : RB} {s j : Nat} {k : Pkt} {qs : List Nat} (hs : qs[j]? = some s) (h : R.get s = some k) : OutVs R (qs.take j) ++ [.int .i64 (k.idx : Int)] = OutVs R (qs.take (j + 1)) := by
  rw [List.take_add_one, hs]
  simp [OutVs, outOf, h]

theorem info_int : (Tryd.prog.info? 3).map (fun i => (i.zero, i.size, i.bytes)) = some (some (.int .i64 0), 1, 8) := by kernel_rfl

set_option maxRecDepth 100000 in
set_option maxHeartbeats 1600000 in
theorem ret_closure (bs bl bk bq bo size n c m d : Nat) (A Q : Option Addr) (ns qs : List Nat) (w : World)
    (hbs : Blk w bs 3 #[.int .i64 size]) (hbl : Blk w bl 22 #[.slice A n c]) (hbk : Blk w bk 4 #[.bool false]) (hbq : Blk w bq 22 #[.slice Q m d]) (hbo : Blk w bo 29 #[.slice none 0 0])
    (hv : ¬ IsPow size → ∃ t x, w.cell? ⟨0, 0, none⟩ = some (.iface t x)) (h0 : IsPow size → 64 ≤ size) (h1 : size ≤ 65535)
    (base : Nat) (hbase : base ≤ bk ∧ base ≤ bo) (hbase2 : base ≤ w.heap.size) (hr : Reads w base 1 A n (U16s ns)) (hn : n ≤ 200) (hns : ∀ q ∈ ns, q ≤ 65535)
    (hq : Reads w base 1 Q m (U16s qs)) (hm : m ≤ 200) (hqs : ∀ q ∈ qs, q ≤ 65535) :
    Calls Tryd.prog 16 #[.pointer (some ⟨bs, 0, none⟩), .pointer (some ⟨bk, 0, none⟩), .pointer (some ⟨bl, 0, none⟩), .pointer (some ⟨bq, 0, none⟩), .pointer (some ⟨bo, 0, none⟩)] w
      fun e w' => e = .returned (.tuple #[]) ∧ RetPost size bk bo ns qs w w' := by
  obtain ⟨i0, hi0, hz0, hz1, hz2⟩ := info_parts info_int
  have cs := hbs.cell 0
  have lk := hbk.lt
  have lo := hbo.lt
  have lq := hbq.lt
  have ll := hbl.lt
  have dko : bk ≠ bo := hbk.unlike hbo (by decide)
  have dkq : bq ≠ bk := hbq.unlike hbk (by decide)
  have dkl : bl ≠ bk := hbl.unlike hbk (by decide)
  have dqo : bq ≠ bo := hbq.unlike hbo (by decide)
  simp at cs
  have hmn : ns.length = n := by simpa [U16s] using hr.1
  have hmq : qs.length = m := by simpa [U16s] using hq.1
  have HBK := Lib.hid hbk
  have HBQ := Lib.hid hbq
  have HBL := Lib.hid hbl
  have HBO := Lib.hid hbo
  have HR := Lib.hid hr
  have HQ := Lib.hid hq
  have HNS := Lib.hid hns
  have HQS := Lib.hid hqs
  have HMQ := Lib.hid hmq
  have HMN := Lib.hid hmn
  have HV := Lib.hid hv
  obtain ⟨hba1, hba2⟩ := hbase
  clear hbs hbl hbk hbq hbo hr hq hns hqs hmq hmn hv
  go_enter Tryd.func16, Tryd.ntmps16
  go_wp2_with fail
  refine (newbuf_any size w HV.out h0 h1).mono ?_
  rintro e w1 ⟨hb, ⟨hp, g, p, rfl, hL⟩ | ⟨hp, t, x, rfl⟩⟩
  · have hbk1 := HBK.out.below hb lk
    have ck := hbk1.cell 0
    have fk := hbk1.free 0
    simp at ck
    have lw := hb.size
    have HP := Lib.hid hp
    have HTW : Hid (Touch (· = bk) w (w1.setCell ⟨bk, 0, none⟩ (.bool true))) := ((Touch.ofBelow hb (by omega)).setCell (p := ⟨bk, 0, none⟩) (fun h => (by simp)) _)
    have HBKW := Lib.hid (hbk1.put 0 (.bool true))
    have hbl1 := (HBL.out.below hb ll).cell 0
    simp at hbl1
    have ll1 : bl < w1.heap.size := by omega
    have HLW := Lib.hid (hL.keep (w' := w1.setCell ⟨bk, 0, none⟩ (.bool true)) fun b t cs hb' ht => hb'.far (p := ⟨bk, 0, none⟩) (hb'.unlike hbk1 (by rcases ht with h | h | h | h <;> subst h <;> decide)) _)
    clear hb hp hL hbk1
    go_wp2_with fail
    go_loopw [28] (fun v wr => ∃ k : Nat, v = .int .i64 k ∧ k ≤ n ∧ Hid (FedInv bk g p size ns w k wr)) (fun v _ => n - (intOf v).toNat)
    case atStart => exact ⟨0, rfl, by omega, _, .zero, HLW.out.nowhere ((Touch.refl Nowhere _).alloc _), HTW.out.alloc _, HBKW.out.alloc _⟩
    case round =>
      obtain ⟨k, rfl, hk, hinv⟩ := hrel
      obtain ⟨R, hfed, hbuf, ht, hbkr⟩ := hinv.out
      by_cases hlt : k < n
      · obtain ⟨ad, s, rfl, hab, hsk, hs, hc⟩ := u16s_at (HR.out.touch ht hbase2 (by omega)) HNS.out hlt
        have hk16 : (k : Int) / 65536 = 0 := by omega
        have hk8 : (k : Int) / 256 = 0 := by omega
        have hku : IntKind.u8.wrap (k : Int) = k := by rw [IntKind.wrap_u8]; omega
        have HSK := Lib.hid hsk
        have HF := Lib.hid hfed
        have HBF := Lib.hid hbuf
        have HT := Lib.hid ht
        have HBKR := Lib.hid hbkr
        clear hinv hsk hfed hbuf ht hbkr
        go_wp2_with fail
        refine (newpkt_any wr.heap.size (wr.heap.size + 1) s _ _ _ ((Blk.mk' rfl).alloc _) (by rfl)).mono ?_
        rintro e w2 ⟨rfl, rfl⟩
        go_wp2_with fail
        refine (badd_any w.heap.size g p R ⟨wr.heap.size + 1 + 1, s, k⟩ _ (HBF.out.nowhere ((((Touch.refl Nowhere _).alloc _).alloc _).alloc _)) ?_ ?_ ?_ HF.out.same.2).mono ?_
        · refine ⟨hs, by show k ≤ 255; omega, _, _, _, Blk.mk' (by simp), ((Blk.mk' (by simp)).alloc _)⟩
        · have := HT.out.size
          show w.heap.size ≤ wr.heap.size + 1 + 1
          omega
        · intro i l hi hl he
          obtain ⟨⟨_, _, fac, hd, pl, hb3, _⟩, _⟩ := HBF.out.pkts i l hi hl
          have := hb3.lt
          rw [he] at this
          simp at this
          omega
        rintro e w3 ⟨rfl, hb3, hbel⟩
        have HB3 := Lib.hid hb3
        have HBEL := Lib.hid hbel
        clear hb3 hbel
        go_wp2_with fail
        refine ⟨⟨k + 1, by go_num, by omega, _, .succ HF.out (by exact HSK.out) rfl, HB3.out, ?_, ?_⟩, by simp [intOf]; omega⟩
        · refine HT.out.trans (Touch.ofBelow (B := w.heap.size) (S := fun b => w.heap.size ≤ b) (((((Below.refl _ _).alloc ?_ _).alloc ?_ _).alloc ?_ _).trans HBEL.out) fun i _ h => h) ?_
          · exact HT.out.size
          · have := HT.out.size
            simp
            omega
          · have := HT.out.size
            simp
            omega
          · intro i h1 h2
            omega
        · exact (((HBKR.out.alloc _).alloc _).alloc _).below HBEL.out lk
      · obtain rfl : k = n := by omega
        have hbqr := HBQ.out.touch ht dkq
        have cq := hbqr.cell 0
        simp at cq
        have hqr := HQ.out.touch ht hbase2 (by omega)
        have hbor := HBO.out.touch ht (Ne.symm dko)
        have HFD := Lib.hid hfed
        obtain ⟨B2, hB2⟩ : ∃ B2, wr.heap.size = B2 := ⟨_, rfl⟩
        have HASK : Hid (AskInv bk bo g p qs R B2 w 0 wr) := ⟨_, hbor, World.ownsRow_nil _ _ _ _, ht.mono (fun i _ h => .inl h), hbuf, hbkr, fun j k hj hsl => by
          obtain ⟨⟨_, _, fac, hd, pl, hb3, _⟩, _⟩ := hbuf.pkts j k hj hsl
          exact hB2 ▸ hb3.lt, Nat.le_of_eq hB2.symm⟩
        have HBQR := Lib.hid hbqr
        have HQR := Lib.hid hqr
        have hsz : w.heap.size ≤ B2 := hB2 ▸ ht.size
        have hszo : bo < B2 := hB2 ▸ hbor.lt
        clear hB2 hinv hfed hbuf ht hbkr hbqr hqr hbor
        go_wp2_with fail
        go_loopw [58] (fun v w2 => ∃ j : Nat, v = .int .i64 j ∧ j ≤ m ∧ Hid (AskInv bk bo g p qs R B2 w j w2)) (fun v _ => m - (intOf v).toNat)
        case atStart => exact ⟨0, rfl, by omega, HASK.out⟩
        case round =>
          obtain ⟨j, rfl, hj, hinv⟩ := hrel
          obtain ⟨v, hvv, hown, ht, hbuf, hbkr, hlow, hszr⟩ := hinv.out
          by_cases hlt : j < m
          · obtain ⟨ad, s, rfl, hab, hsk, hs, hc⟩ := u16s_at (HQ.out.touch ht hbase2 (by omega)) HQS.out hlt
            have HSK := Lib.hid hsk
            have HVV := Lib.hid hvv
            have HOWN := Lib.hid hown
            have HT := Lib.hid ht
            have HBUF := Lib.hid hbuf
            have HBKR := Lib.hid hbkr
            have HLOW := Lib.hid hlow
            clear hinv hsk hvv hown ht hbuf hbkr hlow
            go_wp2_with fail
            refine (bget_any w.heap.size g p R s _ HBUF.out hs).mono ?_
            rintro e w2 (⟨hg, rfl, mm, rfl⟩ | ⟨kk, mm, hg, hsl, rfl, rfl⟩)
            · have HV1 : Hid (Blk (wr.drewN mm) bo 29 #[v]) := HVV.out.drewN mm
              have HO1 : Hid ((wr.drewN mm).ownsRow B2 3 1 v j (OutVs R (qs.take j))) := HOWN.out
              have HT1 : Hid (Touch (fun b => b = bk ∨ b = bo) w (wr.drewN mm)) := HT.out.drewN mm
              have HB1 : Hid (BufAt w.heap.size (wr.drewN mm) g p R) := HBUF.out.drewN
              have HK1 : Hid (Blk (wr.drewN mm) bk 4 #[.bool true]) := HBKR.out.drewN mm
              have hsz1 : B2 ≤ (wr.drewN mm).heap.size := hszr
              have HG := Lib.hid hg
              have co := HV1.out.cell 0
              have fo := HV1.out.free 0
              simp only [List.getElem?_toArray, List.getElem?_cons_zero] at co
              generalize wr.drewN mm = W1 at *
              clear hg HVV HOWN HT HBUF HBKR
              go_wp2_with (at_builtin; refine wpList_append_lies _ rfl _ _ _ rfl B2 3 i0 _ 1 8 Tryd.underlying29 hi0 hz0 hz1 hz2 rfl (by omega) v j _ rfl (HO1.out.alloc _) ⟨W1.heap.size, 0, none⟩ 1 1 [.int .i64 (-1)] rfl rfl (World.news_of_block (cs := #[.int .i64 (-1)]) (t := 3) (fr := (0, 0)) (heap_alloc_new W1 _)) (by simp [Value.oneCell']) (by omega) (by simp only [maxLen]; omega) (by omega) (by simp; omega) (W1.heap.size + 1) (by simp) ?_; intro gg cap w3 hown3 hgrow hat hlt3; have hv3 := (HV1.out.alloc _).grown hgrow (own_apart HO1.out hszo).symm; have co3 : w3.cell? ⟨bo, 0, none⟩ = some v := hv3.cell 0; have fo3 := hv3.free 0)
              obtain ⟨g1, g2, g3, g4, g5⟩ := ask_grow HV1.out HO1.out hgrow hown3 hszo
              refine ⟨⟨j + 1, by go_num, by omega, _, g1, ?_, g4 _ _ HT1.out (.inr rfl) hsz, HB1.out.keep fun b t cs hb ht' => g3 b t cs hb ?_ ?_, g3 _ _ _ HK1.out (by decide) (by decide), HLOW.out, by omega⟩, by simp [intOf]; omega⟩
              · rw [← out_none HSK.out HG.out]
                exact g2
              · rcases ht' with h | h | h | h <;> subst h <;> decide
              · rcases ht' with h | h | h | h <;> subst h <;> decide
            · have hsq : s % R.size < R.size := Nat.mod_lt _ (by have := HBUF.out.s0; omega)
              obtain ⟨⟨hk1, hk2, fac, hd, pl, hb1, hb2⟩, hB⟩ := HBUF.out.pkts _ kk hsq hsl
              have hlo := HLOW.out _ kk hsq hsl
              have hko : kk.blk ≠ bo := hb1.unlike HVV.out (by decide)
              have hkb : kk.blk ≠ bk := hb1.unlike HBKR.out (by decide)
              have hkp : pl ≠ kk.blk := hb2.unlike hb1 (by decide)
              have HKP : Hid (Blk ((wr.drewN mm).setCell ⟨kk.blk, 1, none⟩ (.int .i64 2)) kk.blk 86 (pktCells fac hd pl kk.seq 2)) := (hb1.drewN mm).put 1 _
              have HPL : Hid (Blk ((wr.drewN mm).setCell ⟨kk.blk, 1, none⟩ (.int .i64 2)) pl 5 #[.int .u8 0, .int .u8 0, .int .u8 kk.idx]) := (hb2.drewN mm).far (p := ⟨kk.blk, 1, none⟩) hkp _
              have HV1 : Hid (Blk ((wr.drewN mm).setCell ⟨kk.blk, 1, none⟩ (.int .i64 2)) bo 29 #[v]) := (HVV.out.drewN mm).far (p := ⟨kk.blk, 1, none⟩) hko.symm _
              have HO1 : Hid (((wr.drewN mm).setCell ⟨kk.blk, 1, none⟩ (.int .i64 2)).ownsRow B2 3 1 v j (OutVs R (qs.take j))) := own_far (w := wr.drewN mm) HOWN.out (p := ⟨kk.blk, 1, none⟩) hlo _
              have HT1 : Hid (Touch (fun b => b = bk ∨ b = bo) w ((wr.drewN mm).setCell ⟨kk.blk, 1, none⟩ (.int .i64 2))) := (HT.out.drewN mm).setCell (p := ⟨kk.blk, 1, none⟩) (fun (h : kk.blk < _) => by omega) _
              have HB1 : Hid (∀ b t cs, Blk wr b t cs → b ≠ kk.blk → Blk ((wr.drewN mm).setCell ⟨kk.blk, 1, none⟩ (.int .i64 2)) b t cs) := fun b t cs hb hne => (hb.drewN mm).far (p := ⟨kk.blk, 1, none⟩) hne _
              have HB0 := Lib.hid hb1
              have HK1 : Hid (Blk ((wr.drewN mm).setCell ⟨kk.blk, 1, none⟩ (.int .i64 2)) bk 4 #[.bool true]) := (HBKR.out.drewN mm).far (p := ⟨kk.blk, 1, none⟩) hkb.symm _
              have hsz1 : B2 ≤ ((wr.drewN mm).setCell ⟨kk.blk, 1, none⟩ (.int .i64 2)).heap.size := by
                simp [World.setCell]
                exact hszr
              have HG := Lib.hid hg
              have co := HV1.out.cell 0
              have fo := HV1.out.free 0
              have p0 := HPL.out.cell 0
              have p1 := HPL.out.cell 1
              have p2 := HPL.out.cell 2
              simp only [List.getElem?_toArray, List.getElem?_cons_zero, List.getElem?_cons_succ] at co p0 p1 p2
              generalize (wr.drewN mm).setCell ⟨kk.blk, 1, none⟩ (.int .i64 2) = W1 at *
              clear hg HVV HOWN HT HBKR hb1 hb2 hsl
              go_wp2_with fail
              refine (payload_any kk.blk pl kk.seq 2 fac hd _ HKP.out).mono ?_
              rintro e w3 ⟨rfl, hw⟩
              have hw := hw.symm
              subst hw
              go_wp2_with fail
              have hidx : ((kk.idx : Nat) : Int) ≤ 255 := by omega
              have hor : bits BinOp.or IntKind.i64 0 ((kk.idx : Nat) : Int) = ((kk.idx : Nat) : Int) := or_small kk.idx (by omega)
              have hor0 : bits BinOp.or IntKind.i64 0 0 = 0 := by decide
              have hw0 : IntKind.i64.wrap 0 = 0 := by decide
              have hwk : IntKind.i64.wrap ((kk.idx : Nat) : Int) = ((kk.idx : Nat) : Int) := by rw [IntKind.wrap_i64]; omega
              have hbo1 : bo < W1.heap.size := by omega
              go_region_law (refine step_append_lies _ (by rfl) _ _ _ (by rfl) B2 3 i0 _ 1 8 Tryd.underlying29 hi0 hz0 hz1 hz2 rfl (by omega) v j _ (by rfl) ((own_drew HO1.out).alloc _) ⟨W1.heap.size, 0, none⟩ 1 1 [.int .i64 (kk.idx : Int)] (by rfl) (by rfl) (World.news_of_block (cs := #[.int .i64 (kk.idx : Int)]) (t := 3) (fr := (0, 0)) (heap_alloc_new W1.drew _)) (by simp [Value.oneCell']) (by omega) (by simp only [maxLen]; omega) (by omega) (by simp; omega) (W1.heap.size + 1) (by simp) ?_; intro gg cap w3 hown3 hgrow hat hlt3; have hv3 := ((Blk.drew HV1.out).alloc _).grown hgrow (own_apart HO1.out hszo).symm; have co3 : w3.cell? ⟨bo, 0, none⟩ = some v := hv3.cell 0; have fo3 := hv3.free 0)
              all_goals
                obtain ⟨g1, g2, g3, g4, g5⟩ := ask_grow (Blk.drew HV1.out) (own_drew HO1.out) hgrow hown3 hszo
                have HG1 := Lib.hid g1
                have HG2 := Lib.hid g2
                have HG3 := Lib.hid g3
                have HG4 := Lib.hid (g4 _ _ HT1.out.drew (.inr rfl) hsz)
                have g5' : W1.heap.size ≤ (w3.setCell ⟨bo, 0, none⟩ (.slice (some ⟨gg, 0, none⟩) (j + 1) cap)).heap.size := g5
                generalize w3.setCell ⟨bo, 0, none⟩ (.slice (some ⟨gg, 0, none⟩) (j + 1) cap) = W4 at *
                clear g1 g2 g3 g4 hown3 hgrow co3 fo3 hv3 hlt3 g5
                go_wp2_with fail
                refine (release_two kk.blk pl kk.seq fac hd _ (HG3.out _ _ _ HKP.out (by decide) (by decide))).mono ?_
                rintro e w5 ⟨rfl, rfl⟩
                go_wp2_with fail
                have hfin : BufAt w.heap.size (W4.setCell ⟨kk.blk, 1, none⟩ (.int .i64 1)) g p R := HBUF.out.keep fun b t cs hb ht' => by
                  by_cases hbk : b = kk.blk
                  · subst hbk
                    obtain ⟨rfl, rfl⟩ := hb.one HB0.out
                    exact (HG3.out _ _ _ HKP.out (by decide) (by decide)).put 1 _
                  · refine (HG3.out _ _ _ (HB1.out _ _ _ hb hbk) ?_ ?_).far (p := ⟨kk.blk, 1, none⟩) hbk _
                    · rcases ht' with h | h | h | h <;> subst h <;> decide
                    · rcases ht' with h | h | h | h <;> subst h <;> decide
                refine ⟨⟨j + 1, by go_num, by omega, _, HG1.out.far (p := ⟨kk.blk, 1, none⟩) hko.symm _, ?_, HG4.out.setCell (p := ⟨kk.blk, 1, none⟩) (fun (h : kk.blk < _) => by omega) _, hfin, (HG3.out _ _ _ HK1.out (by decide) (by decide)).far (p := ⟨kk.blk, 1, none⟩) hkb.symm _, HLOW.out, ?_⟩, by simp [intOf]; omega⟩
                · rw [← out_some HSK.out HG.out]
                  exact own_far HG2.out (p := ⟨kk.blk, 1, none⟩) hlo _
                · simp [World.setCell]
                  omega
          · obtain rfl : j = m := by omega
            have HVV := Lib.hid hvv
            have HOWN := Lib.hid hown
            have HT := Lib.hid ht
            have HBKR := Lib.hid hbkr
            clear hinv hvv hown ht hbuf hbkr hlow
            go_wp2_with fail
            go_end0
            refine ⟨rfl, HT.out, .inl ⟨HP.out, HBKR.out, R, v, ?_, HVV.out, ?_⟩⟩
            · rw [HMN.out]
              exact HFD.out
            · have h := HOWN.out
              rw [List.take_of_length_le (by rw [HMQ.out]; omega)] at h
              rw [HMQ.out]
              exact own_low h hsz
  · have hbk1 := HBK.out.below hb lk
    have HTW : Hid (Touch (fun b => b = bk ∨ b = bo) w w1) := Touch.ofBelow hb (by omega)
    have HBOW := Lib.hid (HBO.out.below hb lo)
    have HBKW := Lib.hid hbk1
    have HP := Lib.hid hp
    clear hb hp hbk1
    go_wp2_with fail
    refine bodyPost_ret (results_none rfl _ _ _) rfl ?_
    exact ⟨rfl, HTW.out, .inr ⟨HP.out, HBKW.out, HBOW.out⟩⟩
end Go.Proofs.YtlkmmkphpiamcaaDoor
