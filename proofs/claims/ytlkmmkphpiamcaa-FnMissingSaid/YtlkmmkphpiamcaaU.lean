/-
  same; the closure of impl.Missing. Conditions: sizes from 64 to 65535; at most 100 skipped. By an AI agent.
-/
import Derived.Test.YtlkmmkphpiamcaaT
import Derived.Test.YtlkmmkphpiamcaaL
namespace Go.Proofs.Ytlkmmkphpiamcaa
open Go.RowKit

set_option maxHeartbeats 800000 in
theorem same_true (n c d B C : Nat) (A1 A2 : Option Addr) (l : List Int) (w : World) (h1 : Reads w B 1 A1 n (Low16 l)) (h2 : Reads w C 1 A2 n (Low16 l)) (hn : n ≤ 9223372036854775807) :
    Calls Try.prog 19 #[.slice A1 n c, .slice A2 n d] w fun e w' => e = .returned (.bool true) ∧ ∃ m, w' = w.drewN m := by
  have H1 := Lib.hid h1
  have H2 := Lib.hid h2
  clear h1 h2
  go_enter Try.func19, Try.ntmps19
  go_wp2_with fail
  go_loopw [13] (fun i wr => ∃ k m : Nat, k ≤ n ∧ i = .int .i64 k ∧ Hid (wr = w.drewN m)) (fun i _ => n - (intOf i).toNat)
  case atStart => exact ⟨0, 0, by omega, rfl, rfl⟩
  case round =>
    obtain ⟨k, m, hk, rfl, hw⟩ := hrel
    obtain rfl := hw.out
    clear hw
    by_cases hlt : k < n
    · obtain ⟨ad1, u1, rfl, _, hu1, hc1⟩ := H1.out.at1 hlt
      obtain ⟨ad2, u2, rfl, _, hu2, hc2⟩ := H2.out.at1 hlt
      obtain rfl : u2 = u1 := Option.some.inj (hu2.symm.trans hu1)
      obtain ⟨y, rfl⟩ : ∃ y, u2 = .int .u16 y := by
        rw [Low16, List.getElem?_map] at hu1
        cases hq : l[k]? with
        | none => rw [hq] at hu1; cases hu1
        | some y => rw [hq] at hu1; exact ⟨_, (Option.some.inj hu1).symm⟩
      have hi1 : (k : Int) < (n : Int) := by omega
      clear hu1 hu2
      go_wp2_with fail
      go_quiet (fail)
      go_wp2_with fail
      exact ⟨⟨k + 1, m + nq, by omega, by go_num, rfl⟩, by simp [intOf]; omega⟩
    · go_wp2_with fail
      go_ret
      exact ⟨rfl, m, rfl⟩

theorem mrow_news {w : World} {b : Nat} {l : List Nat} (h : MRow w b l) : ∀ j u, (U16s l)[j]? = some u → w.cell? ((⟨b, 0, none⟩ : Addr).add j) = some u := by
  intro j u hu
  rcases Nat.eq_zero_or_pos l.length with h0 | h0
  · rw [List.eq_nil_of_length_eq_zero h0] at hu
    simp [U16s] at hu
  · obtain ⟨ad, e, _, hc⟩ := (mrow_reads h).2 h0
    injection e with e
    subst e
    exact hc j u hu
theorem own_low {w : World} {base base' : Nat} {e : TypeId} {size : Nat} {v : Value} {n : Nat} {xs : List Value} (h : w.ownsRow base' e size v n xs) (hb : base ≤ base') : w.ownsRow base e size v n xs := by
  obtain ⟨h1, h2⟩ := h
  refine ⟨h1, ?_⟩
  rcases h2 with h2 | ⟨g, cap, cur, hv, hg, hh⟩
  · exact .inl h2
  · exact .inr ⟨g, cap, cur, hv, by omega, hh⟩
theorem u16s_one (l : List Nat) : ∀ u ∈ U16s l, u.oneCell' = true := by
  intro u hu
  obtain ⟨q, _, rfl⟩ := List.mem_map.1 hu
  rfl

/-- What impl.Missing's closure leaves. -/
def missOut (L : Log) (skip : Nat) : List Nat :=
  if (L.top + (65536 - skip) + (65536 - L.last)) % 65536 < 32768 then missL L ((L.top + (65536 - skip) + (65536 - L.last)) % 65536) else []

def MisPost (size bk bo skip : Nat) (ns : List Nat) (w w' : World) : Prop :=
  Touch (fun b => b = bk ∨ b = bo) w w' ∧
  ((IsPow size ∧ Blk w' bk 4 #[.bool true] ∧ ∃ L v, Adds (freshLog size) ns L ∧ Blk w' bo 22 #[v] ∧ w'.ownsRow w.heap.size 33 1 v (missOut L skip).length (U16s (missOut L skip))) ∨
   (¬ IsPow size ∧ Blk w' bk 4 #[.bool false] ∧ Blk w' bo 22 #[.slice none 0 0]))

set_option maxRecDepth 100000 in
set_option maxHeartbeats 1600000 in
theorem miss_closure (bs bl bk bq bo size n c skip : Nat) (A : Option Addr) (ns : List Nat) (w : World)
    (hbs : Blk w bs 3 #[.int .i64 size]) (hbl : Blk w bl 22 #[.slice A n c]) (hbk : Blk w bk 4 #[.bool false]) (hbq : Blk w bq 3 #[.int .i64 skip]) (hbo : Blk w bo 22 #[.slice none 0 0])
    (h0 : 64 ≤ size) (h1 : size ≤ 65535) (hr : Reads w w.heap.size 1 A n (U16s ns)) (hn : n ≤ 9223372036854775807) (hns : ∀ q ∈ ns, q ≤ 65535) (hsk : skip ≤ 100) :
    Calls Try.prog 40 #[.pointer (some ⟨bs, 0, none⟩), .pointer (some ⟨bl, 0, none⟩), .pointer (some ⟨bk, 0, none⟩), .pointer (some ⟨bq, 0, none⟩), .pointer (some ⟨bo, 0, none⟩)] w
      fun e w' => e = .returned (.tuple #[]) ∧ MisPost size bk bo skip ns w w' := by
  obtain ⟨i0, hi0, hz0, hz1, hz2⟩ := info_parts info_u16
  have cs := hbs.cell 0
  have cl := hbl.cell 0
  have lk := hbk.lt
  have lo := hbo.lt
  have lq := hbq.lt
  have dko : bk ≠ bo := hbk.unlike hbo (by decide)
  have dkq : bq ≠ bk := hbq.unlike hbk (by decide)
  have dqo : bq ≠ bo := hbq.unlike hbo (by decide)
  simp at cs cl
  have HBK := Lib.hid hbk
  have HBQ := Lib.hid hbq
  have HBO := Lib.hid hbo
  have HR := Lib.hid hr
  have HNS := Lib.hid hns
  clear hbs hbl hbk hbq hbo hr hns
  go_enter Try.func40, Try.ntmps40
  go_wp2_with fail
  refine (logged_any size n c A ns w h0 h1 HR.out hn HNS.out).mono ?_
  rintro e w1 ⟨hb, ⟨hp, g, p, L, rfl, hg, hpp, hL, hadds⟩ | ⟨hp, rfl⟩⟩
  · have hbk1 := HBK.out.below hb lk
    have ck := hbk1.cell 0
    have fk := hbk1.free 0
    have hbq1 := (HBQ.out.below hb lq).far (p := ⟨bk, 0, none⟩) dkq (.bool true)
    have hbo1 := (HBO.out.below hb lo).far (p := ⟨bk, 0, none⟩) (Ne.symm dko) (.bool true)
    have cq := hbq1.cell 0
    have co := hbo1.cell 0
    have fo := hbo1.free 0
    simp at ck cq co
    have lw := hb.size
    have HLW := Lib.hid (hL.touch ((Touch.refl (· = bk) w1).setCell (p := ⟨bk, 0, none⟩) (fun _ => rfl) (.bool true)) (by omega) (by omega))
    have HTW : Hid (Touch (fun b => b = bk ∨ b = bo) w (w1.setCell ⟨bk, 0, none⟩ (.bool true))) := ((Touch.ofBelow hb (by omega)).setCell (p := ⟨bk, 0, none⟩) (fun _ => .inl rfl) _)
    have HBKW := Lib.hid (hbk1.put 0 (.bool true))
    have HBOW := Lib.hid hbo1
    have HBQW := Lib.hid hbq1
    have lsz : Hid ((w1.setCell ⟨bk, 0, none⟩ (.bool true)).heap.size = w1.heap.size) := by simp [Hid, World.setCell]
    have HP := Lib.hid hp
    have HA := Lib.hid hadds
    clear hb hp hL hadds hbk1 hbq1 hbo1
    go_wp2_with fail
    generalize hW : w1.setCell ⟨bk, 0, none⟩ (.bool true) = W at *
    clear hW
    have hloW : bo < W.heap.size := HBOW.out.lt
    have hqW : bq < W.heap.size := HBQW.out.lt
    have hcall : ∀ W', LogAt W' g p L → Calls Try.prog 41 #[.pointer (some ⟨g, 0, none⟩), .int .u16 (skip : Int)] W' (ZMissPost L skip W') := fun W' h => zzmissing_any g p L skip W' h (by omega)
    have HC := Lib.hid hcall
    clear hcall
    rcases Nat.lt_or_ge ((L.top + (65536 - skip) + (65536 - L.last)) % 65536) 32768 with hD | hD
    · have hmo : missOut L skip = missL L ((L.top + (65536 - skip) + (65536 - L.last)) % 65536) := by rw [missOut, if_pos hD]
      have hml := missL_len L ((L.top + (65536 - skip) + (65536 - L.last)) % 65536)
      obtain ⟨l, hl⟩ : ∃ l, missL L ((L.top + (65536 - skip) + (65536 - L.last)) % 65536) = l := ⟨_, rfl⟩
      have hlen : l.length ≤ 65536 := by rw [hl] at hml; omega
      have hcall : ∀ W', LogAt W' g p L → Calls Try.prog 41 #[.pointer (some ⟨g, 0, none⟩), .int .u16 (skip : Int)] W' (fun e w' => Touch Nowhere W' w' ∧ ∃ b, W'.heap.size ≤ b ∧ e = .returned (.slice (some ⟨b, 0, none⟩) l.length M16) ∧ MRow w' b l) := by
        intro W' h
        refine (HC.out W' h).mono ?_
        rintro e w' ⟨ht, ⟨h1, _⟩ | ⟨_, b, hb, he, hm⟩⟩
        · omega
        · rw [hl] at he hm
          exact ⟨ht, b, hb, he, hm⟩
      rw [hl] at hmo
      have HMO := Lib.hid hmo
      have HC2 := Lib.hid hcall
      have hskw : IntKind.u16.wrap (skip : Int) = (skip : Int) := by rw [IntKind.wrap_u16]; omega
      clear hD hmo hml hl hcall HC
      go_region_law
        (first
          | (go_simp; go_at_call 41; refine (HC2.out _ ?_).mono ?_; (exact HLW.out); rintro e w3 ⟨ht3, b, hb3, rfl, hm3⟩; have hbo3 := HBOW.out.touch ht3.undrew (fun h => h); have co3 : w3.cell? ⟨bo, 0, none⟩ = some (.slice none 0 0) := hbo3.cell 0; have cq3 : w3.cell? ⟨bq, 0, none⟩ = some (.int .i64 skip) := (HBQW.out.touch ht3.undrew (fun h => h)).cell 0; have HBO3 := Lib.hid hbo3; have HT3 := Lib.hid ht3.undrew; have HM3 := Lib.hid hm3; have HB3 := Lib.hid hb3; clear hbo3 ht3 hm3 hb3)
          | (refine step_append_src _ (by rfl) _ _ _ (by rfl) W.heap.size 33 i0 _ 1 2 Try.underlying22 hi0 hz0 hz1 hz2 rfl (by omega) (.slice none 0 0) 0 [] (by rfl) (World.ownsRow_nil _ _ _ _) ⟨b, 0, none⟩ l.length M16 (U16s l) (by rfl) (by simp [U16s]) (mrow_news HM3.out) (u16s_one l) (by simp only [maxLen]; omega) (by omega) HT3.out.size ?_; intro v4 w4 hown4 hgrow4; obtain ⟨A4, c4, rfl⟩ := own_slice hown4; have hbo4 := HBO3.out.grown hgrow4 (by simp [Value.ownBlock]); have co4 : w4.cell? ⟨bo, 0, none⟩ = some (.slice none 0 0) := hbo4.cell 0; have fo4 := hbo4.free 0; have HBO4 := Lib.hid hbo4; clear hbo4))
      all_goals
        go_wp2_with fail
        go_end0
        have hgt : Touch Nowhere W w4 := HT3.out.grown hgrow4 (fun k hk => by simp [Value.ownBlock] at hk)
        refine ⟨rfl, (HTW.out.trans hgt (fun _ _ h => False.elim h)).setCell (p := ⟨bo, 0, none⟩) (fun _ => .inr rfl) _, .inl ⟨HP.out, (HBKW.out.touch hgt (fun h => h)).far (p := ⟨bo, 0, none⟩) dko _, L, .slice A4 l.length c4, HA.out, ?_, ?_⟩⟩
        · have := HBO4.out.put 0 (.slice A4 l.length c4)
          simpa using this
        · rw [HMO.out]
          have h3 : w4.ownsRow W.heap.size 33 1 (.slice A4 l.length c4) l.length (U16s l) := by simpa using hown4
          exact own_low (own_far h3 (p := ⟨bo, 0, none⟩) hloW _) HTW.out.size
    · have hmo : missOut L skip = [] := by rw [missOut, if_neg (by omega)]
      have hcall : ∀ W', LogAt W' g p L → Calls Try.prog 41 #[.pointer (some ⟨g, 0, none⟩), .int .u16 (skip : Int)] W' (fun e w' => Touch Nowhere W' w' ∧ e = .returned (.slice none 0 0)) := by
        intro W' h
        refine (HC.out W' h).mono ?_
        rintro e w' ⟨ht, ⟨_, he⟩ | ⟨h1, _⟩⟩
        · exact ⟨ht, he⟩
        · omega
      have HMO := Lib.hid hmo
      have HC2 := Lib.hid hcall
      have hskw : IntKind.u16.wrap (skip : Int) = (skip : Int) := by rw [IntKind.wrap_u16]; omega
      clear hD hmo hcall HC
      go_region_law
        (first
          | (go_simp; go_at_call 41; refine (HC2.out _ ?_).mono ?_; (exact HLW.out); rintro e w3 ⟨ht3, rfl⟩; have hbo3 := HBOW.out.touch ht3.undrew (fun h => h); have co3 : w3.cell? ⟨bo, 0, none⟩ = some (.slice none 0 0) := hbo3.cell 0; have fo3 := hbo3.free 0; have cq3 : w3.cell? ⟨bq, 0, none⟩ = some (.int .i64 skip) := (HBQW.out.touch ht3.undrew (fun h => h)).cell 0; have HBO3 := Lib.hid hbo3; have HT3 := Lib.hid ht3.undrew; clear hbo3 ht3)
          | fail)
      all_goals
        go_wp2_with fail
        go_end0
        refine ⟨rfl, (HTW.out.trans HT3.out (fun _ _ h => False.elim h)).setCell (p := ⟨bo, 0, none⟩) (fun _ => .inr rfl) _, .inl ⟨HP.out, (HBKW.out.touch HT3.out (fun h => h)).far (p := ⟨bo, 0, none⟩) dko _, L, .slice none 0 0, HA.out, ?_, ?_⟩⟩
        · have := HBO3.out.put 0 (.slice none 0 0)
          simpa using this
        · rw [HMO.out]
          exact World.ownsRow_nil _ _ _ _
  · have hbk1 := HBK.out.below hb lk
    have ck := hbk1.cell 0
    have fk := hbk1.free 0
    simp at ck
    have HTW : Hid (Touch (fun b => b = bk ∨ b = bo) w ((w1.setCell ⟨bk, 0, none⟩ (.bool false)).setCell ⟨bk, 0, none⟩ (.bool false))) := (((Touch.ofBelow hb (by omega)).setCell (p := ⟨bk, 0, none⟩) (fun _ => .inl rfl) _)).setCell (p := ⟨bk, 0, none⟩) (fun _ => .inl rfl) _
    have HBOW := Lib.hid (((HBO.out.below hb lo).far (p := ⟨bk, 0, none⟩) (Ne.symm dko) (.bool false)).far (p := ⟨bk, 0, none⟩) (Ne.symm dko) (.bool false))
    have HBKW := Lib.hid ((hbk1.put 0 (.bool false)).put 0 (.bool false))
    have HP := Lib.hid hp
    clear hb hp hbk1
    go_wp2_with fail
    go_end0
    exact ⟨rfl, HTW.out, .inr ⟨HP.out, HBKW.out, HBOW.out⟩⟩
end Go.Proofs.Ytlkmmkphpiamcaa
