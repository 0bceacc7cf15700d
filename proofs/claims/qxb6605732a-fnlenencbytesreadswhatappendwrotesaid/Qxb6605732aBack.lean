import Derived.Test.Qxb6605732aEqs
namespace Go.Proofs.Qxb6605732a
open Go.RowKit
open Go.Sort (grow)
open Go.Lib
set_option linter.unusedVariables false
set_option linter.unusedSimpArgs false

theorem Buf.view {w : World} {base : Nat} {v : Value} {l : List UInt8} (h : Buf w base v l) : ∃ a c, v = .slice a l.length c ∧ View w.heap.size w a l.length c l := by
  obtain ⟨h1, ⟨rfl, h2⟩ | ⟨g, cap, cur, rfl, hb, hg, hn, hm, hs, ht⟩⟩ := h
  · rw [h2]
    refine ⟨_, _, rfl, ?_⟩
    obtain rfl : l = [] := List.length_eq_zero_iff.1 h2
    exact View.nil _ _
  · refine ⟨_, _, rfl, rfl, hn, .inr ⟨g, 0, rfl, (Array.getElem?_eq_some_iff.1 hg).1, fun i hi => ?_⟩⟩
    have hx : w.ownsRow base 5 1 (.slice (some ⟨g, 0, none⟩) l.length cap) l.length (cellsOfB l) := ⟨h1, .inr ⟨g, cap, cur, rfl, hb, hg, hn, hm, hs, ht⟩⟩
    have := hx.cells (g := g) rfl i (.int .u8 (l.getD i 0).toNat) (by simp [cellsOfB, List.getD, List.getElem?_eq_getElem hi])
    rw [addp] at this
    exact this

theorem take_next (l : List UInt8) (k : Nat) (hk : k < l.length) : l.take (k + 1) = l.take k ++ [l.getD k 0] := by
  rw [List.take_succ_eq_append_getElem hk]
  simp [List.getD, List.getElem?_eq_getElem hk]

set_option maxRecDepth 100000 in
set_option maxHeartbeats 2000000 in
theorem back_main (s t : ByteArray) (a : Option Addr) (cap : Nat) (l : List UInt8) (w : World) (h : ArgAt w a l.length l) (h1 : s.size ≤ 262144) (h2 : t.size ≤ 262144) (hm : l.length ≤ 262144) :
    Calls Try.prog 4 #[.string s, .string t, .slice a l.length cap] w fun e w' => e = .returned (.bool true) ∧ Below w.heap.size w w' := by
  have hcl := clone_any a cap l w (by omega) h
  clear h
  obtain ⟨i0, hi0, hz0, hz1, hz2⟩ := info_parts info5
  have z1 : (s.size : Int) ≤ 262144 := by omega
  have z2 : (t.size : Int) ≤ 262144 := by omega
  have z3 : (l.length : Int) ≤ 262144 := by omega
  go_enter Try.func4, Try.ntmps4
  go_wp2_with (first | (go_at_call 13; go_in) | fail)
  refine hcl.mono ?_
  rintro e w1 ⟨a1, c1, rfl, hv, hb1⟩
  clear hcl
  have Hv : Hid (View w1.heap.size w1 a1 l.length c1 l) := hv
  have hap := app_str w1.heap.size (.slice none 0 0) [] s w1 (World.ownsRow_nil _ _ _ _) (Nat.le_refl _) (by simp) (by omega)
  clear hv
  go_wp2_with fail
  refine hap.mono ?_
  rintro e w2 ⟨v2, rfl, hB2, hb2⟩
  clear hap
  have els := encInt_len s.size
  have elt := encInt_len t.size
  have lens : (encStr s).length = (encInt s.size).length + s.size := by unfold encStr; rw [List.length_append, Array.length_toList]; rfl
  have lent : (encStr t).length = (encInt t.size).length + t.size := by unfold encStr; rw [List.length_append, Array.length_toList]; rfl
  have hap2 := app_str w1.heap.size v2 ([] ++ encStr s) t w2 hB2 hb2.size (by simp; omega) (by omega)
  clear hB2
  go_wp2_with fail
  refine hap2.mono ?_
  rintro e w3 ⟨v3, rfl, hB3, hb3⟩
  clear hap2
  have B13 : Hid (Below w1.heap.size w1 w3) := hb2.trans hb3
  have HB3 : Hid (Buf w3 w1.heap.size v3 (encStr s ++ encStr t)) := by
    show Buf w3 w1.heap.size v3 (encStr s ++ encStr t)
    simpa using hB3
  clear hb2 hb3 hB3
  go_wp2_with fail
  go_loopw [7, 8] (fun b i wr => ∃ (k : Nat), k ≤ l.length ∧ i = .int .i64 k ∧ Buf wr w1.heap.size b (encStr s ++ encStr t ++ l.take k) ∧ Below w1.heap.size w1 wr) (fun _ i _ => l.length - (intOf i).toNat)
  case atStart => exact ⟨0, Nat.zero_le _, rfl, by simpa using HB3.out, B13.out⟩
  case round =>
    clear HB3 B13
    obtain ⟨k, hk, rfl, hB, hbr⟩ := hrel
    by_cases hlt : k < l.length
    · obtain ⟨g, o, rfl, hg, hc⟩ := Hv.out.some (by omega)
      have c0 := hc k hlt
      rw [← hbr.cell (p := ⟨g, _, none⟩) hg] at c0
      have HB : Hid (Buf wr w1.heap.size u7 (encStr s ++ encStr t ++ l.take k)) := hB
      have Hn : Hid (l.take (k + 1) = l.take k ++ [l.getD k 0]) := take_next l k hlt
      have hsz := hbr.size
      have hln : (encStr s ++ encStr t ++ l.take k).length ≤ 900000 := by
        simp only [List.length_append, List.length_take]; omega
      clear hc hB
      generalize hx : l.getD k 0 = x at *
      clear hx
      generalize hP : encStr s ++ encStr t ++ l.take k = P at *
      have HP : Hid (encStr s ++ encStr t ++ l.take k = P) := hP
      clear hP
      go_wp2_with (at_builtin; refine wpList_append_own _ rfl _ _ 22 rfl w1.heap.size 5 i0 (.int .u8 0) 1 1 Try.underlying22 hi0 hz0 hz1 hz2 rfl (by decide) u7 _ _ rfl (World.ownsRow.alloc HB.out _) ⟨wr.heap.size, 0, none⟩ 1 1 _ rfl (by rfl) (cells_new _ _ _) (by simp [Value.oneCell']) (by unfold maxLen; omega) (by omega) (by simp; omega) ?_)
      intro v' w5 hown hgrow _
      have hgr : wr.grownBy w5 u7.ownBlock := (World.grownBy_alloc wr _ _).trans hgrow
      have B : Hid (Below w1.heap.size w1 w5) := hbr.trans (below_grown HB.out hgr hsz)
      have O : Hid (Buf w5 w1.heap.size v' (encStr s ++ encStr t ++ l.take (k + 1))) := by
        show Buf w5 w1.heap.size v' _
        rw [Hn.out, ← List.append_assoc, HP.out]
        exact Buf.of hown rfl rfl
      clear hgr hgrow hown
      go_wp2
      go_roundw
      case rel => exact ⟨k + 1, hlt, by go_num, O.out, B.out⟩
      case measure => simp [intOf]; omega
    · obtain rfl : k = l.length := by omega
      rw [List.take_length] at hB
      obtain ⟨a4, c4, rfl, v4⟩ := hB.view
      have hne := new_any a4 _ c4 _ true wr v4
      have hL : (encStr s ++ encStr t ++ l).length < 9000000000000 := by simp only [List.length_append]; omega
      have hbs := hbr.size
      clear hB v4
      generalize hLL : (encStr s ++ encStr t ++ l).length = L at *
      go_wp2_with fail
      refine hne.mono ?_
      rintro e w4 ⟨rfl, hr, hb4⟩
      have hrd := rd9 _ _ true w4 hr (by rw [hLL]; exact hL)
      rw [List.append_assoc, lenBytes_enc s _ true (by omega)] at hrd
      clear hne hr
      go_wp2_with fail
      refine hrd.mono ?_
      rintro e w5 ⟨a5, n5, c5, rfl, v5, hr5, hb5⟩
      clear hrd
      have hrd2 := rd9 _ _ true w5 hr5 (by simp only [List.length_append] at hLL ⊢; omega)
      rw [lenBytes_enc t _ true (by omega)] at hrd2
      clear hr5
      have V5 : Hid (View wr.heap.size w5 a5 n5 c5 s.data.toList) := v5
      clear v5
      go_wp2_with fail
      refine hrd2.mono ?_
      rintro e w6 ⟨a6, n6, c6, rfl, v6, ⟨a7, n7, c7, hh, v7⟩, hb6⟩
      clear hrd2
      have hx1 := eqs_any _ a5 n5 c5 s w6 (V5.out.below hb6) (by omega)
      have hx2 := fun q => eqs_any _ a6 n6 c6 t (w6.drewN q) (v6.drewN q) (by omega)
      have hb1w : Below w1.heap.size w1 w6 := hbr.trans (((hb4.trans hb5).trans hb6).mono hbs)
      have hx3 := fun q => eq_any _ _ a7 a1 n7 l.length c7 c1 l (w6.drewN q) (v7.drewN q) ((Hv.out.below hb1w).drewN q) (by omega)
      have hk1 := fun q => b11 _ _ _ _ _ (w6.drewN q) (hh.later (below_draws w6 q))
      have hk2 := fun q => ok12 _ _ _ _ _ (w6.drewN q) (hh.later (below_draws w6 q))
      have HB : Hid (Below w.heap.size w w6) := hb1.trans (hb1w.mono hb1.size)
      clear v6 v7 hh V5 Hv hb4 hb5 hb6 hb1w
      go_wp2_with fail
      refine hx1.mono ?_
      rintro e w7 ⟨rfl, t1, rfl⟩
      clear hx1
      go_wp2_with fail
      refine (hx2 t1).mono ?_
      rintro e w7 ⟨rfl, t2, hw7⟩
      rw [World.drewN_drewN] at hw7
      subst hw7
      go_wp2_with fail
      refine (hk1 _).mono ?_
      rintro e w7 ⟨rfl, rfl⟩
      go_wp2_with fail
      refine (hx3 _).mono ?_
      rintro e w7 ⟨rfl, t3, hw7⟩
      rw [World.drewN_drewN] at hw7
      subst hw7
      go_wp2_with fail
      refine (hk2 _).mono ?_
      rintro e w7 ⟨rfl, rfl⟩
      clear hk1 hk2 hx2 hx3
      go_wp2
      go_ret
      exact ⟨rfl, below_drewN HB.out _⟩
end Go.Proofs.Qxb6605732a
