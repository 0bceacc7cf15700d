import Derived.Test.Qxb6605769aDoorPlain
import Derived.Test.Qxb6605769aDoorShelf
import Derived.WalkKit
import Derived.WalkSpells
import Derived.WalkLawsBesides
import Derived.OwnWalk
namespace Go.Proofs.Qxb6605769aDoor
open Go.RowKit
open Go.Lib
set_option linter.unusedVariables false
set_option linter.unusedSimpArgs false

/-- the two sentinels hold errors -/
def Errs (w : World) : Prop := (∃ te pe, w.cell? ⟨0, 0, none⟩ = some (.iface te pe)) ∧ (∃ te pe, w.cell? ⟨1, 0, none⟩ = some (.iface te pe))
theorem Errs.later {w w' : World} (h : Errs w) (hb : Below w.heap.size w w') : Errs w' := by
  obtain ⟨⟨t, p, h1⟩, t', p', h2⟩ := h
  refine ⟨⟨t, p, ?_⟩, t', p', ?_⟩
  · rw [hb.cell (World.block_lt_of_cell? w _ h1)]; exact h1
  · rw [hb.cell (World.block_lt_of_cell? w _ h2)]; exact h2

theorem pi_any (s : ByteArray) (hs : s.size ≤ 1099511627776) (w : World) (he : Errs w) :
    Calls Tryd.prog 10 #[.string s, .int .i64 10, .int .i64 64] w fun e w' => (∃ ev, e = .returned (.tuple #[.int .i64 (num s.data.toList), ev]) ∧ (good s.data.toList = true → ev = .nilIface) ∧ (good s.data.toList = false → ∃ t p, ev = .iface t (.pointer (some p)))) ∧ Below w.heap.size w w' := by
  obtain ⟨⟨t, p, h1⟩, t', p', h2⟩ := he
  unfold num good
  cases hp : parseIntB 64 s.data.toList with
  | ok v =>
    refine (Tryd.strconv_ParseInt_10_at64_ok s (by omega) v hp w).mono fun e w' ⟨he, hw⟩ => ⟨⟨_, he, fun _ => rfl, (fun h => by cases h)⟩, ?_⟩
    rcases hw with rfl | ⟨q, rfl⟩
    · exact Below.refl _ _
    · exact bytesWorld_below _ _ _
  | «syntax» => exact (Tryd.strconv_ParseInt_10_at64_syntax s (by omega) hp _ w h1 (.inr ⟨_, _, rfl⟩)).mono fun e w' ⟨N, he, _, _, hb⟩ => ⟨⟨_, he, (fun h => by cases h), fun _ => ⟨_, _, rfl⟩⟩, hb⟩
  | range => exact (Tryd.strconv_ParseInt_10_at64_range s (by omega) hp _ w h2 (.inr ⟨_, _, rfl⟩)).mono fun e w' ⟨N, he, _, _, hb⟩ => ⟨⟨_, he, (fun h => by cases h), fun _ => ⟨_, _, rfl⟩⟩, hb⟩

theorem byte_at (s : ByteArray) (k : Nat) (h : k < s.size) : s.data.toList[k]? = some (s[k]'h) := by
  have : k < s.data.toList.length := by rw [Array.length_toList]; exact h
  rw [List.getElem?_eq_getElem this]
  rfl
theorem plain_yes (s : ByteArray) (h0 : s.size ≠ 0) (h : ∀ j (hj : j < s.size), isDig (s[j]'hj) = true) : plainB s.data.toList = true := by
  unfold plainB
  have hl : s.data.toList.length = s.size := by rw [Array.length_toList]; rfl
  have ha : s.data.toList.all isDig = true := by
    rw [List.all_eq_true]
    intro c hc
    obtain ⟨j, hj, rfl⟩ := List.getElem_of_mem hc
    have hj' : j < s.size := by omega
    have := byte_at s j hj'
    rw [List.getElem?_eq_getElem hj] at this
    rw [Option.some.inj this]
    exact h j hj'
  rw [ha, Bool.and_true]
  cases hd : s.data.toList with
  | nil => rw [hd] at hl; simp at hl; omega
  | cons c r => rfl
theorem plain_no (s : ByteArray) (k : Nat) (hk : k < s.size) (h : isDig (s[k]'hk) = false) : plainB s.data.toList = false := by
  unfold plainB
  have : s.data.toList.all isDig = false := by
    rw [List.all_eq_false]
    exact ⟨s[k]'hk, List.mem_of_getElem? (byte_at s k hk), by rw [h]; simp⟩
  rw [this, Bool.and_false]

/-- how far the look at the bytes has come -/
def Seen (s : ByteArray) (k : Nat) (b : Bool) : Prop := (b = true → plainB s.data.toList = false) ∧ (b = false → s.size ≠ 0 ∧ ∀ j (hj : j < s.size), j < k → isDig (s[j]'hj) = true)

set_option maxRecDepth 100000 in
set_option maxHeartbeats 1000000 in
theorem pd_any (s : ByteArray) (hs : s.size ≤ 1099511627776) (w : World) (he : Errs w) :
    Calls Tryd.prog 9 #[.string s] w fun e w' => e = .returned (.tuple #[.int .i64 (num s.data.toList), .bool (plainB s.data.toList && good s.data.toList)]) ∧ Below w.heap.size w w' := by
  have hpi := pi_any s hs w he
  have H0 : Hid (Seen s 0 s.toList.isEmpty) := by
    show Seen s 0 s.toList.isEmpty
    rw [ByteArray.toList_eq]
    refine ⟨fun h => by unfold plainB; rw [h]; rfl, fun h => ⟨fun e => ?_, fun j _ hj => by omega⟩⟩
    have hl : s.data.toList.length = s.size := by rw [Array.length_toList]; rfl
    rw [e] at hl
    rw [List.length_eq_zero_iff.1 hl] at h
    cases h
  clear he
  generalize hn : num s.data.toList = N at *
  generalize hg : good s.data.toList = G at *
  generalize hp : plainB s.data.toList = Pl at *
  have HP : Hid (plainB s.data.toList = Pl) := hp
  clear hn hg hp
  go_enter Tryd.func9, Tryd.ntmps9
  go_wp2_with fail
  go_loopw [4, 5] (fun bad i wr => ∃ (k : Nat) (b : Bool), k ≤ s.size ∧ i = .int .i64 k ∧ bad = .bool b ∧ Seen s k b ∧ wr = w) (fun bad i _ => s.size - (RowKit.intOf i).toNat)
  case atStart => exact ⟨0, _, Nat.zero_le _, rfl, rfl, H0.out, rfl⟩
  case round =>
    clear H0
    obtain ⟨k, b, hk, rfl, rfl, hS, rfl⟩ := hrel
    have HS : Hid (Seen s k b) := hS
    clear hS
    by_cases hlt : k < s.size
    · cases b with
      | false =>
        have hq : (k : Int) < (s.size : Int) := by omega
        have HY : Hid (isDig (s[k]'hlt) = true → Seen s (k + 1) false) := fun hd => ⟨(fun h => by cases h), fun _ => ⟨(HS.out.2 rfl).1, fun j hj hjk => by
          by_cases e : j = k
          · subst e; exact hd
          · exact (HS.out.2 rfl).2 j hj (by omega)⟩⟩
        have HN : Hid (isDig (s[k]'hlt) = false → Seen s (k + 1) true) := fun hd => ⟨(fun _ => plain_no s k hlt hd), fun h => by cases h⟩
        have hx := (s[k]'hlt).toNat_lt
        have Hx : Hid (isDig (s[k]'hlt) = (decide (48 ≤ (s[k]'hlt).toNat) && decide ((s[k]'hlt).toNat ≤ 57))) := rfl
        clear hpi HP
        generalize isDig (s[k]'hlt) = D at *
        by_cases x1 : (s[k]'hlt).toNat < 48
        · have hD : D = false := by rw [Hx.out]; simp; omega
          have x1' : (((s[k]'hlt).toNat : Nat) : Int) < 48 := by omega
          have O : Hid (Seen s (k + 1) true) := HN.out hD
          clear HY HN Hx hD
          go_wp2
          go_roundw
          case rel => exact ⟨k + 1, true, hlt, by go_num, rfl, O.out, by first | trivial | rfl⟩
          case measure => simp [RowKit.intOf]; omega
        · by_cases x2 : 57 < (s[k]'hlt).toNat
          · have hD : D = false := by rw [Hx.out]; simp; omega
            have x1' : ¬ (((s[k]'hlt).toNat : Nat) : Int) < 48 := by omega
            have x2' : 57 < (((s[k]'hlt).toNat : Nat) : Int) := by omega
            have O : Hid (Seen s (k + 1) true) := HN.out hD
            clear HY HN Hx hD
            go_wp2
            go_roundw
            case rel => exact ⟨k + 1, true, hlt, by go_num, rfl, O.out, by first | trivial | rfl⟩
            case measure => simp [RowKit.intOf]; omega
          · have hD : D = true := by rw [Hx.out]; simp; omega
            have x1' : ¬ (((s[k]'hlt).toNat : Nat) : Int) < 48 := by omega
            have x2' : ¬ 57 < (((s[k]'hlt).toNat : Nat) : Int) := by omega
            have O : Hid (Seen s (k + 1) false) := HY.out hD
            clear HY HN Hx hD
            go_wp2
            go_roundw
            case rel => exact ⟨k + 1, false, hlt, by go_num, rfl, O.out, by first | trivial | rfl⟩
            case measure => simp [RowKit.intOf]; omega
      | true =>
        obtain rfl : Pl = false := HP.out.symm.trans (HS.out.1 rfl)
        clear HP HS
        go_wp2_with fail
        refine hpi.mono ?_
        rintro e w2 ⟨⟨ev, rfl, hg1, hg2⟩, hb⟩
        clear hpi
        cases G with
        | true =>
          obtain rfl := hg1 rfl
          clear hg1 hg2
          go_wp2_with fail
          go_quiet (fail)
          go_wp2
          go_ret2
          exact ⟨rfl, below_drewN hb _⟩
        | false =>
          obtain ⟨t, p, rfl⟩ := hg2 rfl
          clear hg1 hg2
          go_wp2_with fail
          go_quiet (fail)
          go_wp2
          go_ret2
          exact ⟨rfl, below_drewN hb _⟩
    · obtain rfl : k = s.size := by omega
      cases b with
      | false =>
        obtain rfl : Pl = true := HP.out.symm.trans (plain_yes s (HS.out.2 rfl).1 fun j hj => (HS.out.2 rfl).2 j hj hj)
        clear HP HS
        go_wp2_with fail
        refine hpi.mono ?_
        rintro e w2 ⟨⟨ev, rfl, hg1, hg2⟩, hb⟩
        clear hpi
        cases G with
        | true =>
          obtain rfl := hg1 rfl
          clear hg1 hg2
          go_wp2_with fail
          go_quiet (fail)
          go_wp2
          go_ret2
          exact ⟨rfl, below_drewN hb _⟩
        | false =>
          obtain ⟨t, p, rfl⟩ := hg2 rfl
          clear hg1 hg2
          go_wp2_with fail
          go_quiet (fail)
          go_wp2
          go_ret2
          exact ⟨rfl, below_drewN hb _⟩
      | true =>
        obtain rfl : Pl = false := HP.out.symm.trans (HS.out.1 rfl)
        clear HP HS
        go_wp2_with fail
        refine hpi.mono ?_
        rintro e w2 ⟨⟨ev, rfl, hg1, hg2⟩, hb⟩
        clear hpi
        cases G with
        | true =>
          obtain rfl := hg1 rfl
          clear hg1 hg2
          go_wp2_with fail
          go_quiet (fail)
          go_wp2
          go_ret2
          exact ⟨rfl, below_drewN hb _⟩
        | false =>
          obtain ⟨t, p, rfl⟩ := hg2 rfl
          clear hg1 hg2
          go_wp2_with fail
          go_quiet (fail)
          go_wp2
          go_ret2
          exact ⟨rfl, below_drewN hb _⟩
end Go.Proofs.Qxb6605769aDoor
