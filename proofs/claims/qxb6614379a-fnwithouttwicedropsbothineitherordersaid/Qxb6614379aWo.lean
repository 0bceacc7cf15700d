import Derived.Test.Qxb6614379aEl
import Derived.Deep.RegionHeld3
import Derived.Maps.AppendAt
namespace Go.Proofs.Qxb6614379a
open Go.RowKit
set_option linter.unusedVariables false
set_option linter.unusedSimpArgs false

def z93 : Value := .agg #[.string ⟨#[]⟩, .string ⟨#[]⟩, .pointer none, .string ⟨#[]⟩, .string ⟨#[]⟩, .int .i64 0]
theorem z93_size : z93.cells.size = 6 := rfl
theorem info93 : (Try.prog.info? 93).map (fun i => (i.zero, i.size, i.bytes)) = some (some z93, 6, 80) := by kernel_rfl
theorem six_pos : 0 < 6 := by decide

/-- append onto a slice of the call's own, AT A STEP OF A REGION THAT DRAWS, whatever is appended (nothing too) -/
theorem step_append_at {P : Program} (w : World) {ops : Array Oper} {o : Oper} {a : Act} {K : Act → World → Prop} {Q : Exit → Act → World → Prop} {E : Prop} (hgd : o.guard = none) (s x : Operand) (t : TypeId)
    (ho : o.op = .call { callee := .builtin .append, args := #[s, x], argTypes := #[t, t] })
    (base : Nat) (e : TypeId) (i : TypeInfo) (z : Value) (size bytes : Nat) (ht : P.underlying t = some (.slice e)) (hi : P.info? e = some i) (hz : i.zero = some z)
    (hsize : i.size = size) (hby : i.bytes = bytes) (hzs : z.cells.size = size) (hsz : 0 < size)
    (v : Value) (n : Nat) (xs : List Value) (hs : a.eval s = v) (hown : w.ownsRow base e size v n xs)
    (ad : Addr) (m c : Nat) (news : List Value) (hx : a.eval x = .slice (some ad) m c) (hl : news.length = m * size) (hnews : ∀ j u, news[j]? = some u → w.cell? (ad.add j) = some u) (h1 : ∀ u ∈ news, u.oneCell' = true)
    (h63 : n + m ≤ maxLen) (hbytes : (n + m) * bytes ≤ 140737488355328) (hbase : base ≤ w.heap.size)
    (h : ∀ v' w', w'.ownsRow base e size v' (n + m) (xs ++ news) → w.grownBy w' v.ownBlock → (v'.ownBlock = v.ownBlock ∨ v'.ownBlock = some w.heap.size) → K (a.put o.dst v') w') :
    if Region.wanted o (yielded ops a.tmps) = true then Oper.wp P o a w K Q else E := by
  have hw : Region.wanted o (yielded ops a.tmps) = true := by simp [Region.wanted, hgd]
  rw [if_pos hw]
  obtain ⟨v', w', hr, h2, h3, _, h5⟩ := run_append_own_at (P := P) w base t o.type e i z size bytes ht hi hz hsize hby hzs hsz v n xs hown ad m c news hl hnews h1 h63 hbytes hbase
  unfold Oper.wp execOp
  simp only [ho, resolve, invoke, builtin, Sem.run_bind, Sem.run_pure, Result.andThen_ok, List.map_toArray, List.map_cons, List.map_nil, hs, hx, hr]
  exact h v' w' h2 h3 h5

theorem acell_one {L : Acs} : ∀ u ∈ L.flatMap acell, u.oneCell' = true := by
  intro u hu
  rw [List.mem_flatMap] at hu
  obtain ⟨x, _, hx⟩ := hu
  simp [acell] at hx
  rcases hx with rfl | rfl | rfl | rfl | rfl | rfl <;> rfl

theorem flat_take (L : Acs) (i : Nat) : (L.take i).flatMap acell = (L.flatMap acell).take (i * 6) := by
  induction L generalizing i with
  | nil => simp
  | cons x L ih =>
    cases i with
    | zero => simp
    | succ i =>
      rw [List.take_succ_cons, List.flatMap_cons, List.flatMap_cons, ih, show (i + 1) * 6 = (acell x).length + i * 6 from by rw [acell_length]; omega, List.take_length_add_append]
theorem flat_drop (L : Acs) (i : Nat) : (L.drop i).flatMap acell = (L.flatMap acell).drop (i * 6) := by
  induction L generalizing i with
  | nil => simp
  | cons x L ih =>
    cases i with
    | zero => simp
    | succ i =>
      rw [List.drop_succ_cons, List.flatMap_cons, ih, show (i + 1) * 6 = (acell x).length + i * 6 from by rw [acell_length]; omega, List.drop_length_add_append]
theorem news_take {w : World} {B g cap : Nat} {L : Acs} (h : w.ownsRow B 93 6 (.slice (some ⟨g, 0, none⟩) L.length cap) L.length (L.flatMap acell)) (i : Nat) :
    ∀ j u, ((L.take i).flatMap acell)[j]? = some u → w.cell? ((⟨g, 0, none⟩ : Addr).add j) = some u := by
  intro j u hj
  rw [flat_take, List.getElem?_take] at hj
  split at hj
  · have := row_cell h rfl hj
    simpa [WideShapes.add_plain] using this
  · cases hj
theorem news_drop {w : World} {B g cap : Nat} {L : Acs} (h : w.ownsRow B 93 6 (.slice (some ⟨g, 0, none⟩) L.length cap) L.length (L.flatMap acell)) (i : Nat) :
    ∀ j u, ((L.drop i).flatMap acell)[j]? = some u → w.cell? ((⟨g, i * 6, none⟩ : Addr).add j) = some u := by
  intro j u hj
  rw [flat_drop, List.getElem?_drop] at hj
  have := row_cell h rfl hj
  simpa [WideShapes.add_plain] using this
theorem own_slice {w : World} {base : Nat} {e : TypeId} {size : Nat} {v : Value} {n : Nat} {xs : List Value} (h : w.ownsRow base e size v n xs) : ∃ a m c, v = .slice a m c := by
  rcases h.2 with ⟨rfl, _⟩ | ⟨g, cap, cur, rfl, _⟩
  · exact ⟨_, _, _, rfl⟩
  · exact ⟨_, _, _, rfl⟩
theorem own_mono {w : World} {base base' : Nat} {e : TypeId} {size : Nat} {v : Value} {n : Nat} {xs : List Value} (h : w.ownsRow base e size v n xs) (hb : base' ≤ base) : w.ownsRow base' e size v n xs := by
  obtain ⟨h1, h2⟩ := h
  refine ⟨h1, ?_⟩
  rcases h2 with h2 | ⟨g, cap, cur, hv, hg, r⟩
  · exact .inl h2
  · exact .inr ⟨g, cap, cur, hv, by omega, r⟩

theorem grown_below {a b c : World} {r : Option Nat} (h1 : a.grownBy b none) (h2 : b.grownBy c r) (hr : ∀ k, r = some k → a.heap.size ≤ k) : Below a.heap.size a c :=
  ⟨h2.os.trans h1.os, h2.tape.trans h1.tape, h2.output.trans h1.output, Nat.le_trans h1.size h2.size, fun k hk => by
    rw [h2.block k (Nat.lt_of_lt_of_le hk h1.size) (fun e => by have := hr k e.symm; omega), h1.block k hk (by simp)]⟩

theorem erase_flat (L : Acs) (i : Nat) : (L.take i).flatMap acell ++ (L.drop (i + 1)).flatMap acell = (L.eraseIdx i).flatMap acell := by
  rw [← List.flatMap_append, List.eraseIdx_eq_take_drop_succ]

theorem without_end {w w3 : World} {e h t i n : Nat} {la : Int} {ns body : Option Addr} {wn : ByteArray} {L : Acs} {v2 : Value} (hn : n = (L.eraseIdx i).length) (h2 : Has w h [.pointer (some ⟨t, 0, none⟩), .pointer none] 75) (h3 : Has w t [.string wn, .int .i64 la, .pointer ns] 72)
    (hbW : Below (w.heap.size + 1) (w.alloc (.cells #[.pointer (some ⟨h, 0, none⟩), .int .i64 0, .pointer body] 79)).drew w3)
    (hown : w3.ownsRow (w.heap.size + 1) 93 6 v2 n ((L.eraseIdx i).flatMap acell)) :
    ElemAt ((w3.setCell ⟨w.heap.size, 2, none⟩ (.pointer (some ⟨w3.heap.size, 0, none⟩))).alloc (.cells #[v2, .slice none 0 0] 98)) w.heap.size w.heap.size wn (L.eraseIdx i) ∧
      Below w.heap.size w ((w3.setCell ⟨w.heap.size, 2, none⟩ (.pointer (some ⟨w3.heap.size, 0, none⟩))).alloc (.cells #[v2, .slice none 0 0] 98)) := by
  have hs3 := hbW.size
  simp at hs3
  have bw : Below w.heap.size w w3 := ((Below.refl _ _).alloc (Nat.le_refl _) _).drew.trans (hbW.mono (by omega))
  have hset : (w3.setCell ⟨w.heap.size, 2, none⟩ (.pointer (some ⟨w3.heap.size, 0, none⟩))).heap.size = w3.heap.size := by simp [World.setCell]
  have G1 : Has w3 w.heap.size [.pointer (some ⟨h, 0, none⟩), .int .i64 0, .pointer body] 79 := (Has.new (w := w) _ _ rfl).drew.below hbW (by omega)
  have hl2 := h2.lt
  have hl3 := h3.lt
  subst hn
  refine ⟨⟨h, t, la, ns, some ⟨w3.heap.size, 0, none⟩, (G1.set 2 _).alloc _, ((h2.later bw).other (by dsimp only; omega) _).alloc _, ((h3.later bw).other (by dsimp only; omega) _).alloc _, Nat.le_refl _, .inr ⟨w3.heap.size, v2, rfl, by omega, Has.new _ _ hset.symm, ?_⟩⟩, (bw.setCell (Nat.le_refl _) _).alloc (by rw [hset]; omega) _⟩
  refine own_mono (base := w.heap.size + 1) (ownsRow_kept hown (fun g hg => ?_)) (by omega)
  have := ownsRow_block hown hg
  rw [Below.heap_alloc _ _ _ (by rw [hset]; exact this.2), Below.heap_setCell _ _ _ _ (by dsimp only; omega)]

set_option maxRecDepth 100000 in
set_option maxHeartbeats 1000000 in
theorem without_any (B e : Nat) (wn : ByteArray) (L : Acs) (i : Nat) (w : World) (hE : ElemAt w B e wn L) (hi : i < L.length) (hm : L.length ≤ 10000) :
    Calls Try.prog 43 #[.pointer (some ⟨e, 0, none⟩), .int .i64 i] w fun r w' => ∃ e', r = .returned (.pointer (some ⟨e', 0, none⟩)) ∧ ElemAt w' w.heap.size e' wn (L.eraseIdx i) ∧ Below w.heap.size w w' := by
  have hE0 := hE
  obtain ⟨h, t, la, ns, body, h1, h2, h3, h4, h5⟩ := hE
  have c0 := h1.cell 0 rfl
  have c1 := h1.cell 1 rfl
  have c2 := h1.cell 2 rfl
  have hel := h1.lt
  clear h5
  have hb1 : Below w.heap.size w (w.alloc (.cells #[.pointer (some ⟨h, 0, none⟩), .int .i64 0, .pointer body] 79)) := (Below.refl _ _).alloc (Nat.le_refl _) _
  have hE1 := hE0.later hb1
  have HE1 : Hid (ElemAt (w.alloc (.cells #[.pointer (some ⟨h, 0, none⟩), .int .i64 0, .pointer body] 79)).drew B e wn L) := hE1.later ((Below.refl _ _).drew)
  obtain ⟨v, hv, hc⟩ := attrs_any B e wn L _ hE1
  rcases hv.2 with ⟨rfl, hn⟩ | ⟨g, cap, cur, hvv, _, _, hcap, hcapm, _⟩
  · omega
  subst hvv
  have Hv : Hid ((w.alloc (.cells #[.pointer (some ⟨h, 0, none⟩), .int .i64 0, .pointer body] 79)).drew.ownsRow B 93 6 (.slice (some ⟨g, 0, none⟩) L.length cap) L.length (L.flatMap acell)) := hv
  have hgl := (ownsRow_block hv rfl).2
  clear hv hE0 hE1
  obtain ⟨i0, hi0, hz0, hz1, hz2⟩ := info_parts info93
  unfold maxLen at hcapm
  have f1 : i ≤ cap := by omega
  have f2 : IntKind.i64.wrap ((i : Int) + 1) = (i : Int) + 1 := by rw [IntKind.wrap_i64]; omega
  have f3 : ((i : Int) + 1).toNat = i + 1 := by omega
  have f4 : i + 1 ≤ L.length := by omega
  have f5 : i + 1 ≤ cap := by omega
  have f6 : (i : Int) + 1 ≤ (L.length : Int) := by omega
  have f7 : (0 : Int) ≤ (i : Int) + 1 := by omega
  by_cases hcc : cap = i + 1
  · have hLi : L.length = i + 1 := by omega
    have Hd0 : Hid (L.drop (i + 1) = []) := List.drop_of_length_le (by omega)
    have HLi : Hid (L.length = cap) := hLi.trans hcc.symm
    clear hLi
    have hcc' : i + 1 = cap := hcc.symm
    clear hcc
    go_enter Try.func43, Try.ntmps43
    go_wp2_with (go_at_call 44; refine hc.mono ?_; rintro e w' ⟨rfl, rfl⟩)
    clear hc
    go_region_held3 (fun _ => True) (trivial) (first
      | (refine step_append_at _ rfl (.const (.slice none 0 0)) (.tmp 14) 88 rfl (w.heap.size + 1) 93 i0 z93 6 80 Try.underlying88 hi0 hz0 hz1 hz2 z93_size six_pos (.slice none 0 0) 0 [] rfl (World.ownsRow_nil _ _ _ _) ⟨g, 0, none⟩ i _ ((L.take i).flatMap acell) rfl (by rw [flat_length]; simp; omega) (by exact news_take Hv.out i) acell_one (by unfold maxLen; omega) (by omega) (by simp) ?_; intro v1 w2 hown1 hgrow1 hloc1; simp only [Nat.zero_add, List.nil_append] at hown1; have Hv2 := ownsRow_kept Hv.out (fun k hk => hgrow1.block k (ownsRow_block Hv.out hk).2 (by simp [Value.ownBlock])))
      | (refine step_append_at _ rfl (.tmp 15) (.tmp 19) 88 rfl (w.heap.size + 1) 93 i0 z93 6 80 Try.underlying88 hi0 hz0 hz1 hz2 z93_size six_pos v1 i _ rfl hown1 ⟨g, 0, none⟩ 0 0 ((L.drop (i + 1)).flatMap acell) rfl (by rw [Hd0.out]; simp) (by rw [Hd0.out]; intro j u hj; simp at hj) acell_one (by unfold maxLen; omega) (by omega) (by have := hgrow1.size; simp at this; omega) ?_; intro v2 w3 hown2 hgrow2 hloc2; obtain ⟨a2, n2, cp2, rfl⟩ := own_slice hown2; have hbW := grown_below hgrow1 hgrow2 (fun k hk => by have := (ownsRow_block hown1 hk).1; simp; omega); have hc48 := content_any B e wn L w3 (HE1.out.later hbW); have G1 : Has w3 w.heap.size [.pointer (some ⟨h, 0, none⟩), .int .i64 0, .pointer body] 79 := (Has.new (w := w) _ _ rfl).drew.later hbW; have e0 := G1.cell 2 rfl; have e1 := G1.frozen 2; have hsz3 := G1.lt)
      | (go_at_call 48; refine hc48.mono ?_; rintro e w' ⟨rfl, hw48⟩; obtain rfl := hw48.symm))
    go_wp2
    go_ret
    rw [erase_flat] at hown2
    have hfin := without_end (e := e) (i := i) (L := L) (by have := HLi.out; rw [List.length_eraseIdx]; split <;> omega) h2 h3 (by simpa using hbW) hown2
    exact ⟨w.heap.size, rfl, hfin.1, hfin.2⟩
  · go_enter Try.func43, Try.ntmps43
    go_wp2_with (go_at_call 44; refine hc.mono ?_; rintro e w' ⟨rfl, rfl⟩)
    clear hc
    go_region_held3 (fun _ => True) (trivial) (first
      | (refine step_append_at _ rfl (.const (.slice none 0 0)) (.tmp 14) 88 rfl (w.heap.size + 1) 93 i0 z93 6 80 Try.underlying88 hi0 hz0 hz1 hz2 z93_size six_pos (.slice none 0 0) 0 [] rfl (World.ownsRow_nil _ _ _ _) ⟨g, 0, none⟩ i _ ((L.take i).flatMap acell) rfl (by rw [flat_length]; simp; omega) (by exact news_take Hv.out i) acell_one (by unfold maxLen; omega) (by omega) (by simp) ?_; intro v1 w2 hown1 hgrow1 hloc1; simp only [Nat.zero_add, List.nil_append] at hown1; have Hv2 := ownsRow_kept Hv.out (fun k hk => hgrow1.block k (ownsRow_block Hv.out hk).2 (by simp [Value.ownBlock])))
      | (refine step_append_at _ rfl (.tmp 15) (.tmp 19) 88 rfl (w.heap.size + 1) 93 i0 z93 6 80 Try.underlying88 hi0 hz0 hz1 hz2 z93_size six_pos v1 i _ rfl hown1 ⟨g, (i + 1) * 6, none⟩ (L.length - (i + 1)) (cap - (i + 1)) ((L.drop (i + 1)).flatMap acell) rfl (by rw [flat_length]; simp) (by exact news_drop Hv2 (i + 1)) acell_one (by unfold maxLen; omega) (by omega) (by have := hgrow1.size; simp at this; omega) ?_; intro v2 w3 hown2 hgrow2 hloc2; obtain ⟨a2, n2, cp2, rfl⟩ := own_slice hown2; have hbW := grown_below hgrow1 hgrow2 (fun k hk => by have := (ownsRow_block hown1 hk).1; simp; omega); have hc48 := content_any B e wn L w3 (HE1.out.later hbW); have G1 : Has w3 w.heap.size [.pointer (some ⟨h, 0, none⟩), .int .i64 0, .pointer body] 79 := (Has.new (w := w) _ _ rfl).drew.later hbW; have e0 := G1.cell 2 rfl; have e1 := G1.frozen 2; have hsz3 := G1.lt)
      | (go_at_call 48; refine hc48.mono ?_; rintro e w' ⟨rfl, hw48⟩; obtain rfl := hw48.symm))
    go_wp2
    go_ret
    rw [erase_flat] at hown2
    have hfin := without_end (e := e) (i := i) (L := L) (by rw [List.length_eraseIdx]; split <;> omega) h2 h3 (by simpa using hbW) hown2
    exact ⟨w.heap.size, rfl, hfin.1, hfin.2⟩

theorem zzwithout_any (B e : Nat) (wn : ByteArray) (L : Acs) (i : Nat) (w : World) (hE : ElemAt w B e wn L) (hi : i < L.length) (hm : L.length ≤ 10000) :
    Calls Try.prog 31 #[.pointer (some ⟨e, 0, none⟩), .int .i64 i] w fun r w' => ∃ e', r = .returned (.pointer (some ⟨e', 0, none⟩)) ∧ ElemAt w' w.heap.size e' wn (L.eraseIdx i) ∧ Below w.heap.size w w' := by
  have hc := without_any B e wn L i w hE hi hm
  clear hE hi hm
  go_enter Try.func31, Try.ntmps31
  go_wp2_with (go_at_call 43; refine hc.mono ?_; rintro e w' ⟨e', rfl, hx, hb⟩)
  go_ret
  exact ⟨e', rfl, hx, hb⟩

end Go.Proofs.Qxb6614379a
