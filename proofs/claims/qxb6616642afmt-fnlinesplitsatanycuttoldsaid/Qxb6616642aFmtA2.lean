import Derived.Test.Qxb6616642aFmtA1
namespace Go.Proofs.Qxb6616642aFmt
open Go.RowKit

theorem zzline_at (c : UInt8) (t : ByteArray) (n : Nat) (l : List UInt8) (w : World) (hlim : t.size ≤ 1048576) (hn : t.size = n) (hl : t.data.toList.map clean = l) :
    Calls Tryf.prog 21 #[.int .u8 c.toNat, .string t] w fun e w' => ∃ g cap, e = .returned (.tuple #[.slice (some ⟨g, 0, none⟩) (n + 3) cap, .bool true]) ∧ Bts w.heap.size (c :: l ++ [13, 10]) g cap w' ∧ Below w.heap.size w w' := by
  subst hn hl
  exact zzline_any c t w hlim

theorem part_lo (s : ByteArray) (k : Nat) (hk : k ≤ s.size) : (s.extract 0 k).size = k ∧ (s.extract 0 k).data.toList = s.data.toList.take k := by
  have e : (s.extract 0 k).data.toList = s.data.toList.take k := by
    rw [ByteArray.data_extract, Array.toList_extract]
    simp
  refine ⟨?_, e⟩
  have : (s.extract 0 k).data.toList.length = (s.extract 0 k).size := rfl
  rw [← this, e, List.length_take]
  have : s.data.toList.length = s.size := rfl
  omega

theorem append_cap (W : World) (v : Value) (a : Addr) (m c ty : Nat) : (Builtin.append_ #[22, 22] ty #[v, .slice (some a) m c]).run Tryf.prog W = (Builtin.append_ #[22, 22] 22 #[v, .slice (some a) m m]).run Tryf.prog W := rfl

theorem app_step (W : World) (B : Nat) (v : Value) (d x : List UInt8) (hown : W.ownsRow B 5 1 v d.length (Lib.byteCells d)) (a : Addr) (m : Nat) (hm : x.length = m)
    (hsrc : ∀ j u, (Lib.byteCells x)[j]? = some u → W.cell? (a.add j) = some u) (hlim : d.length + m ≤ 140737488355328) (hB : B ≤ W.heap.size) :
    ∃ v' W', (∀ ty c, (Builtin.append_ #[22, 22] ty #[v, .slice (some a) m c]).run Tryf.prog W = .ok v' W') ∧ W'.ownsRow B 5 1 v' (d ++ x).length (Lib.byteCells (d ++ x)) ∧ Below B W W' := by
  obtain ⟨i0, hi, hz0, hz1, hz2⟩ := info5'
  have hl : (Lib.byteCells x).length = m * 1 := by rw [Lib.byteCells_length, hm, Nat.mul_one]
  obtain ⟨v', W', hr, ho, hg, _⟩ := run_append_own (P := Tryf.prog) W B 22 22 5 i0 (.int .u8 0) 1 1 Tryf.underlying22 hi hz0 hz1 hz2 rfl (by omega) v d.length (Lib.byteCells d) hown a m m (Lib.byteCells x) hl hsrc (byteCells_one x) (by unfold maxLen; omega) (by omega) hB
  refine ⟨v', W', fun ty c => ?_, ?_, ?_⟩
  · rw [← hr]; exact append_cap W v a m c ty
  · rw [List.length_append, hm]
    have e : Lib.byteCells (d ++ x) = Lib.byteCells d ++ Lib.byteCells x := by simp [Lib.byteCells]
    rw [e]; exact ho
  · exact (Below.refl B W).grown hg hB (fun k hk => (hown.lt k hk).1)

theorem make_room (n : Nat) (hn : n ≤ 1048576) : ∃ M : Array Value, M.size = n + 3 ∧ ∀ W : World, (Instr.makeSlice 22 (.int .i64 0) (.int .i64 ((n : Int) + 3))).run Tryf.prog W = .ok (.slice (some ⟨W.heap.size, 0, none⟩) 0 (n + 3)) (W.alloc (.cells M 5)) := by
  obtain ⟨i0, hi, hz0, hz1, hz2⟩ := info5'
  refine ⟨madeCells (Value.int .u8 0).cells (((n : Int) + 3).toNat * i0.size), by rw [size_madeCells, hz1]; show _ * 1 = _; omega, fun W => ?_⟩
  have h := run_makeSlice (P := Tryf.prog) W 22 5 i0 (.int .u8 0) Tryf.underlying22 hi hz0 .i64 .i64 0 ((n : Int) + 3) (by omega) (by omega) (by rw [hz1]; omega) (by rw [hz2]; omega) (by omega)
  have e : ((n : Int) + 3).toNat = n + 3 := by omega
  rw [e] at h ⊢
  exact h

/-- The middle of a frame, as the source of an append. -/
theorem mid_src {B g cap B' : Nat} {c : UInt8} {l : List UInt8} {w w' : World} (h : Bts B (c :: l ++ [13, 10]) g cap w) (hb : Below B' w w') (hB : w.heap.size ≤ B') :
    ∀ j u, (Lib.byteCells l)[j]? = some u → w'.cell? ((⟨g, 1, none⟩ : Addr).add j) = some u := by
  intro j u hj
  have h' := h.below hb hB
  have hjl : j < l.length := by
    have := (List.getElem?_eq_some_iff.1 hj).1
    simpa [Lib.byteCells] using this
  rw [Lib.addr_add, Nat.add_comm 1 j, h'.cell (j + 1) (by simp; omega)]
  simp only [List.cons_append, List.getElem_cons_succ]
  rw [List.getElem_append_left hjl]
  simp [Lib.byteCells, hjl] at hj
  rw [hj]

theorem bts_of_owns {W : World} {B n : Nat} {v : Value} {F : List UInt8} (hF : F.length = n + 3) (h : W.ownsRow B 5 1 v (n + 3) (Lib.byteCells F)) :
    ∃ g cap, v = .slice (some ⟨g, 0, none⟩) (n + 3) cap ∧ Bts B F g cap W := by
  rcases h.2 with ⟨_, h0⟩ | ⟨g, cap, cur, hv, hB, hg, hnc, hcm, hcs, htk⟩
  · omega
  · refine ⟨g, cap, hv, hB, by omega, hcm, cur, hg, by omega, ?_⟩
    rw [hF]
    simpa using htk

theorem frcap' {B g cap : Nat} {c : UInt8} {l : List UInt8} {w : World} (h : Bts B (c :: l ++ [13, 10]) g cap w) : l.length + 3 ≤ cap ∧ cap ≤ 9223372036854775807 := by
  obtain ⟨_, h2, h3, _⟩ := h
  simp at h2
  exact ⟨by omega, h3⟩

/-- An append by its run. -/
theorem wpList_append_run {ops : Array Oper} {rest : List Oper} {o : Oper} {a : Act} {Q : Exit → Act → World → Prop} {W W' : World} {v' v u : Value} (hgd : o.guard = none) (s x : Operand)
    (ho : o.op = .call { callee := .builtin .append, args := #[s, x], argTypes := #[22, 22] }) (hs : a.eval s = v) (hx : a.eval x = u)
    (hr : ∀ ty, (Builtin.append_ #[22, 22] ty #[v, u]).run Tryf.prog W = .ok v' W') (h : wpList Tryf.prog ops Q rest (a.put o.dst v') W') : wpList Tryf.prog ops Q (o :: rest) a W := by
  refine wpList_plain hgd fun K hK => ?_
  unfold Oper.wp execOp
  simp only [ho, resolve, invoke, builtin, Sem.run_bind, Sem.run_pure, Result.andThen_ok, List.map_toArray, List.map_cons, List.map_nil, hs, hx, hr]
  exact hK _ _ h

set_option maxHeartbeats 1600000 in
set_option maxRecDepth 100000 in
theorem law7 (c : UInt8) (s : ByteArray) (x : Int) (w : World) (hs : s.size ≤ maxLen) :
    Calls Tryf.prog 7 #[.int .u8 c.toNat, .string s, .int .i64 x] w fun e w' => e = .returned (.bool true) ∧ Below w.heap.size w w' := by
  unfold maxLen at hs
  by_cases hbig : s.size ≤ 1048576
  · have hbig' : (s.size : Int) ≤ 1048576 := by omega
    by_cases hx : x < 0
    · go_enter Tryf.func7, Tryf.ntmps7
      go_wp2
      go_ret
      exact ⟨rfl, Below.refl _ _⟩
    · by_cases hx2 : (s.size : Int) < x
      · go_enter Tryf.func7, Tryf.ntmps7
        go_wp2
        go_ret
        exact ⟨rfl, Below.refl _ _⟩
      · obtain ⟨k, rfl⟩ : ∃ k : Nat, x = k := ⟨x.toNat, by omega⟩
        have hk : k ≤ s.size := by omega
        obtain ⟨l1, l2⟩ := part_lo s k hk
        obtain ⟨r1, r2⟩ := extract_toList s k
        have z2 := fun W => zzline_at c (s.extract 0 k) k ((s.data.toList.take k).map clean) W (by omega) l1 (by rw [l2])
        have z3 := fun W => zzline_at c (s.extract k s.size) (s.size - k) ((s.data.toList.drop k).map clean) W (by omega) r2 (by rw [r1])
        have Z2 := Hid.mk' z2
        have Z3 := Hid.mk' z3
        clear z2 z3 l1 l2 r1 r2
        go_enter Tryf.func7, Tryf.ntmps7
        go_wp2_with (first
          | (go_at_call 22; go_in)
          | (go_at_call_of 21 (Value.string s); refine (zzline_any c s _ hbig).mono ?_; rintro e w1 ⟨g1, cap1, rfl, hbt1, hb1⟩; refine Hid.out ?_))
        refine Hid.mk' ?_
        have HB1 := Hid.mk' hbt1
        have Hb1 := Hid.mk' hb1
        clear hbt1 hb1
        go_wp2_with (go_at_call 21; refine (Z2.out _).mono ?_; rintro e w2 ⟨g2, cap2, rfl, hbt2, hb2⟩; refine Hid.out ?_)
        refine Hid.mk' ?_
        have HB2 := Hid.mk' hbt2
        have Hb2 := Hid.mk' hb2
        clear hbt2 hb2
        go_wp2_with (go_at_call 21; refine (Z3.out _).mono ?_; rintro e w3 ⟨g3, cap3, rfl, hbt3, hb3⟩; refine Hid.out ?_)
        refine Hid.mk' ?_
        have hB1 := (HB1.out.below Hb2.out (Nat.le_refl _)).below hb3 (Nat.le_refl _)
        have hB2 := HB2.out.below hb3 (Nat.le_refl _)
        have q1 := hB1.cell 0 (by simp)
        have q2 := hB2.cell 0 (by simp)
        have q3 := hbt3.cell 0 (by simp)
        have q1' : w3.cell? ⟨g1, 0, none⟩ = some (.int .u8 c.toNat) := q1
        have q2' : w3.cell? ⟨g2, 0, none⟩ = some (.int .u8 c.toNat) := q2
        have q3' : w3.cell? ⟨g3, 0, none⟩ = some (.int .u8 c.toNat) := q3
        obtain ⟨M, hMs, hmk⟩ := make_room s.size hbig
        have HM := Hid.mk' hMs
        have H1 := Hid.mk' hB1
        have H2 := Hid.mk' hB2
        have H3 := Hid.mk' hbt3
        have Hb3 := Hid.mk' hb3
        have hdd : (s.size : Int) - k = ((s.size - k : Nat) : Int) := by omega
        clear hB1 hB2 hbt3 hb3 q1 q2 q3 hMs
        -- the four appends, ahead of the walk
        have own0 : ((w3.alloc (.cells M 5)).alloc (.cells #[.int .u8 c.toNat] 5)).ownsRow w3.heap.size 5 1 (.slice (some ⟨w3.heap.size, 0, none⟩) 0 (s.size + 3)) ([] : List UInt8).length (Lib.byteCells []) :=
          (World.ownsRow_made w3 M (s.size + 3) (Nat.le_refl _) (by unfold maxLen; omega) (by rw [HM.out, Nat.mul_one])).alloc _
        have hsrc0 : ∀ j u, (Lib.byteCells [c])[j]? = some u → ((w3.alloc (.cells M 5)).alloc (.cells #[.int .u8 c.toNat] 5)).cell? ((⟨w3.heap.size + 1, 0, none⟩ : Addr).add j) = some u := by
          intro j u hj
          have hg : ((w3.alloc (.cells M 5)).alloc (.cells #[.int .u8 c.toNat] 5)).heap[w3.heap.size + 1]? = some (.cells #[.int .u8 c.toNat] 5) := by
            have := heap_alloc_new (w3.alloc (.cells M 5)) (.cells #[.int .u8 c.toNat] 5)
            simpa using this
          rw [Lib.addr_add, Lib.cell_of_heap hg]
          simpa [Lib.byteCells] using hj
        obtain ⟨v1, W6, hr1, o1, b1⟩ := app_step _ _ _ [] [c] own0 ⟨w3.heap.size + 1, 0, none⟩ 1 rfl hsrc0 (by simp) (by simp; omega)
        have b6 : Below w3.heap.size w3 W6 := (((Below.refl _ w3).alloc (Nat.le_refl _) _).alloc (by simp) _).trans b1
        have hsz6 := b6.size
        obtain ⟨v2, W7, hr2, o2, b2⟩ := app_step W6 _ _ _ ((s.data.toList.take k).map clean) o1 ⟨g2, 1, none⟩ (1 + k - 1) (by rw [List.length_map, List.length_take]; show min k s.size = _; omega)
          (fun j u hj => mid_src H2.out b6 (Nat.le_refl _) j u hj) (by simp; omega) (by omega)
        have b7 := b6.trans b2
        have hsz7 := b7.size
        obtain ⟨v3, W8, hr3, o3, b3⟩ := app_step W7 _ _ _ ((s.data.toList.drop k).map clean) o2 ⟨g3, 1, none⟩ (1 + s.size - k - 1) (by rw [List.length_map, List.length_drop]; show s.size - k = _; omega)
          (fun j u hj => mid_src H3.out b7 (Nat.le_refl _) j u hj) (by simp; omega) (by omega)
        have b8 := b7.trans b3
        have hsz8 := b8.size
        have hsrc4 : ∀ j u, (Lib.byteCells [13, 10])[j]? = some u → (W8.alloc (.cells #[.int .u8 13, .int .u8 10] 5)).cell? ((⟨W8.heap.size, 0, none⟩ : Addr).add j) = some u := by
          intro j u hj
          have hg := heap_alloc_new W8 (.cells #[.int .u8 13, .int .u8 10] 5)
          rw [Lib.addr_add, Lib.cell_of_heap hg, Nat.zero_add]
          simpa [Lib.byteCells] using hj
        obtain ⟨v4, W9, hr4, o4, b4⟩ := app_step (W8.alloc (.cells #[.int .u8 13, .int .u8 10] 5)) _ _ _ [13, 10] (o3.alloc _) ⟨W8.heap.size, 0, none⟩ 2 rfl hsrc4 (by simp; omega) (by simp; omega)
        have b9 : Below w3.heap.size w3 W9 := (b8.alloc b8.size _).trans b4
        have hall : ([] ++ [c] ++ (s.data.toList.take k).map clean ++ (s.data.toList.drop k).map clean ++ [13, 10] : List UInt8) = c :: s.data.toList.map clean ++ [13, 10] := by
          rw [List.append_assoc ([] ++ [c]), ← List.map_append, List.take_append_drop]
          rfl
        rw [hall] at o4
        have hlF : (c :: s.data.toList.map clean ++ [13, 10]).length = s.size + 3 := by simp
        rw [hlF] at o4
        obtain ⟨gj, capj, hv4, hBj⟩ := bts_of_owns hlF o4
        subst hv4
        have HJ := Hid.mk' hBj
        have H19 := Hid.mk' (H1.out.below b9 (Nat.le_refl _))
        have Hb9 := Hid.mk' b9
        have HL := Hid.mk' hlF
        have c1 : k + 3 ≤ cap2 ∧ cap2 ≤ 9223372036854775807 := by
          have := frcap' HB2.out
          simp only [List.length_map, List.length_take] at this
          have e : s.data.toList.length = s.size := rfl
          omega
        have c2 : s.size - k + 3 ≤ cap3 ∧ cap3 ≤ 9223372036854775807 := by
          have := frcap' H3.out
          simp only [List.length_map, List.length_drop] at this
          have e : s.data.toList.length = s.size := rfl
          omega
        obtain ⟨c11, c12⟩ := c1
        obtain ⟨c21, c22⟩ := c2
        have HR1 := Hid.mk' (fun ty => hr1 ty 1)
        have HR2 := Hid.mk' hr2
        have HR3 := Hid.mk' hr3
        have HR4 := Hid.mk' (fun ty => hr4 ty 2)
        clear hr1 hr2 hr3 hr4 own0 hsrc0 o1 b1 b6 hsz6 o2 b2 b7 hsz7 o3 b3 b8 hsz8 hsrc4 o4 b4 b9 hall hlF hBj
        go_wp2_with (at_builtin; refine wpList_append_run rfl _ _ rfl rfl rfl HR1.out ?_; refine Hid.out ?_)
        refine Hid.mk' ?_
        go_wp2_with (at_builtin; refine wpList_append_run rfl _ _ rfl rfl rfl (fun ty => HR2.out ty _) ?_; refine Hid.out ?_)
        refine Hid.mk' ?_
        go_wp2_with (at_builtin; refine wpList_append_run rfl _ _ rfl rfl rfl (fun ty => HR3.out ty _) ?_; refine Hid.out ?_)
        refine Hid.mk' ?_
        go_wp2_with (at_builtin; refine wpList_append_run rfl _ _ rfl rfl rfl HR4.out ?_; refine Hid.out ?_)
        refine Hid.mk' ?_
        go_wp2_with (go_at_call 13; refine (zzeq_true g1 gj (s.size + 3) cap1 capj _ W9 HL.out (by omega) H19.out.cell HJ.out.cell).mono ?_; rintro e w10 ⟨rfl, m, rfl⟩)
        go_ret
        refine ⟨rfl, Hb1.out.trans ?_⟩
        have s1 := Hb1.out.size
        have s2 := Hb2.out.size
        have h5 := ((Hb2.out.mono s1).trans (Hb3.out.mono (Nat.le_trans s1 s2))).trans (Hb9.out.mono (Nat.le_trans (Nat.le_trans s1 s2) Hb3.out.size))
        exact ⟨h5.os, h5.tape, h5.output, h5.size, h5.block⟩
  · have hbig' : (1048576 : Int) < s.size := by omega
    go_enter Tryf.func7, Tryf.ntmps7
    go_wp2
    go_ret
    exact ⟨rfl, Below.refl _ _⟩
end Go.Proofs.Qxb6616642aFmt
