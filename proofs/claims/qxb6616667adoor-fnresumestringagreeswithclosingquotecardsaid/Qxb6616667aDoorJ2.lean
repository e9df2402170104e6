import Derived.Test.Qxb6616667aDoorJ1
namespace Go.Proofs.Qxb6616667aDoor
open Go.RowKit

theorem strM_pos : ∀ (t : List UInt8) (l : Bool) (h : Nat) (sl : Bool) (sh i : Nat), (strM t l h sl sh i).ok = true → (strM t l h sl sh i).more = false → i < (strM t l h sl sh i).pos ∧ (strM t l h sl sh i).pos ≤ i + t.length
  | [], l, h, sl, sh, i, _, hm => by simp [strM] at hm
  | c :: t, l, h, sl, sh, i, hk, hm => by
    rw [List.length_cons]
    rw [strM] at hk hm ⊢
    split at hk
    · rename_i e1
      rw [if_pos e1] at hm ⊢
      split at hk
      · rename_i e2
        rw [if_pos e2] at hm ⊢
        have := strM_pos t _ _ _ _ _ hk hm
        omega
      · rename_i e2
        rw [if_neg e2] at hm ⊢
        split at hk
        · rename_i e3
          rw [if_pos e3] at hm ⊢
          have := strM_pos t _ _ _ _ _ hk hm
          omega
        · cases hk
    · rename_i e1
      rw [if_neg e1] at hm ⊢
      split at hk
      · rename_i e2
        rw [if_pos e2] at hm ⊢
        split at hk
        · rename_i e3
          rw [if_pos e3] at hm ⊢
          have := strM_pos t _ _ _ _ _ hk hm
          omega
        · cases hk
      · rename_i e2
        rw [if_neg e2] at hm ⊢
        split at hk
        · rename_i e3
          rw [if_pos e3]
          simp only
          omega
        · rename_i e3
          rw [if_neg e3] at hm ⊢
          split at hk
          · rename_i e4
            rw [if_pos e4] at hm ⊢
            have := strM_pos t _ _ _ _ _ hk hm
            omega
          · rename_i e4
            rw [if_neg e4] at hm ⊢
            split at hk
            · cases hk
            · rename_i e5
              rw [if_neg e5] at hm ⊢
              have := strM_pos t _ _ _ _ _ hk hm
              omega

/-- What the law's last lines compare. -/
theorem last_facts (d : List UInt8) (l : Bool) (h num : Nat) (lit : ByteArray) (A : Ans) (hlh : l = true → h = 0) (hA : strA d l h num lit = A) (hk : A.ok = true) (s : Nat) (hs1 : s = if l = true then 1 else h) (hs : s ≤ d.length) :
    (A.cut = sString ∧ cqM (d.drop s) s = (none, A.l)) ∨ (A.cut = ByteArray.empty ∧ cqM (d.drop s) s = (some (A.n - 1), false) ∧ 1 ≤ A.n ∧ A.n ≤ d.length) := by
  subst hA
  simp only [strA] at hk ⊢
  have hc := str_close d l h hlh hk (by rw [← hs1]; exact hs)
  rw [← hs1] at hc
  rw [hc]
  cases hm : (strM d l h l h 0).more with
  | true => exact Or.inl ⟨rfl, rfl⟩
  | false =>
    have := strM_pos d l h l h 0 hk hm
    exact Or.inr ⟨rfl, rfl, by omega, by omega⟩

theorem not_sString {s : ByteArray} (h : ¬ s = sString) : (s.toList == [97, 32, 115, 116, 114, 105, 110, 103]) = false := toList_ne (l := [97, 32, 115, 116, 114, 105, 110, 103]) h

theorem TabB.mono {B B' : Nat} {w : World} (h : TabB B w) (hB : B ≤ B') : TabB B' w := ⟨Nat.lt_of_lt_of_le h.1 hB, h.2⟩

set_option maxHeartbeats 1600000 in
set_option maxRecDepth 100000 in
theorem law_any (cut : ByteArray) (l : Bool) (h num : Int) (lit : ByteArray) (a0 : Option Addr) (n cap : Nat) (d : List UInt8) (w : World) (hIn : Came w a0 n cap d) (hT : Tab w) :
    Calls Tryd.prog 4 #[.string cut, .bool l, .int .i64 h, .int .i64 num, .string lit, .slice a0 n cap] w fun e w' => e = .returned (.bool true) ∧ Below w.heap.size w w' := by
  obtain ⟨rfl, hIn⟩ := hIn
  have HIn := Hid.mk' hIn
  have HT := Hid.mk' hT
  clear hIn hT
  have hZB := Hid.mk' (zzBytes_sum cut l h num lit a0 d.length cap w)
  have hRe := Hid.mk' (reach_any cut l h num lit w)
  go_enter Tryd.func4, Tryd.ntmps4
  go_upto_if 39 with (go_at_call 11; refine hZB.out.mono ?_; rintro e w' ⟨b1, rfl, hw1, hz1⟩; replace hw1 := hw1.symm; subst hw1)
  cases b1 with
  | false =>
    go_wp2
    go_ret
    exact ⟨rfl, Below.refl _ _⟩
  | true =>
    have hs := hz1 rfl
    clear hz1 hZB
    go_upto_if 64 with (go_at_call 6; refine hRe.out.mono ?_; rintro e w' ⟨b2, rfl, hw2, hz2⟩; replace hw2 := hw2.symm; subst hw2)
    cases b2 with
    | false =>
      go_wp2
      go_ret
      exact ⟨rfl, Below.refl _ _⟩
    | true =>
      obtain ⟨H, N, rfl, rfl, hr⟩ := hz2 rfl
      have Hr := Hid.mk' hr
      clear hr hz2 hRe
      go_upto_region 11 with fail
      go_cut [66] (fun v wx => wx = w ∧ v = .bool a0.isSome)
      case first =>
        cases a0 with
        | none =>
          have hne : ∀ W, (binOp .neq 22 (.slice none d.length cap) (.slice none 0 0)).run Tryd.prog W = .ok (.bool false) W := fun W => by first | rfl | (go_simp; rfl)
          go_wp2_with fail
          go_meet
          exact ⟨rfl, rfl⟩
        | some ad =>
          have hne : ∀ W, (binOp .neq 22 (.slice (some ad) d.length cap) (.slice none 0 0)).run Tryd.prog W = .ok (.bool true) W := fun W => by first | rfl | (go_simp; rfl)
          go_wp2_with fail
          go_meet
          exact ⟨rfl, rfl⟩
      obtain ⟨hwc, rfl⟩ := hcut
      replace hwc := hwc.symm
      subst hwc
      go_upto_if 66 with fail
      go_cut [5, 13] (fun v5 _ wx => ∃ a : Option Addr, v5 = .slice a d.length d.length ∧ Below w.heap.size w wx ∧ Hid (Own a d ∧ Chk wx.heap.size wx a d))
      case first =>
        rcases HIn.out with ⟨rfl, hn, rfl⟩ | ⟨ad, rfl, hcells⟩
        · have hd : d = [] := List.length_eq_zero_iff.1 hn
          subst hd
          go_wp2_with fail
          go_meet
          exact ⟨none, rfl, Below.refl _ _, Or.inl ⟨rfl, rfl⟩, fun j hj => absurd hj (Nat.not_lt_zero j)⟩
        · obtain ⟨i5, hi5, hz5, hsz5, hby5⟩ : ∃ i : TypeInfo, Tryd.prog.info? 5 = some i ∧ i.zero = some (.int .u8 0) ∧ i.size = 1 ∧ i.bytes = 1 := ⟨_, rfl, rfl, rfl, rfl⟩
          have hmk := fun W => run_makeSlice (P := Tryd.prog) W 22 5 i5 (.int .u8 0) Tryd.underlying22 hi5 hz5 .i64 .i64 (d.length : Int) (d.length : Int) (by omega) (Int.le_refl _) (by rw [hsz5]; omega) (by rw [hby5]; omega) (by omega)
          have hmk2 : ∀ W : World, (Instr.makeSlice 22 (.int .i64 (d.length : Int)) (.int .i64 (d.length : Int))).run Tryd.prog W = .ok (.slice (some ⟨W.heap.size, 0, none⟩) d.length d.length) (W.alloc (.cells (madeCells (Value.int .u8 0).cells (d.length * 1)) 5)) := fun W => by
            have := hmk W
            rw [hsz5, Int.toNat_natCast] at this
            exact this
          clear hmk
          have hZ : (madeCells (Value.int .u8 0).cells (d.length * 1)).size = d.length := by rw [size_madeCells, Nat.mul_one]
          generalize madeCells (Value.int .u8 0).cells (d.length * 1) = Z at hmk2 hZ
          have hcp : ∀ ty, (Builtin.copy_ #[22, 22] ty #[.slice (some ⟨w.heap.size, 0, none⟩) d.length d.length, .slice (some ad) d.length cap]).run Tryd.prog (w.alloc (.cells Z 5)) = .ok (goInt (d.map fun b => Value.int .u8 b.toNat).length) ((w.alloc (.cells Z 5)).setCells w.heap.size 0 (d.map fun b => .int .u8 b.toNat)) := fun ty =>
            run_copy_cells (P := Tryd.prog) (w.alloc (.cells Z 5)) 22 22 ty 5 w.heap.size 0 d.length d.length ad d.length cap (d.map fun b => Value.int .u8 b.toNat) Tryd.underlying22 (by rw [hi5]; exact congrArg some hsz5) (by rw [List.length_map]; exact (Nat.min_self _).symm)
              (by
                intro j v hj
                obtain ⟨hj1, hj2⟩ := List.getElem?_eq_some_iff.1 hj
                rw [List.length_map] at hj1
                rw [List.getElem_map] at hj2
                have hc := hcells j hj1
                rw [← hj2, World.cell?_of_block (w := w) (Below.heap_alloc w _ _ (World.block_lt_of_cell? w _ hc))]
                exact hc)
              (by intro j hj; rw [List.length_map] at hj; simp [hZ, hj])
              (by intro j hj; simp)
              (by intro v hv; rw [List.mem_map] at hv; obtain ⟨b, _, rfl⟩ := hv; rfl)
          obtain ⟨k1, k2, k3⟩ := copied w Z d hZ
          generalize (w.alloc (.cells Z 5)).setCells w.heap.size 0 (d.map fun b => .int .u8 b.toNat) = W2 at hcp k1 k2 k3
          have HK3 := Hid.mk' k3
          clear k3 hcells hZ
          go_wp2_with fail
          go_meet
          exact ⟨some ⟨w.heap.size, 0, none⟩, rfl, k1, Or.inr ⟨_, rfl⟩, fun j hj => ⟨w.heap.size, k2, rfl, HK3.out j hj⟩⟩
      obtain ⟨a, rfl, hbx, hOC⟩ := hcut
      clear HIn
      have hm : d.length ≤ 1048576 := by omega
      have hM := model_any a d d.length cut l H N lit wc hOC.out.2.chunk hm Hr.out
      have hR := fun (B : Nat) (w8 : World) hS hC hT => zzresume_any B a d d.length cut l H N lit w8 hS hC hT hm (Nat.le_refl _) (by omega) Hr.out
      have hTc : Hid (TabB wc.heap.size wc) := Hid.mk' (by
        have h1 := TabB.below (w := w) (B := w.heap.size) ⟨HT.out.1, HT.out⟩ hbx
        exact ⟨h1.2.1, h1.2⟩)
      generalize hA : resA cut l H N lit d = A at hM hR
      have HA := Hid.mk' hA
      clear hA
      obtain ⟨n, ok, c1, l1, h1, num1, lit1⟩ := A
      simp only [Ans.val7] at hM
      simp only [Ans.val, Ans.after] at hR
      replace hM := Hid.mk' hM
      replace hR := Hid.mk' hR
      go_upto_if 141 with (first
        | (go_at_call 7; refine hM.out.mono ?_; rintro e w7 ⟨rfl, hb7⟩)
        | (go_at_call 8; refine (newScan_any cut l H N lit w7).mono ?_; rintro e w8 ⟨rfl, hb8, hS8⟩; replace hS8 := Hid.mk' hS8)
        | (go_at_call 9; refine (hR.out w7.heap.size w8 hS8.out (((hOC.out.2.below hb7).mono hb7.size).below hb8) (((hTc.out.below hb7).mono hb7.size).below hb8)).mono ?_; rintro e w9 ⟨rfl, hb9, hS9⟩; replace hS9 := Hid.mk' hS9)
        | (go_at_call 10; refine (scanState_any w7.heap.size c1 l1 h1 num1 lit1 w9 hS9.out).mono ?_; rintro e w10 ⟨rfl, hb10⟩))
      have s7 : w.heap.size ≤ w7.heap.size := Nat.le_trans hbx.size hb7.size
      have s8 : w7.heap.size ≤ w8.heap.size := hb8.size
      have s9 : w8.heap.size ≤ w9.heap.size := hb9.size
      have hbc : Below wc.heap.size wc w10 := hb7.trans ((hb8.mono hb7.size).trans ((hb9.mono hb7.size).trans (hb10.mono (Nat.le_trans hb7.size (Nat.le_trans s8 s9)))))
      have hbw : Below w.heap.size w w10 := hbx.trans (hbc.mono hbx.size)
      have hX : Hid (Own a d ∧ Chunk w10 a d ∧ Tab w10) := Hid.mk' ⟨hOC.out.1, (hOC.out.2.below hbc).chunk, (hTc.out.below hbc).2⟩
      clear HT hOC hTc hM hR hS8 hS9 hbx hb7 hb8 hb9 hb10 s7 s8 s9 hbc
      by_cases hc : cut = sString
      · subst hc
        have hA : strA d l H N lit = ⟨n, ok, c1, l1, h1, num1, lit1⟩ := by rw [← HA.out]; unfold resA; rw [if_pos rfl]
        clear HA
        unfold sString
        cases ok with
        | false =>
          clear hA
          go_wp2_with fail
          go_ret
          exact ⟨rfl, hbw⟩
        | true =>
          have hlh := Hr.out.2.2.1
          have hH4 := Hr.out.2.1
          have HL := Hid.mk' (fun s hs1 hs => last_facts d l H N lit _ hlh hA rfl s hs1 hs)
          simp only at HL
          clear hA Hr
          cases l with
          | true =>
            obtain rfl : H = 0 := hlh rfl
            by_cases hs1 : 1 ≤ d.length
            · rcases HL.out 1 rfl hs1 with ⟨hc1, hq⟩ | ⟨hc1, hq, p1, p2⟩
              · have hZ := Hid.mk' (zzclose_any a d 1 w10 hX.out.1 hX.out.2.1 hX.out.2.2 hm hs1)
                simp only [hq, cqV, optZ] at hZ
                obtain rfl : c1 = ⟨#[97, 32, 115, 116, 114, 105, 110, 103]⟩ := hc1
                clear hq HL hX hlh
                go_wp2_with (go_at_call 12; refine hZ.out.mono ?_; rintro e w' ⟨rfl, hb'⟩)
                go_ret
                exact ⟨rfl, hbw.trans (hb'.mono hbw.size)⟩
              · have hZ := Hid.mk' (zzclose_any a d 1 w10 hX.out.1 hX.out.2.1 hX.out.2.2 hm hs1)
                obtain ⟨m, rfl⟩ : ∃ m, n = m + 1 := ⟨n - 1, by omega⟩
                simp only [hq, cqV, optZ, Nat.add_sub_cancel] at hZ
                obtain rfl : c1 = ⟨#[]⟩ := hc1
                clear hq HL hX hlh
                go_wp2_with (go_at_call 12; refine hZ.out.mono ?_; rintro e w' ⟨rfl, hb'⟩)
                go_ret
                exact ⟨rfl, hbw.trans (hb'.mono hbw.size)⟩
            · clear HL hX hlh
              go_wp2_with fail
              go_ret
              exact ⟨rfl, hbw⟩
          | false =>
            by_cases hs1 : H ≤ d.length
            · rcases HL.out H rfl hs1 with ⟨hc1, hq⟩ | ⟨hc1, hq, p1, p2⟩
              · have hZ := Hid.mk' (zzclose_any a d H w10 hX.out.1 hX.out.2.1 hX.out.2.2 hm hs1)
                simp only [hq, cqV, optZ] at hZ
                obtain rfl : c1 = ⟨#[97, 32, 115, 116, 114, 105, 110, 103]⟩ := hc1
                clear hq HL hX hlh
                go_wp2_with (go_at_call 12; refine hZ.out.mono ?_; rintro e w' ⟨rfl, hb'⟩)
                go_ret
                exact ⟨rfl, hbw.trans (hb'.mono hbw.size)⟩
              · have hZ := Hid.mk' (zzclose_any a d H w10 hX.out.1 hX.out.2.1 hX.out.2.2 hm hs1)
                obtain ⟨m, rfl⟩ : ∃ m, n = m + 1 := ⟨n - 1, by omega⟩
                simp only [hq, cqV, optZ, Nat.add_sub_cancel] at hZ
                obtain rfl : c1 = ⟨#[]⟩ := hc1
                clear hq HL hX hlh
                go_wp2_with (go_at_call 12; refine hZ.out.mono ?_; rintro e w' ⟨rfl, hb'⟩)
                go_ret
                exact ⟨rfl, hbw.trans (hb'.mono hbw.size)⟩
            · clear HL hX hlh
              go_wp2_with fail
              go_ret
              exact ⟨rfl, hbw⟩
      · have hcs : (cut.toList == [97, 32, 115, 116, 114, 105, 110, 103]) = false := not_sString hc
        clear hX HA Hr hc
        go_wp2_with fail
        go_ret
        exact ⟨rfl, hbw⟩
end Go.Proofs.Qxb6616667aDoor
