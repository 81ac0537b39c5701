import Derived.Test.Qxb6614028aHeld
namespace Go.Proofs.Qxb6614028a
open Go.RowKit

set_option maxHeartbeats 4000000 in
set_option maxRecDepth 100000 in
theorem main_any (v0 v1 : Value) (n0 n1 : Nat) (s0 s1 : List ByteArray) (nm : ByteArray) (k : Int) (w : World) (h0 : Strs w v0 n0 s0) (h1 : Strs w v1 n1 s1) (hnm : nm.size ≤ maxLen) :
    Calls Try.prog 3 #[v0, v1, .string nm, .int .i64 k] w fun e w' => e = .returned (.bool true) ∧ Below w.heap.size w w' := by
  obtain ⟨⟨a0, cap0, rfl⟩, l0, m0, z0, g0⟩ := id h0
  obtain ⟨⟨a1, cap1, rfl⟩, l1, m1, z1, g1⟩ := id h1
  have L0 : (n0 : Int) ≤ 9223372036854775807 := by unfold maxLen at m0; omega
  have L1 : (n1 : Int) ≤ 9223372036854775807 := by unfold maxLen at m1; omega
  have LN : (nm.size : Int) ≤ 9223372036854775807 := by unfold maxLen at hnm; omega
  have G0 : Hid (∀ i, i < n0 → ∃ x : Addr, (∀ w', (Instr.indexAt 22 (.slice a0 n0 cap0) (.int .i64 i)).run Try.prog w' = .ok (.pointer (some x)) w') ∧ x.block < w.heap.size ∧ w.cell? x = some (.string (nth s0 i))) := g0
  have G1 : Hid (∀ i, i < n1 → ∃ x : Addr, (∀ w', (Instr.indexAt 22 (.slice a1 n1 cap1) (.int .i64 i)).run Try.prog w' = .ok (.pointer (some x)) w') ∧ x.block < w.heap.size ∧ w.cell? x = some (.string (nth s1 i))) := g1
  have Z0 : Hid (∀ i, ((nth s0 i).size : Int) ≤ 9223372036854775807) := fun i => nth_size s0 i z0
  have Z1 : Hid (∀ i, ((nth s1 i).size : Int) ≤ 9223372036854775807) := fun i => nth_size s1 i z1
  clear g0 g1 z0 z1 l0 l1 m0 m1
  have H0 : Hid (Strs w (.slice a0 n0 cap0) n0 s0) := h0
  have H1 : Hid (Strs w (.slice a1 n1 cap1) n1 s1) := h1
  clear h0 h1
  by_cases hbig : (4096 : Int) < n0 ∨ (4096 : Int) < n1 ∨ (1048576 : Int) < nm.size
  · have hd : (decide ((4096 : Int) < n0) || decide ((4096 : Int) < n1) || decide ((1048576 : Int) < nm.size)) = true := by simp; omega
    go_enter Try.func3, Try.ntmps3
    go_wp2_with fail
    refine (bytes_any _ _ n0 n1 s0 s1 nm k _ H0.out H1.out hnm).mono ?_
    rintro e w1 ⟨he, hw⟩
    subst w1
    rcases he with he | he <;> subst he
    all_goals
      go_wp2
    all_goals
      go_ret
      exact ⟨rfl, Below.refl _ _⟩
  have b0 : (n0 : Int) ≤ 4096 := by omega
  have b1 : (n1 : Int) ≤ 4096 := by omega
  have b2 : (nm.size : Int) ≤ 1048576 := by omega
  clear hbig
  go_enter Try.func3, Try.ntmps3
  go_wp2_with fail
  refine (bytes_any _ _ n0 n1 s0 s1 nm k _ H0.out H1.out hnm).mono ?_
  rintro e w1 ⟨he, hw⟩
  subst w1
  rcases he with he | he <;> subst he
  case inr =>
    go_wp2
    go_ret
    exact ⟨rfl, Below.refl _ _⟩
  go_wp2
  go_loop [9, 10] (fun z i => ∃ (t : Nat) (q : Int), t ≤ n0 ∧ i = .int .i64 t ∧ z = .int .i64 q) (fun _ i => n0 - (intOf i).toNat)
  case atStart => exact ⟨0, _, Nat.zero_le _, rfl, rfl⟩
  case round =>
    obtain ⟨t, q, ht, rfl, rfl⟩ := hrel
    by_cases hlt : t < n0
    · obtain ⟨x, r, hx, hc⟩ := G0.out t hlt
      go_wp2
      all_goals first
        | (go_ret; exact ⟨rfl, Below.refl _ _⟩)
        | (go_round
           case rel => exact ⟨t + 1, _, by omega, by go_num, rfl⟩
           case measure => simp [intOf]; omega)
    go_wp2
    go_loop [9, 11] (fun z i => ∃ (t : Nat) (q : Int), t ≤ n1 ∧ i = .int .i64 t ∧ z = .int .i64 q) (fun _ i => n1 - (intOf i).toNat)
    case atStart => exact ⟨0, _, Nat.zero_le _, rfl, rfl⟩
    case round =>
      obtain ⟨t', q', ht', rfl, rfl⟩ := hrel
      by_cases hlt' : t' < n1
      · obtain ⟨x, r, hx, hc⟩ := G1.out t' hlt'
        go_wp2
        all_goals first
          | (go_ret; exact ⟨rfl, Below.refl _ _⟩)
          | (go_round
             case rel => exact ⟨t' + 1, _, by omega, by go_num, rfl⟩
             case measure => simp [intOf]; omega)
      by_cases k0 : k < 0
      · go_wp2
        go_ret
        exact ⟨rfl, Below.refl _ _⟩
      by_cases k1 : (n0 : Int) < k
      · go_wp2
        go_ret
        exact ⟨rfl, Below.refl _ _⟩
      obtain ⟨K, rfl⟩ := Int.eq_ofNat_of_zero_le (show 0 ≤ k by omega)
      have kn : K ≤ n0 := by omega
      -- THE THREE ROWS
      go_wp2_with fail
      clear k0 k1 hlt hlt'
      refine (fees_any _ _ n0 n1 s0 s1 0 n0 w H0.out H1.out (by omega) (by omega) (by omega) (by omega)).mono ?_
      rintro e w1 ⟨fsA, rfl, lenA, mapA, ownA, belA⟩
      have eA : ((n0 : Int) - 0).toNat = n0 := by omega
      rw [eA] at lenA ownA ⊢
      clear eA
      have szA := belA.size
      have HlA : Hid (fsA.length = n0) := lenA
      have HmA : Hid (fsA.map Prod.fst = (s0.take (n0 : Int).toNat).drop (0 : Int).toNat) := mapA
      clear lenA mapA
      go_wp2_with fail
      have belA1 := belA.alloc szA (.cells #[.string ⟨#[]⟩, .int .i32 0, .slice none 0 0, .map none, .slice (some ⟨w.heap.size, 0, none⟩) n0 n0, .slice none 0 0, .string ⟨#[]⟩] 29)
      have heldA : Held _ w1.heap.size w.heap.size n0 n0 fsA := ⟨Box.new w1 (.slice (some ⟨w.heap.size, 0, none⟩) n0 n0), HlA.out.symm, by omega, ownsRow_base (ownA.alloc _) (Nat.zero_le _)⟩
      generalize hWA : w1.alloc (.cells #[.string ⟨#[]⟩, .int .i32 0, .slice none 0 0, .map none, .slice (some ⟨w.heap.size, 0, none⟩) n0 n0, .slice none 0 0, .string ⟨#[]⟩] 29) = WA at heldA belA1 ⊢
      clear hWA ownA belA szA
      refine (fees_any _ _ n0 n1 s0 s1 0 K WA (H0.out.below belA1 (Nat.le_refl _)) (H1.out.below belA1 (Nat.le_refl _)) (by omega) (by omega) (by omega) (by omega)).mono ?_
      rintro e w2 ⟨fsB, rfl, lenB, mapB, ownB, belB⟩
      have eB : ((K : Int) - 0).toNat = K := by omega
      rw [eB] at lenB ownB ⊢
      clear eB
      have HlB : Hid (fsB.length = K) := lenB
      have HmB : Hid (fsB.map Prod.fst = (s0.take (K : Int).toNat).drop (0 : Int).toNat) := mapB
      clear lenB mapB
      have szB := belB.size
      have belW2 : Below w.heap.size w w2 := belA1.trans (belB.mono belA1.size)
      have heldA2 := heldA.below belB (Nat.le_refl _)
      clear heldA belA1 belB
      go_wp2_with fail
      have belB1 := belW2.alloc belW2.size (.cells #[.string ⟨#[]⟩, .int .i32 0, .slice none 0 0, .map none, .slice (some ⟨WA.heap.size, 0, none⟩) K K, .slice none 0 0, .string ⟨#[]⟩] 29)
      have belx := (Below.refl w2.heap.size w2).alloc (Nat.le_refl _) (.cells #[.string ⟨#[]⟩, .int .i32 0, .slice none 0 0, .map none, .slice (some ⟨WA.heap.size, 0, none⟩) K K, .slice none 0 0, .string ⟨#[]⟩] 29)
      have heldB : Held _ w2.heap.size WA.heap.size K K fsB := ⟨Box.new w2 (.slice (some ⟨WA.heap.size, 0, none⟩) K K), HlB.out.symm, by omega, ownsRow_base (ownB.alloc _) (Nat.zero_le _)⟩
      have heldA3 := heldA2.below belx (Nat.le_refl _)
      clear belx ownB belW2 szB heldA2
      generalize hWB : w2.alloc (.cells #[.string ⟨#[]⟩, .int .i32 0, .slice none 0 0, .map none, .slice (some ⟨WA.heap.size, 0, none⟩) K K, .slice none 0 0, .string ⟨#[]⟩] 29) = WB at heldA3 heldB belB1 ⊢
      clear hWB
      refine (fees_any _ _ n0 n1 s0 s1 K n0 WB (H0.out.below belB1 (Nat.le_refl _)) (H1.out.below belB1 (Nat.le_refl _)) (by omega) (by omega) (by omega) (by omega)).mono ?_
      rintro e w3 ⟨fsC, rfl, lenC, mapC, ownC, belC⟩
      obtain ⟨nC, hnC⟩ : ∃ nC, nC = ((n0 : Int) - K).toNat := ⟨_, rfl⟩
      rw [← hnC] at lenC ownC ⊢
      have HnC : Hid (nC = ((n0 : Int) - K).toNat) := hnC
      have nC4 : nC ≤ 4096 := by omega
      have HlC : Hid (fsC.length = nC) := lenC
      have HmC : Hid (fsC.map Prod.fst = (s0.take (n0 : Int).toNat).drop (K : Int).toNat) := mapC
      clear lenC mapC hnC
      have szC := belC.size
      have belW3 : Below w.heap.size w w3 := belB1.trans (belC.mono belB1.size)
      have heldA4 := heldA3.below belC (Nat.le_refl _)
      have heldB4 := heldB.below belC (Nat.le_refl _)
      clear heldA3 heldB belB1 belC
      -- THE ROW 'withFees': made behind the third contract
      have belC1 := belW3.alloc belW3.size (.cells #[.string ⟨#[]⟩, .int .i32 0, .slice none 0 0, .map none, .slice (some ⟨WB.heap.size, 0, none⟩) nC nC, .slice none 0 0, .string ⟨#[]⟩] 29)
      have belx := (Below.refl w3.heap.size w3).alloc (Nat.le_refl _) (.cells #[.string ⟨#[]⟩, .int .i32 0, .slice none 0 0, .map none, .slice (some ⟨WB.heap.size, 0, none⟩) nC nC, .slice none 0 0, .string ⟨#[]⟩] 29)
      have heldC : Held _ w3.heap.size WB.heap.size nC nC fsC := ⟨Box.new w3 (.slice (some ⟨WB.heap.size, 0, none⟩) nC nC), HlC.out.symm, by omega, ownsRow_base (ownC.alloc _) (Nat.zero_le _)⟩
      have heldA5 := heldA4.below belx (Nat.le_refl _)
      have heldB5 := heldB4.below belx (Nat.le_refl _)
      clear belx ownC belW3 szC heldA4 heldB4
      obtain ⟨WC, hWC⟩ : ∃ WC, WC = w3.alloc (.cells #[.string ⟨#[]⟩, .int .i32 0, .slice none 0 0, .map none, .slice (some ⟨WB.heap.size, 0, none⟩) nC nC, .slice none 0 0, .string ⟨#[]⟩] 29) := ⟨_, rfl⟩
      rw [← hWC] at heldA5 heldB5 heldC belC1
      have HWC : Hid (WC = w3.alloc (.cells #[.string ⟨#[]⟩, .int .i32 0, .slice none 0 0, .map none, .slice (some ⟨WB.heap.size, 0, none⟩) nC nC, .slice none 0 0, .string ⟨#[]⟩] 29)) := hWC
      clear hWC
      obtain ⟨i0, hi0, hz0, hz1, hz2⟩ := info_parts info34
      go_wp2_with (at_make; rw [← HWC.out]; refine wpList_make_own _ rfl _ _ 24 rfl WC.heap.size 34 i0 _ 5 Try.underlying24 hi0 hz0 hz1 _ _ _ (n0 + 1) rfl rfl (by omega) ?b2 ?b3 (Nat.le_refl _) ?_)
      case b2 => rw [hz2]; omega
      case b3 => unfold maxLen; omega
      intro w4 own4 grow4
      go_wp2
      have bel4 : Below WC.heap.size WC w4 := (Below.refl _ _).grown grow4 (Nat.le_refl _) (fun k h => by cases h)
      have HC1 : Hid (Below w.heap.size w WC) := belC1
      have sz0 : w.heap.size ≤ WC.heap.size := belC1.size
      clear belC1 grow4
      go_loopw [15, 16] (fun v i wr => ∃ (t : Nat) (fs : List (ByteArray × ByteArray)), t ≤ K ∧ i = .int .i64 t ∧ v = .slice (some ⟨WC.heap.size, 0, none⟩) t (n0 + 1) ∧ fs.length = t ∧ fs.map Prod.fst = s0.take t ∧
          wr.ownsRow WC.heap.size 34 5 (.slice (some ⟨WC.heap.size, 0, none⟩) t (n0 + 1)) t (feesCells fs) ∧ Below WC.heap.size WC wr) (fun _ i _ => (K - (intOf i)).toNat)
      case atStart => exact ⟨0, [], Nat.zero_le _, rfl, rfl, rfl, by simp, own4, bel4⟩
      case round =>
        obtain ⟨t3, fs3, ht3, rfl, rfl, hl3, hm3, own3, bel3⟩ := hrel
        have sz3 := bel3.size
        have HL3 : Hid (fs3.length = t3) := hl3
        have HM3 : Hid (fs3.map Prod.fst = s0.take t3) := hm3
        clear hl3 hm3 own4 bel4
        have belr : Below w.heap.size w wr := HC1.out.trans (bel3.mono sz0)
        by_cases hlt3 : t3 < K
        · go_wp2_with fail
          refine (feeAt_any _ _ n0 n1 s0 s1 t3 wr (H0.out.below belr (Nat.le_refl _)) (H1.out.below belr (Nat.le_refl _)) (by omega) (by omega)).mono ?_
          rintro e w' ⟨c, rfl, o, rfl⟩
          rw [Int.toNat_natCast]
          obtain ⟨f, hf⟩ : ∃ f, f = (nth s0 t3, c) := ⟨_, rfl⟩
          rw [← hf]
          have HF : Hid (f = (nth s0 t3, c)) := hf
          clear hf
          unfold fee
          go_wp2_with (at_builtin; refine wpList_append_fits _ rfl (.tmp 112) (.tmp 117) 24 rfl WC.heap.size 34 i0 5 Try.underlying24 hi0 hz1 WC.heap.size t3 (n0 + 1) (feesCells fs3) rfl ((own3.alloc _).alloc _) ⟨wr.heap.size + 1, 0, none⟩ 1 1 (feeCells f) rfl rfl ?c1 (fee_cells f) (by omega) ?_)
          case c1 => exact fee_new _ f 34 _ (by simp)
          intro w5 own5 grow5
          go_wp2
          go_roundw
          case rel =>
            refine ⟨t3 + 1, fs3 ++ [f], by omega, by go_num, rfl, by simp [HL3.out], ?_, by rw [feesCells_snoc]; exact own5, ?_⟩
            · rw [List.map_append, HM3.out, HF.out]
              have := cut_succ s0 0 t3 (by have := H0.out.2.1; omega)
              simpa using this
            · exact ((bel3.alloc sz3 _).alloc (by simp; omega) _).grown grow5 (by simp; omega) (fun k hk => by cases hk; exact Nat.le_refl _)
          case measure => simp [intOf]; omega
        obtain rfl : t3 = K := by omega
        -- the fee named nm goes in
        go_wp2_with (at_builtin; refine wpList_append_fits _ rfl (.tmp 119) (.tmp 122) 24 rfl WC.heap.size 34 i0 5 Try.underlying24 hi0 hz1 WC.heap.size t3 (n0 + 1) (feesCells fs3) rfl (own3.alloc _) ⟨wr.heap.size, 0, none⟩ 1 1 (feeCells (nm, ⟨#[]⟩)) rfl rfl ?c1n (fee_cells (nm, ⟨#[]⟩)) (by omega) ?_)
        case c1n => exact fee_new _ (nm, ⟨#[]⟩) 34 _ rfl
        intro w6 own6 grow6
        have bel6 : Below WC.heap.size WC w6 := (bel3.alloc sz3 _).grown grow6 (by simp; omega) (fun k hk => by cases hk; exact Nat.le_refl _)
        rw [← feesCells_snoc] at own6
        clear own3 grow6 bel3 sz3 belr hlt3
        go_wp2
        go_loopw [15, 17] (fun v i wr => ∃ (t : Nat) (fs : List (ByteArray × ByteArray)), t3 ≤ t ∧ t ≤ n0 ∧ i = .int .i64 t ∧ v = .slice (some ⟨WC.heap.size, 0, none⟩) (t + 1) (n0 + 1) ∧ fs.length = t + 1 ∧ fs.map Prod.fst = s0.take t3 ++ [nm] ++ (s0.take t).drop t3 ∧
            wr.ownsRow WC.heap.size 34 5 (.slice (some ⟨WC.heap.size, 0, none⟩) (t + 1) (n0 + 1)) (t + 1) (feesCells fs) ∧ Below WC.heap.size WC wr) (fun _ i _ => (n0 - (intOf i)).toNat)
        case atStart => exact ⟨t3, fs3 ++ [(nm, ⟨#[]⟩)], Nat.le_refl _, kn, rfl, rfl, by simp [HL3.out], by rw [List.map_append, HM3.out]; simp, own6, bel6⟩
        case round =>
          obtain ⟨t4, fs4, hk4, ht4, rfl, rfl, hl4, hm4, own4, bel4⟩ := hrel
          have sz4 := bel4.size
          have HL4 : Hid (fs4.length = t4 + 1) := hl4
          have HM4 : Hid (fs4.map Prod.fst = s0.take t3 ++ [nm] ++ (s0.take t4).drop t3) := hm4
          clear hl4 hm4 own6 bel6 
          have belr : Below w.heap.size w wr := HC1.out.trans (bel4.mono sz0)
          by_cases hlt4 : t4 < n0
          · go_wp2_with fail
            refine (feeAt_any _ _ n0 n1 s0 s1 t4 wr (H0.out.below belr (Nat.le_refl _)) (H1.out.below belr (Nat.le_refl _)) (by omega) (by omega)).mono ?_
            rintro e w' ⟨c, rfl, o, rfl⟩
            rw [Int.toNat_natCast]
            obtain ⟨f, hf⟩ : ∃ f, f = (nth s0 t4, c) := ⟨_, rfl⟩
            rw [← hf]
            have HF : Hid (f = (nth s0 t4, c)) := hf
            clear hf
            unfold fee
            go_wp2_with (at_builtin; refine wpList_append_fits _ rfl (.tmp 131) (.tmp 136) 24 rfl WC.heap.size 34 i0 5 Try.underlying24 hi0 hz1 WC.heap.size (t4 + 1) (n0 + 1) (feesCells fs4) rfl ((own4.alloc _).alloc _) ⟨wr.heap.size + 1, 0, none⟩ 1 1 (feeCells f) rfl rfl ?c1 (fee_cells f) (by omega) ?_)
            case c1 => exact fee_new _ f 34 _ (by simp)
            intro w5 own5 grow5
            go_wp2
            go_roundw
            case rel =>
              refine ⟨t4 + 1, fs4 ++ [f], by omega, by omega, by go_num, rfl, by simp [HL4.out], ?_, by rw [feesCells_snoc]; exact own5, ?_⟩
              · rw [List.map_append, HM4.out, HF.out]
                have := cut_succ s0 t3 (t4 - t3) (by have := H0.out.2.1; omega)
                rw [show t3 + (t4 - t3) = t4 from by omega] at this
                rw [← this]; simp
              · exact ((bel4.alloc sz4 _).alloc (by simp; omega) _).grown grow5 (by simp; omega) (fun k hk => by cases hk; exact Nat.le_refl _)
            case measure => simp [intOf]; omega
          obtain rfl : t4 = n0 := by omega
          -- THE FOURTH CONTRACT
          have heldA6 := heldA5.below bel4 (Nat.le_refl _)
          have heldB6 := heldB5.below bel4 (Nat.le_refl _)
          have heldC6 := heldC.below bel4 (Nat.le_refl _)
          have belD1 := belr.alloc belr.size (.cells #[.string ⟨#[]⟩, .int .i32 0, .slice none 0 0, .map none, .slice (some ⟨WC.heap.size, 0, none⟩) (t4 + 1) (t4 + 1), .slice none 0 0, .string ⟨#[]⟩] 29)
          have belx := (Below.refl wr.heap.size wr).alloc (Nat.le_refl _) (.cells #[.string ⟨#[]⟩, .int .i32 0, .slice none 0 0, .map none, .slice (some ⟨WC.heap.size, 0, none⟩) (t4 + 1) (t4 + 1), .slice none 0 0, .string ⟨#[]⟩] 29)
          have heldD : Held _ wr.heap.size WC.heap.size (t4 + 1) (t4 + 1) fs4 := ⟨Box.new wr (.slice (some ⟨WC.heap.size, 0, none⟩) (t4 + 1) (t4 + 1)), HL4.out.symm, by omega, ownsRow_base (own4.alloc _) (Nat.zero_le _)⟩
          have heldA7 := heldA6.below belx (Nat.le_refl _)
          have heldB7 := heldB6.below belx (Nat.le_refl _)
          have heldC7 := heldC6.below belx (Nat.le_refl _)
          clear belx own4 bel4 sz4 belr heldA6 heldB6 heldC6 heldA5 heldB5 heldC hlt4
          obtain ⟨WD, hWD⟩ : ∃ WD, WD = wr.alloc (.cells #[.string ⟨#[]⟩, .int .i32 0, .slice none 0 0, .map none, .slice (some ⟨WC.heap.size, 0, none⟩) (t4 + 1) (t4 + 1), .slice none 0 0, .string ⟨#[]⟩] 29) := ⟨_, rfl⟩
          rw [← hWD] at heldA7 heldB7 heldC7 heldD belD1
          have HWD : Hid (WD = wr.alloc (.cells #[.string ⟨#[]⟩, .int .i32 0, .slice none 0 0, .map none, .slice (some ⟨WC.heap.size, 0, none⟩) (t4 + 1) (t4 + 1), .slice none 0 0, .string ⟨#[]⟩] 29)) := hWD
          clear hWD
          go_wp2_with (at_make; rw [← HWD.out]; refine wpList_make_own _ rfl _ _ 24 rfl WD.heap.size 34 i0 _ 5 Try.underlying24 hi0 hz0 hz1 _ _ _ t4 rfl rfl (by omega) ?b2 ?b3 (Nat.le_refl _) ?_)
          case b2 => rw [hz2]; omega
          case b3 => unfold maxLen; omega
          intro w7 own7 grow7
          have bel7 : Below WD.heap.size WD w7 := (Below.refl _ _).grown grow7 (Nat.le_refl _) (fun k h => by cases h)
          have HD1 : Hid (Below w.heap.size w WD) := belD1
          have szD : w.heap.size ≤ WD.heap.size := belD1.size
          clear belD1 grow7
          go_wp2
          go_loopw [19, 20, 21] (fun v dr i wr => ∃ (t m : Nat) (q : Int) (fs : List (ByteArray × ByteArray)), t ≤ t4 ∧ m ≤ t ∧ 0 ≤ q ∧ q ≤ t ∧ i = .int .i64 t ∧ dr = .int .i64 q ∧ v = .slice (some ⟨WD.heap.size, 0, none⟩) m t4 ∧ fs.length = m ∧ has (fs.map Prod.fst) nm = false ∧ decide (0 < q) = has (s0.take t) nm ∧
              wr.ownsRow WD.heap.size 34 5 (.slice (some ⟨WD.heap.size, 0, none⟩) m t4) m (feesCells fs) ∧ Below WD.heap.size WD wr) (fun _ _ i _ => (t4 - (intOf i)).toNat)
          case atStart => exact ⟨0, 0, 0, [], Nat.zero_le _, Nat.zero_le _, by omega, by omega, rfl, rfl, rfl, rfl, rfl, by simp [has], own7, bel7⟩
          case round =>
            obtain ⟨t8, m8, q8, fs8, ht8, hmt, q80, q81, rfl, rfl, rfl, hl8, hno8, hq8, own8, bel8⟩ := hrel
            have sz8 := bel8.size
            have HL8 : Hid (fs8.length = m8) := hl8
            have HN8 : Hid (has (fs8.map Prod.fst) nm = false) := hno8
            have HQ8 : Hid (decide (0 < q8) = has (s0.take t8) nm) := hq8
            clear hl8 hno8 hq8 own7 bel7
            have belr : Below w.heap.size w wr := HD1.out.trans (bel8.mono szD)
            by_cases hlt8 : t8 < t4
            · obtain ⟨x, r, hx, hc0⟩ := G0.out t8 hlt8
              have hc : wr.cell? x = some (.string (nth s0 t8)) := by rw [belr.cell hx]; exact hc0
              clear hc0
              have hs8 := has_take_succ s0 nm t8 (by have := H0.out.2.1; omega)
              rw [← nth_lt s0 t8 (by have := H0.out.2.1; omega)] at hs8
              have HS8 : Hid (has (s0.take (t8 + 1)) nm = (has (s0.take t8) nm || ((nth s0 t8).toList == nm.toList))) := hs8
              clear hs8
              by_cases heq : ((nth s0 t8).toList == nm.toList) = true
              · go_wp2
                go_roundw
                case rel => exact ⟨t8 + 1, m8, q8 + 1, fs8, by omega, by omega, by omega, by omega, by go_num, rfl, rfl, HL8.out, HN8.out, by rw [HS8.out, heq]; simp; omega, own8, bel8⟩
                case measure => simp [intOf]; omega
              · have heq' : ((nth s0 t8).toList == nm.toList) = false := by simpa using heq
                clear heq
                go_wp2_with fail
                refine (feeAt_any _ _ t4 n1 s0 s1 t8 wr (H0.out.below belr (Nat.le_refl _)) (H1.out.below belr (Nat.le_refl _)) (by omega) (by omega)).mono ?_
                rintro e w' ⟨c, rfl, o, rfl⟩
                rw [Int.toNat_natCast]
                obtain ⟨f, hf⟩ : ∃ f, f = (nth s0 t8, c) := ⟨_, rfl⟩
                rw [← hf]
                have HF : Hid (f = (nth s0 t8, c)) := hf
                clear hf
                unfold fee
                go_wp2_with (at_builtin; refine wpList_append_fits _ rfl (.tmp 157) (.tmp 162) 24 rfl WD.heap.size 34 i0 5 Try.underlying24 hi0 hz1 WD.heap.size m8 t4 (feesCells fs8) rfl ((own8.alloc _).alloc _) ⟨wr.heap.size + 1, 0, none⟩ 1 1 (feeCells f) rfl rfl ?c1 (fee_cells f) (by omega) ?_)
                case c1 => exact fee_new _ f 34 _ (by simp)
                intro w9 own9 grow9
                go_wp2
                go_roundw
                case rel =>
                  refine ⟨t8 + 1, m8 + 1, q8, fs8 ++ [f], by omega, by omega, by omega, by omega, by go_num, rfl, rfl, by simp [HL8.out], ?_, by rw [HS8.out, heq', Bool.or_false]; exact HQ8.out, by rw [feesCells_snoc]; exact own9, ?_⟩
                  · rw [List.map_append, has_append, HN8.out, HF.out]; simpa [has] using heq'
                  · exact ((bel8.alloc sz8 _).alloc (by simp; omega) _).grown grow9 (by simp; omega) (fun k hk => by cases hk; exact Nat.le_refl _)
                case measure => simp [intOf]; omega
            obtain rfl : t8 = t4 := by omega
            -- THE FIFTH CONTRACT
            have heldA8 := heldA7.below bel8 (Nat.le_refl _)
            have heldB8 := heldB7.below bel8 (Nat.le_refl _)
            have heldC8 := heldC7.below bel8 (Nat.le_refl _)
            have heldD8 := heldD.below bel8 (Nat.le_refl _)
            have belE1 := belr.alloc belr.size (.cells #[.string ⟨#[]⟩, .int .i32 0, .slice none 0 0, .map none, .slice (some ⟨WD.heap.size, 0, none⟩) m8 t8, .slice none 0 0, .string ⟨#[]⟩] 29)
            have belx := (Below.refl wr.heap.size wr).alloc (Nat.le_refl _) (.cells #[.string ⟨#[]⟩, .int .i32 0, .slice none 0 0, .map none, .slice (some ⟨WD.heap.size, 0, none⟩) m8 t8, .slice none 0 0, .string ⟨#[]⟩] 29)
            have heldE : Held _ wr.heap.size WD.heap.size m8 t8 fs8 := ⟨Box.new wr (.slice (some ⟨WD.heap.size, 0, none⟩) m8 t8), HL8.out.symm, by omega, ownsRow_base (own8.alloc _) (Nat.zero_le _)⟩
            have heldA9 := heldA8.below belx (Nat.le_refl _)
            have heldB9 := heldB8.below belx (Nat.le_refl _)
            have heldC9 := heldC8.below belx (Nat.le_refl _)
            have heldD9 := heldD8.below belx (Nat.le_refl _)
            clear belx own8 bel8 sz8 belr heldA8 heldB8 heldC8 heldD8 heldA7 heldB7 heldC7 heldD
            obtain ⟨cA0, cA1, cA2, cA3, cA4, cA5, cA6⟩ := heldA9.box.cells
            -- THE PLAIN LAW
            have ls0 : s0.length = t8 := H0.out.2.1
            have eA : fsA.map Prod.fst = s0 := by
              have := HmA.out
              rw [Int.toNat_natCast] at this
              simpa [← ls0] using this
            have eB : fsB.map Prod.fst = s0.take t3 := by
              have := HmB.out
              rw [Int.toNat_natCast] at this
              simpa using this
            have eC : fsC.map Prod.fst = s0.drop t3 := by
              have := HmC.out
              rw [Int.toNat_natCast, Int.toNat_natCast] at this
              simpa [← ls0] using this
            have hABC : has s0 nm = (has (s0.take t3) nm || has (s0.drop t3) nm) := by rw [← has_append, List.take_append_drop]
            have hD : has (fs4.map Prod.fst) nm = true := by rw [HM4.out, has_append, has_append]; simp [has]
            have hQ : decide (0 < q8) = has s0 nm := by have := HQ8.out; rwa [List.take_of_length_le (by omega)] at this
            have HA : Hid (has (fsA.map Prod.fst) nm = has s0 nm) := by rw [eA]; rfl
            have HB : Hid (has (fsB.map Prod.fst) nm = has (s0.take t3) nm) := by rw [eB]; rfl
            have HC : Hid (has (fsC.map Prod.fst) nm = has (s0.drop t3) nm) := by rw [eC]; rfl
            have HD : Hid (has (fs4.map Prod.fst) nm = true) := hD
            have HQ : Hid (decide (0 < q8) = has s0 nm) := hQ
            have HABC : Hid (has s0 nm = (has (s0.take t3) nm || has (s0.drop t3) nm)) := hABC
            have HE1 : Hid (Below w.heap.size w _) := belE1
            clear eA eB eC hABC hD hQ ls0 belE1
            go_wp2_with fail
            obtain ⟨b, hb⟩ : ∃ b, has (s0.take t3) nm = b := ⟨_, rfl⟩
            obtain ⟨c, hc⟩ : ∃ c, has (s0.drop t3) nm = c := ⟨_, rfl⟩
            have HX : Hid (has s0 nm = (b || c)) := by rw [← hb, ← hc]; exact HABC.out
            have HQX : Hid (decide (0 < q8) = (b || c)) := HQ.out.trans HX.out
            have HBX : Hid (has (fsB.map Prod.fst) nm = b) := HB.out.trans hb
            have HCX : Hid (has (fsC.map Prod.fst) nm = c) := HC.out.trans hc
            have HAX : Hid (has (fsA.map Prod.fst) nm = (b || c)) := HA.out.trans HX.out
            clear hb hc HX HQ HB HC HA HABC
            cases b with
            | true =>
              have hq : 0 < q8 := of_decide_eq_true HQX.out
              refine (lists_agg 0 w.heap.size t8 t8 fsA nm true _ heldA9.len heldA9.own heldA9.small HAX.out).mono ?_
              rintro e w10 ⟨rfl, bel10⟩
              have heldB10 := heldB9.below bel10 (Nat.le_refl _)
              have heldC10 := heldC9.below bel10 (Nat.le_refl _)
              have heldD10 := heldD9.below bel10 (Nat.le_refl _)
              have heldE10 := heldE.below bel10 (Nat.le_refl _)
              have HE10 : Hid (Below w.heap.size w w10) := HE1.out.trans (bel10.mono HE1.out.size)
              clear bel10 HE1 heldA9 heldB9 heldC9 heldD9 heldE cA0 cA1 cA2 cA3 cA4 cA5 cA6
              obtain ⟨cB0, cB1, cB2, cB3, cB4, cB5, cB6⟩ := heldB10.box.cells
              go_wp2_with fail
              refine (lists_agg 0 WA.heap.size t3 t3 fsB nm true w10 heldB10.len heldB10.own heldB10.small HBX.out).mono ?_
              rintro e w11 ⟨rfl, bel11⟩
              have heldC11 := heldC10.below bel11 (Nat.le_refl _)
              have heldD11 := heldD10.below bel11 (Nat.le_refl _)
              have heldE11 := heldE10.below bel11 (Nat.le_refl _)
              have HE11 : Hid (Below w.heap.size w w11) := HE10.out.trans (bel11.mono HE10.out.size)
              clear bel11 HE10 heldB10 heldC10 heldD10 heldE10 cB0 cB1 cB2 cB3 cB4 cB5 cB6
              obtain ⟨cD0, cD1, cD2, cD3, cD4, cD5, cD6⟩ := heldD11.box.cells
              go_wp2_with fail
              refine (lists_agg 0 WC.heap.size (t8 + 1) (t8 + 1) fs4 nm true w11 heldD11.len heldD11.own heldD11.small HD.out).mono ?_
              rintro e w13 ⟨rfl, bel13⟩
              have heldE13 := heldE11.below bel13 (Nat.le_refl _)
              have HE13 : Hid (Below w.heap.size w w13) := HE11.out.trans (bel13.mono HE11.out.size)
              clear bel13 heldD11 heldE11 cD0 cD1 cD2 cD3 cD4 cD5 cD6
              obtain ⟨cE0, cE1, cE2, cE3, cE4, cE5, cE6⟩ := heldE13.box.cells
              go_wp2_with fail
              refine (lists_agg 0 WD.heap.size m8 t8 fs8 nm false w13 heldE13.len heldE13.own heldE13.small HN8.out).mono ?_
              rintro e w14 ⟨rfl, bel14⟩
              clear cE0 cE1 cE2 cE3 cE4 cE5 cE6
              go_wp2
              go_ret
              exact ⟨rfl, HE13.out.trans (bel14.mono HE13.out.size)⟩
            | false =>
              cases c with
              | true =>
                have hq : 0 < q8 := of_decide_eq_true HQX.out
                refine (lists_agg 0 w.heap.size t8 t8 fsA nm true _ heldA9.len heldA9.own heldA9.small HAX.out).mono ?_
                rintro e w10 ⟨rfl, bel10⟩
                have heldB10 := heldB9.below bel10 (Nat.le_refl _)
                have heldC10 := heldC9.below bel10 (Nat.le_refl _)
                have heldD10 := heldD9.below bel10 (Nat.le_refl _)
                have heldE10 := heldE.below bel10 (Nat.le_refl _)
                have HE10 : Hid (Below w.heap.size w w10) := HE1.out.trans (bel10.mono HE1.out.size)
                clear bel10 HE1 heldA9 heldB9 heldC9 heldD9 heldE cA0 cA1 cA2 cA3 cA4 cA5 cA6
                obtain ⟨cB0, cB1, cB2, cB3, cB4, cB5, cB6⟩ := heldB10.box.cells
                go_wp2_with fail
                refine (lists_agg 0 WA.heap.size t3 t3 fsB nm false w10 heldB10.len heldB10.own heldB10.small HBX.out).mono ?_
                rintro e w11 ⟨rfl, bel11⟩
                have heldC11 := heldC10.below bel11 (Nat.le_refl _)
                have heldD11 := heldD10.below bel11 (Nat.le_refl _)
                have heldE11 := heldE10.below bel11 (Nat.le_refl _)
                have HE11 : Hid (Below w.heap.size w w11) := HE10.out.trans (bel11.mono HE10.out.size)
                clear bel11 HE10 heldB10 heldC10 heldD10 heldE10 cB0 cB1 cB2 cB3 cB4 cB5 cB6
                obtain ⟨cC0, cC1, cC2, cC3, cC4, cC5, cC6⟩ := heldC11.box.cells
                go_wp2_with fail
                refine (lists_agg 0 WB.heap.size nC nC fsC nm true w11 heldC11.len heldC11.own heldC11.small HCX.out).mono ?_
                rintro e w12 ⟨rfl, bel12⟩
                have heldD12 := heldD11.below bel12 (Nat.le_refl _)
                have heldE12 := heldE11.below bel12 (Nat.le_refl _)
                have HE12 : Hid (Below w.heap.size w w12) := HE11.out.trans (bel12.mono HE11.out.size)
                clear bel12 HE11 heldC11 heldD11 heldE11 cC0 cC1 cC2 cC3 cC4 cC5 cC6
                obtain ⟨cD0, cD1, cD2, cD3, cD4, cD5, cD6⟩ := heldD12.box.cells
                go_wp2_with fail
                refine (lists_agg 0 WC.heap.size (t8 + 1) (t8 + 1) fs4 nm true w12 heldD12.len heldD12.own heldD12.small HD.out).mono ?_
                rintro e w13 ⟨rfl, bel13⟩
                have heldE13 := heldE12.below bel13 (Nat.le_refl _)
                have HE13 : Hid (Below w.heap.size w w13) := HE12.out.trans (bel13.mono HE12.out.size)
                clear bel13 heldD12 heldE12 cD0 cD1 cD2 cD3 cD4 cD5 cD6
                obtain ⟨cE0, cE1, cE2, cE3, cE4, cE5, cE6⟩ := heldE13.box.cells
                go_wp2_with fail
                refine (lists_agg 0 WD.heap.size m8 t8 fs8 nm false w13 heldE13.len heldE13.own heldE13.small HN8.out).mono ?_
                rintro e w14 ⟨rfl, bel14⟩
                clear cE0 cE1 cE2 cE3 cE4 cE5 cE6
                go_wp2
                go_ret
                exact ⟨rfl, HE13.out.trans (bel14.mono HE13.out.size)⟩
              | false =>
                have hq : ¬ 0 < q8 := of_decide_eq_false HQX.out
                refine (lists_agg 0 w.heap.size t8 t8 fsA nm false _ heldA9.len heldA9.own heldA9.small HAX.out).mono ?_
                rintro e w10 ⟨rfl, bel10⟩
                have heldB10 := heldB9.below bel10 (Nat.le_refl _)
                have heldC10 := heldC9.below bel10 (Nat.le_refl _)
                have heldD10 := heldD9.below bel10 (Nat.le_refl _)
                have heldE10 := heldE.below bel10 (Nat.le_refl _)
                have HE10 : Hid (Below w.heap.size w w10) := HE1.out.trans (bel10.mono HE1.out.size)
                clear bel10 HE1 heldA9 heldB9 heldC9 heldD9 heldE cA0 cA1 cA2 cA3 cA4 cA5 cA6
                obtain ⟨cB0, cB1, cB2, cB3, cB4, cB5, cB6⟩ := heldB10.box.cells
                go_wp2_with fail
                refine (lists_agg 0 WA.heap.size t3 t3 fsB nm false w10 heldB10.len heldB10.own heldB10.small HBX.out).mono ?_
                rintro e w11 ⟨rfl, bel11⟩
                have heldC11 := heldC10.below bel11 (Nat.le_refl _)
                have heldD11 := heldD10.below bel11 (Nat.le_refl _)
                have heldE11 := heldE10.below bel11 (Nat.le_refl _)
                have HE11 : Hid (Below w.heap.size w w11) := HE10.out.trans (bel11.mono HE10.out.size)
                clear bel11 HE10 heldB10 heldC10 heldD10 heldE10 cB0 cB1 cB2 cB3 cB4 cB5 cB6
                obtain ⟨cC0, cC1, cC2, cC3, cC4, cC5, cC6⟩ := heldC11.box.cells
                go_wp2_with fail
                refine (lists_agg 0 WB.heap.size nC nC fsC nm false w11 heldC11.len heldC11.own heldC11.small HCX.out).mono ?_
                rintro e w12 ⟨rfl, bel12⟩
                have heldD12 := heldD11.below bel12 (Nat.le_refl _)
                have heldE12 := heldE11.below bel12 (Nat.le_refl _)
                have HE12 : Hid (Below w.heap.size w w12) := HE11.out.trans (bel12.mono HE11.out.size)
                clear bel12 HE11 heldC11 heldD11 heldE11 cC0 cC1 cC2 cC3 cC4 cC5 cC6
                obtain ⟨cD0, cD1, cD2, cD3, cD4, cD5, cD6⟩ := heldD12.box.cells
                go_wp2_with fail
                refine (lists_agg 0 WC.heap.size (t8 + 1) (t8 + 1) fs4 nm true w12 heldD12.len heldD12.own heldD12.small HD.out).mono ?_
                rintro e w13 ⟨rfl, bel13⟩
                have heldE13 := heldE12.below bel13 (Nat.le_refl _)
                have HE13 : Hid (Below w.heap.size w w13) := HE12.out.trans (bel13.mono HE12.out.size)
                clear bel13 heldD12 heldE12 cD0 cD1 cD2 cD3 cD4 cD5 cD6
                obtain ⟨cE0, cE1, cE2, cE3, cE4, cE5, cE6⟩ := heldE13.box.cells
                go_wp2_with fail
                refine (lists_agg 0 WD.heap.size m8 t8 fs8 nm false w13 heldE13.len heldE13.own heldE13.small HN8.out).mono ?_
                rintro e w14 ⟨rfl, bel14⟩
                clear cE0 cE1 cE2 cE3 cE4 cE5 cE6
                go_wp2
                go_ret
                exact ⟨ret_bool (show (!decide (0 < q8)) = true by rw [HQX.out]; rfl), HE13.out.trans (bel14.mono HE13.out.size)⟩
end Go.Proofs.Qxb6614028a
