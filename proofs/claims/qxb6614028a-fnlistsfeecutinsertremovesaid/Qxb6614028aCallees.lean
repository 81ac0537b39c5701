import Derived.Test.Qxb6614028aParts
namespace Go.Proofs.Qxb6614028a
open Go.RowKit

theorem ret_bool {x y : Bool} (h : x = y) : Ending.returned (.bool x) = .returned (.bool y) := by rw [h]

/-- slices.ContainsFunc over a row of fees. -/
theorem contains_any (base g n cap : Nat) (fs : List (ByteArray × ByteArray)) (a : Addr) (nm : ByteArray) (w : World) (hn : n = fs.length) (ha : a.block < w.heap.size) (hc : w.cell? a = some (.string nm))
    (hown : w.ownsRow base 34 5 (.slice (some ⟨g, 0, none⟩) n cap) n (feesCells fs)) (hm : n ≤ 100000) :
    Calls Try.prog 8 #[.slice (some ⟨g, 0, none⟩) n cap, .func (.func 9) #[] #[.pointer (some a)]] w fun e w' =>
      e = .returned (.bool (has (fs.map Prod.fst) nm)) ∧ Below w.heap.size w w' := by
  have HN : Hid (n = fs.length) := hn
  clear hn
  go_enter Try.func8, Try.ntmps8
  go_wp2_with fail
  refine (index_any base g n cap fs a nm _ HN.out ha hc hown hm).mono ?_
  rintro e w' ⟨r, rfl, hr, hb⟩
  have HR : Hid (decide (0 ≤ r) = has (fs.map Prod.fst) nm) := hr
  clear hr
  go_wp2
  go_ret
  exact ⟨ret_bool HR.out, hb⟩

/-- The contract that the law builds: nothing but her fees. -/
def contract (v : Value) : Value := .agg #[.string ⟨#[]⟩, .int .i32 0, .slice none 0 0, .map none, v, .slice none 0 0, .string ⟨#[]⟩]

/-- (Contract).ListsFee. -/
theorem lists_any (base g n cap : Nat) (fs : List (ByteArray × ByteArray)) (nm : ByteArray) (w : World) (hn : n = fs.length)
    (hown : w.ownsRow base 34 5 (.slice (some ⟨g, 0, none⟩) n cap) n (feesCells fs)) (hm : n ≤ 100000) :
    Calls Try.prog 7 #[contract (.slice (some ⟨g, 0, none⟩) n cap), .string nm] w fun e w' =>
      e = .returned (.bool (has (fs.map Prod.fst) nm)) ∧ Below w.heap.size w w' := by
  have HN : Hid (n = fs.length) := hn
  clear hn
  unfold contract
  go_enter Try.func7, Try.ntmps7
  go_wp2_with fail
  refine (contains_any base g n cap fs ⟨w.heap.size + 1, 0, none⟩ nm _ HN.out (by simp) (by go_simp) ((hown.alloc _).alloc _) hm).mono ?_
  rintro e w' ⟨rfl, hb⟩
  go_wp2
  go_ret
  exact ⟨rfl, ((((Below.refl _ _).alloc (Nat.le_refl _) _).alloc (by simp) _).trans (hb.mono (by simp; omega)))⟩

/-- The same, the contract written out, her answer given. -/
theorem lists_agg (base g n cap : Nat) (fs : List (ByteArray × ByteArray)) (nm : ByteArray) (x : Bool) (w : World) (hn : n = fs.length)
    (hown : w.ownsRow base 34 5 (.slice (some ⟨g, 0, none⟩) n cap) n (feesCells fs)) (hm : n ≤ 100000) (hx : has (fs.map Prod.fst) nm = x) :
    Calls Try.prog 7 #[.agg #[.string ⟨#[]⟩, .int .i32 0, .slice none 0 0, .map none, .slice (some ⟨g, 0, none⟩) n cap, .slice none 0 0, .string ⟨#[]⟩], .string nm] w fun e w' =>
      e = .returned (.bool x) ∧ Below w.heap.size w w' := by
  subst hx
  exact lists_any base g n cap fs nm w hn hown hm

theorem info34 : (Try.prog.info? 34).map (fun i => (i.zero, i.size, i.bytes)) = some (some (.agg #[.string ⟨#[]⟩, .int .i64 0, .int .i32 0, .pointer none, .string ⟨#[]⟩]), 5, 56) := by kernel_rfl

theorem nth_lt (ss : List ByteArray) (k : Nat) (h : k < ss.length) : nth ss k = ss[k] := by unfold nth; simp [List.getD, h]
theorem cut_succ (ss : List ByteArray) (L t : Nat) (h : L + t < ss.length) : (ss.take (L + t)).drop L ++ [nth ss (L + t)] = (ss.take (L + t + 1)).drop L := by
  rw [nth_lt ss _ h, List.take_succ_eq_append_getElem h, List.drop_append_of_le_length (by simp; omega)]
theorem fee_cells (f : ByteArray × ByteArray) : ∀ u ∈ feeCells f, u.oneCell' = true := by
  intro u hu; simp [feeCells] at hu; rcases hu with rfl | rfl | rfl | rfl | rfl <;> rfl
theorem fee_new (W : World) (f : ByteArray × ByteArray) (t : TypeId) (b : Nat) (hb : b = W.heap.size) : ∀ j u, (feeCells f)[j]? = some u → (W.alloc (.cells #[.string f.1, .int .i64 0, .int .i32 0, .pointer none, .string f.2] t)).cell? ((⟨b, 0, none⟩ : Addr).add j) = some u := by
  subst hb
  intro j u hu
  match j, hu with
  | 0, hu => simp [feeCells] at hu; subst hu; simp [Addr.add]
  | 1, hu => simp [feeCells] at hu; subst hu; simp [Addr.add]
  | 2, hu => simp [feeCells] at hu; subst hu; simp [Addr.add]
  | 3, hu => simp [feeCells] at hu; subst hu; simp [Addr.add]
  | 4, hu => simp [feeCells] at hu; subst hu; simp [Addr.add]
  | n + 5, hu => simp [feeCells] at hu

/-- zzFees: the fees from 'lo' to 'hi', in a row of their own. -/
theorem fees_any (v0 v1 : Value) (n0 n1 : Nat) (s0 s1 : List ByteArray) (lo hi : Int) (w : World) (h0 : Strs w v0 n0 s0) (h1 : Strs w v1 n1 s1) (l0 : 0 ≤ lo) (lh : lo ≤ hi) (hn : hi ≤ n0) (hm : n0 ≤ 4096) :
    Calls Try.prog 5 #[v0, v1, .int .i64 lo, .int .i64 hi] w fun e w' => ∃ fs : List (ByteArray × ByteArray), e = .returned (.slice (some ⟨w.heap.size, 0, none⟩) (hi - lo).toNat (hi - lo).toNat) ∧
      fs.length = (hi - lo).toNat ∧ fs.map Prod.fst = (s0.take hi.toNat).drop lo.toNat ∧
      w'.ownsRow w.heap.size 34 5 (.slice (some ⟨w.heap.size, 0, none⟩) (hi - lo).toNat (hi - lo).toNat) (hi - lo).toNat (feesCells fs) ∧ Below w.heap.size w w' := by
  obtain ⟨i0, hi0, hz0, hz1, hz2⟩ := info_parts info34
  obtain ⟨L, rfl⟩ := Int.eq_ofNat_of_zero_le l0
  obtain ⟨d, hd⟩ := Int.eq_ofNat_of_zero_le (show 0 ≤ hi - L by omega)
  obtain rfl : hi = L + d := by omega
  have ed : ((L : Int) + d - L).toNat = d := by omega
  rw [ed]
  go_enter Try.func5, Try.ntmps5
  go_wp2_with (at_make; refine wpList_make_own _ rfl _ _ 24 rfl w.heap.size 34 i0 _ 5 Try.underlying24 hi0 hz0 hz1 _ _ _ d rfl rfl (by omega) ?b2 ?b3 (Nat.le_refl _) ?_)
  case b2 => rw [hz2]; omega
  case b3 => unfold maxLen; omega
  intro w1 hown1 hgrow1
  go_wp2
  go_loopw [9, 10] (fun v i wr => ∃ (t : Nat) (fs : List (ByteArray × ByteArray)), t ≤ d ∧ i = .int .i64 ((L : Int) + t) ∧ v = .slice (some ⟨w.heap.size, 0, none⟩) t d ∧ fs.length = t ∧ fs.map Prod.fst = (s0.take (L + t)).drop L ∧
      wr.ownsRow w.heap.size 34 5 (.slice (some ⟨w.heap.size, 0, none⟩) t d) t (feesCells fs) ∧ Below w.heap.size w wr) (fun _ i _ => (L + d - (intOf i)).toNat)
  case atStart => exact ⟨0, [], Nat.zero_le _, by simp, rfl, rfl, by simp, hown1, (Below.refl _ _).grown hgrow1 (Nat.le_refl _) (fun k h => by cases h)⟩
  case round =>
    obtain ⟨t, fs, ht, rfl, rfl, hl, hfs, hown, hb⟩ := hrel
    have hsz := hb.size
    by_cases hlt : t < d
    · go_wp2_with fail
      refine (feeAt_any v0 v1 n0 n1 s0 s1 (L + t) wr (h0.below hb (Nat.le_refl _)) (h1.below hb (Nat.le_refl _)) (by omega) (by omega)).mono ?_
      rintro e w' ⟨c, rfl, o, rfl⟩
      have et : ((L : Int) + t).toNat = L + t := by omega
      rw [et]
      obtain ⟨f, hf⟩ : ∃ f, f = (nth s0 (L + t), c) := ⟨_, rfl⟩
      rw [← hf]
      have HF : Hid (f = (nth s0 (L + t), c)) := hf
      have HL : Hid (fs.length = t) := hl
      have HFS : Hid (fs.map Prod.fst = (s0.take (L + t)).drop L) := hfs
      clear hf hl hfs et
      unfold fee
      go_wp2_with (at_builtin; refine wpList_append_fits _ rfl (.tmp 21) (.tmp 26) 24 rfl w.heap.size 34 i0 5 Try.underlying24 hi0 hz1 w.heap.size t d (feesCells fs) rfl ((hown.alloc _).alloc _) ⟨wr.heap.size + 1, 0, none⟩ 1 1 (feeCells f) rfl rfl ?c1 (fee_cells f) (by omega) ?_)
      case c1 => exact fee_new _ f 34 _ (by simp)
      intro w2 hown2 hgrow2
      go_wp2
      go_roundw
      case rel =>
        refine ⟨t + 1, fs ++ [f], by omega, by go_num, rfl, by simp [HL.out], ?_, by rw [feesCells_snoc]; exact hown2, ?_⟩
        · rw [List.map_append, HFS.out, ← Nat.add_assoc, ← cut_succ s0 L t (by have := h0.2.1; omega), HF.out]; rfl
        · exact ((hb.alloc hsz _).alloc (by simp; omega) _).grown hgrow2 (by simp; omega) (fun k hk => by cases hk; exact Nat.le_refl _)
      case measure => simp [intOf]; omega
    · obtain rfl : t = d := by omega
      go_wp2
      go_ret
      exact ⟨fs, rfl, hl, by rw [hfs]; congr 1, hown, hb⟩
end Go.Proofs.Qxb6614028a
