/-
  Sessions.use: a session comes in, used after every other.
-/
import Derived.Test.Qxb6613550aSetW
import Derived.Test.Qxb6613550aCset
import Derived.Test.Qxb6613550aAsc
namespace Go.Proofs.Qxb6613550a
open Go.RowKit Go.Maps
set_option linter.unusedVariables false

/-- All but the Sessions' own block, a map and the nodes is kept. -/
structure KpM (B S M : Nat) (w w' : World) : Prop where
  bel : Below B w w'
  oth : ∀ (k : Nat) (o : Obj), k ≠ S → k ≠ M → w.heap[k]? = some o → Oth o → w'.heap[k]? = some o
theorem KpM.of {B S M : Nat} {w w' : World} (h : KpS B S w w') : KpM B S M w w' := ⟨h.bel, fun k o h1 _ h2 h3 => h.oth k o h1 h2 h3⟩
theorem KpM.of2 {B S M : Nat} {w w' : World} (h : Kp2 B S M w w') : KpM B S M w w' := ⟨h.bel, fun k o h1 h2 h3 _ => by rw [h.oth k (heap_lt h3) h1 h2]; exact h3⟩
theorem KpM.trans {B S M : Nat} {a b c : World} (h : KpM B S M a b) (k : KpM B S M b c) : KpM B S M a c := ⟨h.bel.trans k.bel, fun i o h1 h2 h3 h4 => k.oth i o h1 h2 (h.oth i o h1 h2 h3 h4) h4⟩
theorem KpM.size {B S M : Nat} {w w' : World} (h : KpM B S M w w') : w.heap.size ≤ w'.heap.size := h.bel.size
theorem KpM.refl (B S M : Nat) (w : World) : KpM B S M w w := ⟨Below.refl _ _, fun _ _ _ _ h _ => h⟩

theorem oth_map (es : Array MapEntry) (clock : Nat) : Oth (.map es clock) := fun _ _ _ e => by cases e

/-- A map is kept where its block is. -/
theorem OwnM.keep {w w' : World} {M n : Nat} {D : DataW Unit} (h : OwnM w M n D) (hk : ∀ o, w.heap[M]? = some o → w'.heap[M]? = some o) : OwnM w' M n D := by
  obtain ⟨es, clock, hb, F, hs, hd⟩ := h
  exact ⟨es, clock, hk _ hb, F, hs, hd⟩
theorem OwnM.kps {w w' : World} {B S M n : Nat} {D : DataW Unit} (h : OwnM w M n D) (hk : KpS B S w w') (hne : M ≠ S) : OwnM w' M n D := by
  obtain ⟨es, clock, hb, F, hs, hd⟩ := h
  exact ⟨es, clock, hk.oth M _ hne hb (fun _ _ _ e => by cases e), F, hs, hd⟩
theorem OwnM.ne {w : World} {S M n : Nat} {D : DataW Unit} (h : OwnM w M n D) {cur : Array Value} {t : TypeId} {fr : Nat × Nat} (hS : w.heap[S]? = some (.cells cur t fr)) : M ≠ S := by
  obtain ⟨es, clock, hb, _⟩ := h
  rintro rfl
  rw [hS] at hb; cases hb

/-- The nodes are kept where all but the Sessions' block and a map is. -/
theorem Inv.kp2 {B S M : Nat} {w w' : World} {σ : Sto} (h : Inv B w σ) (k : ∀ x, x < w.heap.size → x ≠ S → x ≠ M → w'.heap[x]? = w.heap[x]?) {cur : Array Value} {fr : Nat × Nat} (hS : w.heap[S]? = some (.cells cur 36 fr)) {n : Nat} {D : DataW Unit} (hM : OwnM w M n D) : Inv B w' σ := by
  obtain ⟨es, clock, hm, -⟩ := hM
  have key : ∀ (x : Nat) (c : Array Value) (t : TypeId) (f : Nat × Nat), w.heap[x]? = some (.cells c t f) → (t = 67 ∨ t = 64 ∨ t = 29) → w'.heap[x]? = w.heap[x]? := fun x c t f hx ht =>
    k x (heap_lt hx) (fun e => by subst e; rw [hS] at hx; cases hx; rcases ht with h | h | h <;> cases h) (fun e => by subst e; rw [hm] at hx; cases hx)
  refine ⟨fun b nd hb => ?_, h.inje, h.injc⟩
  have n := h.node b nd hb
  refine n.keep (key _ _ _ _ n.hd (.inl rfl)) (fun g hg => ?_) (fun g hg => ?_)
  · obtain ⟨cur, hh⟩ := ownsRow_heap n.ents hg
    exact key _ _ _ _ hh (.inr (.inl rfl))
  · obtain ⟨cur, hh⟩ := ownsRow_heap n.kids hg
    exact key _ _ _ _ hh (.inr (.inr rfl))

theorem St.congr {σ : Sto} {cur cur' : Array Value} {L : List Ent} (h : St σ cur L) (e : cur'[0]? = cur[0]?) : St σ cur' L := by
  rcases h with ⟨h1, h2⟩ | ⟨x, y, h1, h2⟩
  · exact .inl ⟨e.trans h1, h2⟩
  · exact .inr ⟨x, y, e.trans h1, h2⟩

/-- The Sessions at block S. -/
structure Ses (B S M : Nat) (w : World) (σ : Sto) (L : List Ent) (m : Nat) (D : DataW Unit) (u o : Int) (cur : Array Value) : Prop where
  inv : Inv B w σ
  st : St σ cur L
  srt : Srt L
  hS : w.heap[S]? = some (.cells cur 36 (0, 0))
  sz : cur.size = 11
  c1 : cur[1]? = some (.int .i64 L.length)
  c2 : cur[2]? = some (.int .u64 0)
  c3 : cur[3]? = some (.map (some M))
  c4 : ∃ r, cur[4]? = some (.int .i64 r) ∧ 0 ≤ r ∧ r ≤ 20000
  c8 : cur[8]? = some (.int .u64 u)
  c10 : cur[10]? = some (.int .i64 o)
  own : OwnM w M m D
  le : ∀ e ∈ L, e.k ≤ u
  ok : ∀ e ∈ L, OkE e
  hBM : B ≤ M
  hBS : B ≤ S
  hB : B ≤ w.heap.size

set_option maxHeartbeats 3200000 in
set_option maxRecDepth 100000 in
theorem use_any (B S M m : Nat) (σ : Sto) (L : List Ent) (D : DataW Unit) (u o c s : Int) (cur : Array Value) (w : World) (hs : Ses B S M w σ L m D u o cur) (hL : L.length ≤ 4990) (hm : m ≤ 10000) (hu0 : 0 ≤ u) (hu1 : u ≤ 10000) (wc : (Lit.int .u64 c).wf = true) :
    Calls Try.prog 17 #[.pointer (some ⟨S, 0, none⟩), .agg #[.int .u64 c, .int .u64 s, .nilIface]] w fun e w' => e = .returned (.tuple #[]) ∧ ∃ σ' cur', Ses B S M w' σ' (L ++ [⟨u + 1, c, s⟩]) (m + 1) (D.put (.int .u64 c) (.lit (.int .u64 (u + 1)))) (u + 1) o cur' ∧ KpM B S M w w' ∧
      (∀ j, j = 5 ∨ j = 6 ∨ j = 7 ∨ j = 9 → cur'[j]? = cur[j]?) := by
  obtain ⟨r, hr, hr0, hr1⟩ := hs.c4
  have ltS := heap_lt hs.hS
  have wu : (Lit.int .u64 (u + 1)).wf = true := WalkArith.wf_u64 (by omega)
  have hMS : M ≠ S := hs.own.ne hs.hS
  have hS1 : (w.alloc (.cells #[.int .u64 c, .int .u64 s, .nilIface] 47)).heap[S]? = some (.cells cur 36 (0, 0)) := by rw [Below.heap_alloc w _ S ltS]; exact hs.hS
  have u1 : (w.alloc (.cells #[.int .u64 c, .int .u64 s, .nilIface] 47)).cell? ⟨S, 8, none⟩ = some (.int .u64 u) := by rw [cell_of_row _ S 8 _ 36 (0, 0) hS1]; exact hs.c8
  have fu : (w.alloc (.cells #[.int .u64 c, .int .u64 s, .nilIface] 47)).frozen? ⟨S, 8, none⟩ = false := by simp [World.frozen?, hS1]
  have huw : IntKind.u64.wrap (u + 1) = u + 1 := IntWalk.u64_in _ (by omega)
  obtain ⟨W1, hW1⟩ : ∃ W1, W1 = (w.alloc (.cells #[.int .u64 c, .int .u64 s, .nilIface] 47)).setCell ⟨S, 8, none⟩ (.int .u64 (u + 1)) := ⟨_, rfl⟩
  have hS2 : W1.heap[S]? = some (.cells (cur.setIfInBounds 8 (.int .u64 (u + 1))) 36 (0, 0)) := by rw [hW1]; exact heap_setCell_at _ hS1
  have hV2 : W1.heap[w.heap.size]? = some (.cells #[.int .u64 c, .int .u64 s, .nilIface] 47 (0, 0)) := by rw [hW1, heap_setCell_not _ (by omega)]; exact alloc_new0 w _
  have hown1 : OwnM W1 M m D := by rw [hW1]; exact (hs.own.alloc _).setCell (a := ⟨S, 8, none⟩) hMS _
  have hI1 : Inv B W1 σ := by rw [hW1]; exact (hs.inv.alloc _).setOth _ hS1 (by decide)
  have hK1 : KpM B S M w W1 := by rw [hW1]; exact KpM.of ((KpS.of (Kp.alloc hs.hB _)).trans (KpS.setCell _ hs.hBS))
  have g8 : (cur.setIfInBounds 8 (.int .u64 (u + 1)))[8]? = some (.int .u64 (u + 1)) := by rw [Array.getElem?_setIfInBounds, if_pos rfl, if_pos (by rw [hs.sz]; omega)]
  have gj : ∀ j, j ≠ 8 → (cur.setIfInBounds 8 (.int .u64 (u + 1)))[j]? = cur[j]? := fun j hj => by rw [Array.getElem?_setIfInBounds, if_neg (by omega)]
  have v0 : W1.cell? ⟨w.heap.size, 0, none⟩ = some (.int .u64 c) := by rw [cell_of_row W1 _ 0 _ 47 (0, 0) hV2]; rfl
  have v8 : W1.cell? ⟨S, 8, none⟩ = some (.int .u64 (u + 1)) := by rw [cell_of_row W1 _ 8 _ 36 (0, 0) hS2]; exact g8
  have hc := cset_any B S 3 M m _ c (u + 1) r D W1.drew hS2 (by rw [gj 3 (by omega)]; exact hs.c3) (by rw [gj 4 (by omega)]; exact hr) hown1.drew (by omega) wc wu hs.hBS hs.hBM hr0 (by omega)
  have HC := (show Hid _ from hc)
  have HJ : Hid (∀ j, j ≠ 8 → (cur.setIfInBounds 8 (.int .u64 (u + 1)))[j]? = cur[j]?) := gj
  have HALL : Hid (Ses B S M w σ L m D u o cur ∧ Inv B W1 σ ∧ KpM B S M w W1 ∧ W1.heap[w.heap.size]? = some (.cells #[.int .u64 c, .int .u64 s, .nilIface] 47 (0, 0)) ∧ (cur.setIfInBounds 8 (.int .u64 (u + 1)))[8]? = some (.int .u64 (u + 1)) ∧ (cur.setIfInBounds 8 (.int .u64 (u + 1))).size = 11) := ⟨hs, hI1, hK1, hV2, g8, by simp [hs.sz]⟩
  obtain ⟨cur1, hcur1⟩ : ∃ cur1, cur1 = cur.setIfInBounds 8 (.int .u64 (u + 1)) := ⟨_, rfl⟩
  rw [← hcur1] at HC HJ HALL hS2
  have HW1S : Hid (W1.heap[S]? = some (.cells cur1 36 (0, 0)) ∧ OwnM W1 M m D) := ⟨hS2, hown1⟩
  have HWC : Hid ((Lit.int .u64 c).wf = true) := wc
  clear hs hr hc gj g8 hI1 hK1 hV2 hown1 hS2 hcur1
  go_enter Try.func17, Try.ntmps17
  go_upto_region 1 with fail
  generalize w.alloc (.cells #[.int .u64 c, .int .u64 s, .nilIface] 47) = W0 at hS1 u1 fu hW1 ⊢
  go_upto_region 2 with fail
  rw [← hW1]
  clear hW1 hS1 u1 fu
  go_cut [] from 4 to 29 (fun wx => Hid (∃ r', 0 ≤ r' ∧ r' ≤ max r (m + 1) ∧ wx.heap[S]? = some (.cells (cur1.setIfInBounds 4 (.int .i64 r')) 36 (0, 0)) ∧ OwnM wx M (m + 1) (D.put (.int .u64 c) (.lit (.int .u64 (u + 1)))) ∧ Kp2 B S M W1 wx))
  case first =>
    go_region_with (go_at_call 31; refine Calls.mono HC.out ?_; rintro e wy ⟨rfl, r', q1, q2, q3, q4, q5⟩; have HY : Hid (0 ≤ r' ∧ r' ≤ max r (m + 1) ∧ wy.heap[S]? = some (.cells (cur1.setIfInBounds 4 (.int .i64 r')) 36 (0, 0)) ∧ OwnM wy M (m + 1) (D.put (.int .u64 c) (.lit (.int .u64 (u + 1)))) ∧ Kp2 B S M W1 wy) := (⟨q1, q2, q3, q4, ⟨q5.bel.1, q5.bel.2, q5.bel.3, q5.bel.4, q5.bel.5⟩, q5.oth⟩); clear q1 q2 q3 q4 q5)
    all_goals
      go_wp2_with fail
      go_meet
      exact ⟨_, HY.out⟩
  case rest =>
    obtain ⟨r', q1, q2, q3, q4, q5⟩ := hcut.out
    obtain ⟨hs, k2, k3, k4, k5, k6⟩ := HALL.out
    have hSw : W1.heap[S]? = some (.cells cur1 36 (0, 0)) := HW1S.out.1
    have hI2 : Inv B wc σ := k2.kp2 q5.oth hSw HW1S.out.2
    have hV : wc.heap[w.heap.size]? = some (.cells #[.int .u64 c, .int .u64 s, .nilIface] 47 (0, 0)) := by
      rw [q5.oth _ (heap_lt k4) (by omega) (fun e => by obtain ⟨es, clock, hm, -⟩ := HW1S.out.2; rw [← e, k4] at hm; cases hm)]; exact k4
    have hBc : B ≤ wc.heap.size := Nat.le_trans hs.hB (Nat.le_trans k3.size q5.bel.size)
    obtain ⟨cur2, hcur2⟩ : ∃ cur2, cur2 = cur1.setIfInBounds 4 (.int .i64 r') := ⟨_, rfl⟩
    have g4 : cur2[4]? = some (.int .i64 r') := by rw [hcur2, Array.getElem?_setIfInBounds, if_pos rfl, if_pos (by omega)]
    have g8 : cur2[8]? = some (.int .u64 (u + 1)) := by rw [hcur2, Array.getElem?_setIfInBounds, if_neg (by omega)]; exact k5
    have gj : ∀ j, j ≠ 4 → j ≠ 8 → cur2[j]? = cur[j]? := fun j h4 h8 => by rw [hcur2, Array.getElem?_setIfInBounds, if_neg (by omega)]; exact HJ.out j h8
    have hsz2 : cur2.size = 11 := by rw [hcur2, Array.size_setIfInBounds]; exact k6
    rw [← hcur2] at q3
    have w0 : wc.cell? ⟨w.heap.size, 0, none⟩ = some (.int .u64 c) := by rw [cell_of_row wc _ 0 _ 47 (0, 0) hV]; rfl
    have w1 : wc.cell? ⟨w.heap.size, 1, none⟩ = some (.int .u64 s) := by rw [cell_of_row wc _ 1 _ 47 (0, 0) hV]; rfl
    have w2 : wc.cell? ⟨w.heap.size, 2, none⟩ = some .nilIface := by rw [cell_of_row wc _ 2 _ 47 (0, 0) hV]; rfl
    have w8 : wc.cell? ⟨S, 8, none⟩ = some (.int .u64 (u + 1)) := by rw [cell_of_row wc _ 8 _ 36 (0, 0) q3]; exact g8
    have hset := set_any B S σ (u + 1) c s L.length cur2 L wc.drew hI2.drew hBc (hs.st.congr (gj 0 (by omega) (by omega))) hs.srt (fun e he => by have := hs.le e he; omega) hL q3 hs.hBS (by rw [gj 1 (by omega) (by omega)]; exact hs.c1) (by rw [gj 2 (by omega) (by omega)]; exact hs.c2) (by omega) (by omega)
    have HSET := (show Hid _ from hset)
    have HK : Hid (KpM B S M w wc) := k3.trans (KpM.of2 q5)
    have H2 : Hid (cur2[4]? = some (.int .i64 r') ∧ 0 ≤ r' ∧ r' ≤ 20000 ∧ cur2[8]? = some (.int .u64 (u + 1)) ∧ (∀ j, j ≠ 4 → j ≠ 8 → cur2[j]? = cur[j]?) ∧ cur2.size = 11 ∧ OwnM wc M (m + 1) (D.put (.int .u64 c) (.lit (.int .u64 (u + 1))))) := ⟨g4, q1, by omega, g8, gj, hsz2, q4⟩
    clear hcut q1 q2 q3 q4 q5 hs k2 k3 k4 k5 k6 hSw hI2 hV hcur2 g4 g8 gj hsz2 hset v0 v8
    go_upto_region 3 with fail
    go_region_with (go_at_call 32; refine Calls.mono HSET.out ?_; rintro e wy ⟨rfl, σ', h', b', p1, p2, p3, p4, p5⟩; have HY : Hid (Inv B wy σ' ∧ Tree σ' h' b' ∧ cont σ' h' b' = L ++ [⟨u + 1, c, s⟩] ∧ KpS B S wc.drew wy ∧ wy.heap[S]? = some (.cells ((cur2.setIfInBounds 0 (.pointer (some ⟨b', 0, none⟩))).setIfInBounds 1 (.int .i64 (L.length + 1))) 36 (0, 0))) := ⟨p1, p2, p3, p4, p5⟩; clear p1 p2 p3 p4 p5)
    all_goals
      go_wp2_with fail
      go_end0
      obtain ⟨p1, p2, p3, p4, p5⟩ := HY.out
      obtain ⟨g4, gr0, gr1, g8, gj, hsz2, hown⟩ := H2.out
      have hs := HALL.out.1
      have hg : ∀ j, j ≠ 0 → j ≠ 1 → ((cur2.setIfInBounds 0 (.pointer (some ⟨b', 0, none⟩))).setIfInBounds 1 (.int .i64 (L.length + 1)))[j]? = cur2[j]? := fun j h0 h1 => by
        rw [Array.getElem?_setIfInBounds, if_neg (by omega), Array.getElem?_setIfInBounds, if_neg (by omega)]
      have hK2 : KpM B S M w wy := HK.out.trans (KpM.of ⟨⟨p4.bel.1, p4.bel.2, p4.bel.3, p4.bel.4, p4.bel.5⟩, p4.oth⟩)
      refine ⟨rfl, σ', _, ⟨p1, .inr ⟨h', b', ?_, p2, p3⟩, by rw [← p3]; exact p2.srt, p5, by simp [hsz2], ?_, ?_, ?_, ⟨r', ?_, gr0, gr1⟩, ?_, ?_, OwnM.kps (B := B) (S := S) hown.drew p4 hMS, ?_, ?_, hs.hBM, hs.hBS, Nat.le_trans hs.hB hK2.size⟩, hK2, ?_⟩
      · rw [Array.getElem?_setIfInBounds, if_neg (by omega), Array.getElem?_setIfInBounds, if_pos rfl, if_pos (by omega)]
      · rw [Array.getElem?_setIfInBounds, if_pos rfl, if_pos (by rw [Array.size_setIfInBounds]; omega)]; simp
      · rw [hg 2 (by omega) (by omega), gj 2 (by omega) (by omega)]; exact hs.c2
      · rw [hg 3 (by omega) (by omega), gj 3 (by omega) (by omega)]; exact hs.c3
      · rw [hg 4 (by omega) (by omega)]; exact g4
      · rw [hg 8 (by omega) (by omega)]; exact g8
      · rw [hg 10 (by omega) (by omega), gj 10 (by omega) (by omega)]; exact hs.c10
      · intro e he
        rcases List.mem_append.1 he with h | h
        · have := hs.le e h; omega
        · simp at h; subst h; exact Int.le_refl _
      · intro e he
        rcases List.mem_append.1 he with h | h
        · exact hs.ok e h
        · simp at h; subst h; exact ⟨wu, HWC.out⟩
      · intro j hj
        rw [hg j (by omega) (by omega), gj j (by omega) (by omega)]
end Go.Proofs.Qxb6613550a
