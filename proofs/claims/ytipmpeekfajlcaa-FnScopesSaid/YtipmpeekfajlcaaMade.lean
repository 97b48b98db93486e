/- The walk of the reference's made: a new scope. -/
import Derived.Test.YtipmpeekfajlcaaSorted
import Derived.Deep.RegionLaw
import Derived.Deep.RegionHeld3
namespace Go.Proofs.Ytipmpeekfajlcaa
open Go.RowKit

theorem info72 : (Try.prog.info? 72).map (fun i => (i.zero, i.size, i.bytes)) = some (some (.agg #[.int .i64 0, .slice none 0 0, .slice none 0 0]), 3, 56) := by kernel_rfl

/-- The new blocks' owners: what is owned now was owned, or is new. -/
def Ext (T T' : Nat → Nat) (w : World) : Prop := ∀ b, T' b ≠ 0 → T b ≠ 0 ∨ w.heap.size ≤ b
theorem Ext.refl (T : Nat → Nat) (w : World) : Ext T T w := fun _ h => .inl h
theorem Ext.trans {T T1 T2 : Nat → Nat} {w w1 : World} (h : Ext T T1 w) (k : Ext T1 T2 w1) (hs : w.heap.size ≤ w1.heap.size) : Ext T T2 w := fun b hb => by
  rcases k b hb with h1 | h1
  · exact h b h1
  · exact .inr (by omega)
theorem Ext.upd {T : Nat → Nat} {w : World} {g t : Nat} (hg : T g = t ∨ w.heap.size ≤ g) (ht : t ≠ 0) : Ext T (upd T g t) w := fun b hb => by
  by_cases e : b = g
  · subst e
    rcases hg with hg | hg
    · exact .inl (by rw [hg]; exact ht)
    · exact .inr hg
  · rw [upd_other T t e] at hb
    exact .inl hb

section
variable {B : Nat} {T : Nat → Nat} {w wa w1 : World} {r : Nat} {S : Sts} {lv hv : Value} {nv ov : Nat → Value}

/-- What a world's rows stay, where only the block of the struct and one of its rows have turned. -/
theorem SpecRep.keep (h : SpecRep B T w r S lv hv nv ov) {M : Nat → Prop} (k : Chg M w w1) {t : Nat} (hM : ∀ b, M b → b = r ∨ T b = t) {v : Value} {t' e size n : Nat} {xs : List Value} (hv' : w.ownsRow B e size v n xs) (hT : Tagged T v t') (h1 : t' ≠ 1) (ht : t' ≠ t) : w1.ownsRow B e size v n xs :=
  k.row hv' (fun g hg hm => by
    have e1 := hT g hg
    rcases hM g hm with e2 | e2
    · subst e2; rw [h.tr] at e1; exact h1 e1.symm
    · exact ht (e1.symm.trans e2))

/-- Is g the row's own block, or new? Then it may be its row's. -/
theorem tag_new (hf : ∀ b, T b ≠ 0 → b < w.heap.size) {v : Value} {g t : Nat} (hT : Tagged T v t) (hat : v.ownBlock = some g ∨ w.heap.size ≤ g) : T g = 0 ∨ T g = t := by
  rcases hat with h | h
  · exact .inr (hT g h)
  · refine .inl (Classical.byContradiction fun hn => ?_)
    have := hf g hn
    omega

/-- A region more. -/
theorem SpecRep.more (h : SpecRep B T w r S lv hv nv ov) (hchg : Chg (fun _ => False) w wa) (hgrow : wa.grownBy w1 lv.ownBlock) {g1 cap1 : Nat} {p : Int}
    (hown : w1.ownsRow B 72 3 (.slice (some ⟨g1, 0, none⟩) (S.regs.length + 1) cap1) (S.regs.length + 1) ((List.range (S.regs.length * 3)).map (regF S nv ov) ++ [.int .i64 p, .slice none 0 0, .slice none 0 0]))
    (hat : lv.ownBlock = some g1 ∨ g1 = wa.heap.size) (hlt : g1 < w1.heap.size) :
    let w2 := w1.setCell ⟨r, 0, none⟩ (.slice (some ⟨g1, 0, none⟩) (S.regs.length + 1) cap1)
    SpecRep B (upd T g1 2) w2 r ⟨S.regs ++ [⟨p, [], []⟩], S.homes⟩ (.slice (some ⟨g1, 0, none⟩) (S.regs.length + 1) cap1) hv (fun i => if i < S.regs.length then nv i else .slice none 0 0) (fun i => if i < S.regs.length then ov i else .slice none 0 0) ∧
      Chg (fun b => T b ≠ 0) w w2 ∧ Ext T (upd T g1 2) w := by
  intro w2
  have hat' : lv.ownBlock = some g1 ∨ w.heap.size ≤ g1 := hat.imp id (fun e => by have := hchg.size; omega)
  have hg := tag_new h.fresh h.tl hat'
  have hrs : r < w.heap.size := h.fresh r (by rw [h.tr]; decide)
  have hrl : lv.ownBlock ≠ some r := fun e => by have := h.tl r e; rw [h.tr] at this; cases this
  have hgr : g1 ≠ r := by
    intro e
    subst e
    rcases hat' with h' | h'
    · exact hrl h'
    · omega
  have hc1 : Chg (fun b => lv.ownBlock = some b) w w1 := (hchg.mono (fun _ f => f.elim)).grown hgrow (fun i hi => .inl hi)
  have hc2 : Chg (fun b => b = r ∨ lv.ownBlock = some b) w w2 := (hc1.mono (fun i hi => .inl (.inr hi))).setCell (.inl (.inl rfl)) _
  have hM : ∀ b, (b = r ∨ lv.ownBlock = some b) → b = r ∨ T b = 2 := fun b hb => hb.imp id (fun e => h.tl b e)
  have htop1 : w1.heap[r]? = some (.cells #[lv, hv] 50 (0, 0)) := hc1.heapAt h.top hrl
  refine ⟨?_, hc2.mono (fun i hi => .inl ?_), Ext.upd (hat'.imp (fun e => h.tl g1 e) id) (by decide)⟩
  · refine { top := ?_, tr := upd_of T h.tr hg (by decide) (by decide), br := h.br, lrow := ?_, tl := fun g e => by cases e; exact upd_self _ _ _
             hrow := h.keep hc2 hM h.hrow h.th (by decide) (by decide), th := h.th.upd hg (by decide) (by decide)
             nrow := ?_, tn := ?_, orow := ?_, tob := ?_, fresh := ?_ }
    · rw [heap_setCell_same w1 r 0 _ 50 _ htop1]
      rfl
    · have e1 : (w2.ownsRow B 72 3 (.slice (some ⟨g1, 0, none⟩) (S.regs.length + 1) cap1) (S.regs.length + 1) ((List.range (S.regs.length * 3)).map (regF S nv ov) ++ [.int .i64 p, .slice none 0 0, .slice none 0 0])) :=
        ((Chg.refl (fun b => b = r) w1).setCell (.inl rfl) _).row hown (fun g e => by cases e; exact hgr)
      have e2 : (S.regs ++ [(⟨p, [], []⟩ : Reg)]).length = S.regs.length + 1 := by simp
      show w2.ownsRow B 72 3 _ (S.regs ++ [(⟨p, [], []⟩ : Reg)]).length _
      rw [e2]
      have e3 : (List.range ((S.regs.length + 1) * 3)).map (regF ⟨S.regs ++ [⟨p, [], []⟩], S.homes⟩ (fun i => if i < S.regs.length then nv i else .slice none 0 0) (fun i => if i < S.regs.length then ov i else .slice none 0 0)) =
          (List.range (S.regs.length * 3)).map (regF S nv ov) ++ [.int .i64 p, .slice none 0 0, .slice none 0 0] := by
        have en : (S.regs.length + 1) * 3 = S.regs.length * 3 + 3 := by omega
        rw [en, List.range_add, List.map_append]
        congr 1
        · refine List.map_congr_left (fun j hj => ?_)
          have hj' : j / 3 < S.regs.length := by have := List.mem_range.1 hj; omega
          unfold regF
          rw [Sts.reg_snoc_old _ _ _ _ hj']
          simp only [if_pos hj']
        · have m0 : (S.regs.length * 3 + 0) % 3 = 0 := by omega
          have m1 : (S.regs.length * 3 + 1) % 3 = 1 := by omega
          have m2 : (S.regs.length * 3 + 2) % 3 = 2 := by omega
          have d0 : (S.regs.length * 3 + 0) / 3 = S.regs.length := by omega
          have d1 : (S.regs.length * 3 + 1) / 3 = S.regs.length := by omega
          have d2 : (S.regs.length * 3 + 2) / 3 = S.regs.length := by omega
          simp only [List.range_succ, List.range_zero, List.nil_append, List.map_cons, List.map_nil, List.cons_append]
          unfold regF
          rw [m0, m1, m2, d0, d1, d2, Sts.reg_snoc_new]
          simp
      rw [e3]
      exact e1
    · intro i hi
      rcases Nat.lt_or_ge i S.regs.length with h' | h'
      · rw [Sts.reg_snoc_old _ _ _ _ h']
        simp only [if_pos h']
        exact h.keep hc2 hM (h.nrow i h') (h.tn i h') (by omega) (by omega)
      · obtain rfl : i = S.regs.length := by simp at hi; omega
        rw [Sts.reg_snoc_new]
        simp only [Nat.lt_irrefl, if_false]
        exact World.ownsRow_nil _ _ _ _
    · intro i hi
      rcases Nat.lt_or_ge i S.regs.length with h' | h'
      · simp only [if_pos h']
        exact (h.tn i h').upd hg (by omega) (by omega)
      · simp only [if_neg (Nat.not_lt.2 h')]
        intro g e
        simp [Value.ownBlock] at e
    · intro i hi
      rcases Nat.lt_or_ge i S.regs.length with h' | h'
      · rw [Sts.reg_snoc_old _ _ _ _ h']
        simp only [if_pos h']
        exact h.keep hc2 hM (h.orow i h') (h.tob i h') (by omega) (by omega)
      · obtain rfl : i = S.regs.length := by simp at hi; omega
        rw [Sts.reg_snoc_new]
        simp only [Nat.lt_irrefl, if_false]
        exact World.ownsRow_nil _ _ _ _
    · intro i hi
      rcases Nat.lt_or_ge i S.regs.length with h' | h'
      · simp only [if_pos h']
        exact (h.tob i h').upd hg (by omega) (by omega)
      · simp only [if_neg (Nat.not_lt.2 h')]
        intro g e
        simp [Value.ownBlock] at e
    · intro b hb
      have hs : w1.heap.size = w2.heap.size := by simp [w2, World.setCell]
      by_cases e : b = g1
      · subst e; omega
      · rw [upd_other T 2 e] at hb
        have := h.fresh b hb
        have := hc1.size
        omega
  · rcases hi with hi | hi
    · subst hi; rw [h.tr]; decide
    · rw [h.tl i hi]; decide
end

/-- New cells in a block of their own, ahead of an append. -/
theorem news_block (w : World) (cs : Array Value) (t : TypeId) (n : Nat) (hn : n = w.heap.size) : ∀ j u, cs.toList[j]? = some u → (w.alloc (.cells cs t)).cell? ((⟨n, 0, none⟩ : Addr).add j) = some u := by
  subst hn
  exact World.news_of_block (heap_alloc_new w _)

/-- The struct's block is as it was behind an append to one of its rows. -/
theorem SpecRep.top_far {B : Nat} {T : Nat → Nat} {w wa w1 : World} {r : Nat} {S : Sts} {lv hv v : Value} {nv ov : Nat → Value} (h : SpecRep B T w r S lv hv nv ov) (hchg : Chg (fun _ => False) w wa) (hgrow : wa.grownBy w1 v.ownBlock) {t : Nat} (hT : Tagged T v t) (ht : t ≠ 1) :
    w1.heap[r]? = some (.cells #[lv, hv] 50 (0, 0)) :=
  ((hchg.mono (M' := fun b => v.ownBlock = some b) (fun _ f => f.elim)).grown hgrow (fun _ hi => .inl hi)).heapAt h.top (fun e => ht ((hT r e).symm.trans h.tr))

/-- What made gives. -/
def MadePost (B : Nat) (T : Nat → Nat) (w : World) (r : Nat) (S : Sts) (p : Int) (e : Ending) (w' : World) : Prop :=
  e = .returned (.bool true) ∧ ∃ T', SpecAt B T' w' r ⟨S.regs ++ [⟨p, [], []⟩], S.homes⟩ ∧ Chg (fun b => T b ≠ 0) w w' ∧ Ext T T' w

set_option maxHeartbeats 4000000 in
set_option maxRecDepth 100000 in
theorem made_root {B : Nat} {T : Nat → Nat} {w : World} {r : Nat} {S : Sts} (h : SpecAt B T w r S) (hB : B ≤ w.heap.size) (hS : S.regs.length < 30) (kd ix : Int) (nm : ByteArray) :
    Calls Try.prog 25 #[.pointer (some ⟨r, 0, none⟩), .agg #[.int .i64 kd, .int .i64 (-1), .string nm, .int .i64 ix]] w (MadePost B T w r S (-1)) := by
  obtain ⟨lv, hv, nv, ov, h⟩ := h
  obtain ⟨a, cap, rfl⟩ := row_shape h.lrow
  have c0 := h.cell0
  have f0 := h.free 0
  have hrs : r < w.heap.size := h.fresh r (by rw [h.tr]; decide)
  obtain ⟨i0, hi, hz0, hz1, hz2⟩ := info_parts info72
  have HS := Lib.hid h
  have d30 : decide ((30 : Int) ≤ (S.regs.length : Int)) = false := decide_eq_false (by omega)
  clear h
  go_enter Try.func25, Try.ntmps25
  go_wp2
  go_region_law ((refine step_append_lies _ (by rfl) (.tmp 27) (.tmp 31) 47 (by rfl) B 72 i0 (.agg #[.int .i64 0, .slice none 0 0, .slice none 0 0]) 3 56 Try.underlying47 hi hz0 hz1 hz2 (by rfl) (by omega) (.slice a S.regs.length cap) S.regs.length _ (by rfl) ((HS.out.lrow.alloc _).alloc _) ⟨w.heap.size + 1, 0, none⟩ 1 1 [.int .i64 (-1), .slice none 0 0, .slice none 0 0] (by rfl) (by rfl) (news_block (w.alloc _) #[.int .i64 (-1), .slice none 0 0, .slice none 0 0] 72 _ (by simp)) (by simp [Value.oneCell']) (by omega) (by unfold maxLen; omega) (by omega) (by simp; omega) _ rfl ?_; intro g1 cap1 w1 hown1 hgrow1 hat1 hlt1; have ht1 := HS.out.top_far (((Chg.refl _ _).alloc _).alloc _).drew hgrow1 HS.out.tl (by decide); have c1 := cell_of_row w1 r 0 _ 50 (0, 0) ht1; have f1 := frozen_of_row w1 r 0 _ 50 ht1; have HT1 := Lib.hid ht1; clear ht1))
  all_goals
    have HM : Hid (_ ∧ _ ∧ _) := Lib.hid (HS.out.more (p := -1) (((Chg.refl _ _).alloc _).alloc _).drew hgrow1 hown1 hat1 hlt1)
    clear hown1 hgrow1 hat1 hlt1 HT1
    go_wp2
    go_ret
    exact ⟨rfl, _, ⟨_, _, _, _, HM.out.1⟩, HM.out.2.1, HM.out.2.2⟩
set_option maxHeartbeats 4000000 in
set_option maxRecDepth 100000 in
theorem made_in {B : Nat} {T : Nat → Nat} {w : World} {r : Nat} {S : Sts} (h : SpecAt B T w r S) (hB : B ≤ w.heap.size) (hS : S.regs.length < 30) (kd p ix : Int) (nm : ByteArray) (hp : S.has p) :
    Calls Try.prog 25 #[.pointer (some ⟨r, 0, none⟩), .agg #[.int .i64 kd, .int .i64 p, .string nm, .int .i64 ix]] w (MadePost B T w r S p) := by
  obtain ⟨lv, hv, nv, ov, h⟩ := h
  obtain ⟨a, cap, rfl⟩ := row_shape h.lrow
  have c0 := h.cell0
  have f0 := h.free 0
  have hrs : r < w.heap.size := h.fresh r (by rw [h.tr]; decide)
  obtain ⟨i0, hi, hz0, hz1, hz2⟩ := info_parts info72
  have HS := Lib.hid h
  have d30 : decide ((30 : Int) ≤ (S.regs.length : Int)) = false := decide_eq_false (by omega)
  have hp1 : (p == -1) = false := beq_eq_false_iff_ne.mpr (by have := hp.1; omega)
  have hp2 : (p != -1) = true := bne_iff_ne.mpr (by have := hp.1; omega)
  have HH : Hid (hasB S p = true) := Lib.hid (decide_eq_true hp)
  clear h hp
  go_enter Try.func25, Try.ntmps25
  go_wp2_with (go_at_call 26; refine (has_any ⟨_, _, _, _, HS.out.chg ((Chg.refl (fun _ => False) _).alloc _) (fun _ f => f.elim)⟩ p).mono ?_; rintro e w' ⟨rfl, rfl⟩; rw [HH.out])
  go_region_law ((refine step_append_lies _ (by rfl) (.tmp 27) (.tmp 31) 47 (by rfl) B 72 i0 (.agg #[.int .i64 0, .slice none 0 0, .slice none 0 0]) 3 56 Try.underlying47 hi hz0 hz1 hz2 (by rfl) (by omega) (.slice a S.regs.length cap) S.regs.length _ (by rfl) ((HS.out.lrow.alloc _).alloc _) ⟨w.heap.size + 1, 0, none⟩ 1 1 [.int .i64 p, .slice none 0 0, .slice none 0 0] (by rfl) (by rfl) (news_block (w.alloc _) #[.int .i64 p, .slice none 0 0, .slice none 0 0] 72 _ (by simp)) (by simp [Value.oneCell']) (by omega) (by unfold maxLen; omega) (by omega) (by simp; omega) _ rfl ?_; intro g1 cap1 w1 hown1 hgrow1 hat1 hlt1; have ht1 := HS.out.top_far (((Chg.refl _ _).alloc _).alloc _).drew hgrow1 HS.out.tl (by decide); have c1 := cell_of_row w1 r 0 _ 50 (0, 0) ht1; have f1 := frozen_of_row w1 r 0 _ 50 ht1; have HT1 := Lib.hid ht1; clear ht1))
  all_goals
    have HM : Hid (_ ∧ _ ∧ _) := Lib.hid (HS.out.more (p := p) (((Chg.refl _ _).alloc _).alloc _).drew hgrow1 hown1 hat1 hlt1)
    clear hown1 hgrow1 hat1 hlt1 HT1
    go_wp2
    go_ret
    exact ⟨rfl, _, ⟨_, _, _, _, HM.out.1⟩, HM.out.2.1, HM.out.2.2⟩

set_option maxHeartbeats 1000000 in
set_option maxRecDepth 100000 in
/-- The scope that is named as the parent is not there: nothing is made. -/
theorem made_no {B : Nat} {T : Nat → Nat} {w : World} {r : Nat} {S : Sts} (h : SpecAt B T w r S) (kd p ix : Int) (nm : ByteArray) (hp0 : p ≠ -1) (hp : ¬ S.has p) :
    Calls Try.prog 25 #[.pointer (some ⟨r, 0, none⟩), .agg #[.int .i64 kd, .int .i64 p, .string nm, .int .i64 ix]] w fun e w' => e = .returned (.bool false) ∧ Chg (fun _ => False) w w' := by
  have HS := Lib.hid h
  have hp1 : (p == -1) = false := beq_eq_false_iff_ne.mpr hp0
  have hp2 : (p != -1) = true := bne_iff_ne.mpr hp0
  have HH : Hid (hasB S p = false) := Lib.hid (decide_eq_false hp)
  clear h hp hp0
  go_enter Try.func25, Try.ntmps25
  go_wp2_with (go_at_call 26; refine (has_any (HS.out.chg ((Chg.refl (fun _ => False) _).alloc _) (fun _ f => f.elim)) p).mono ?_; rintro e w' ⟨rfl, rfl⟩; rw [HH.out])
  go_ret
  exact ⟨rfl, (Chg.refl _ _).alloc _⟩

set_option maxHeartbeats 1000000 in
set_option maxRecDepth 100000 in
/-- There are thirty scopes: nothing is made. -/
theorem made_full {B : Nat} {T : Nat → Nat} {w : World} {r : Nat} {S : Sts} (h : SpecAt B T w r S) (hS : ¬ S.regs.length < 30) (kd p ix : Int) (nm : ByteArray) (hp : p = -1 ∨ S.has p) :
    Calls Try.prog 25 #[.pointer (some ⟨r, 0, none⟩), .agg #[.int .i64 kd, .int .i64 p, .string nm, .int .i64 ix]] w fun e w' => e = .returned (.bool false) ∧ Chg (fun _ => False) w w' := by
  have HS := Lib.hid h
  obtain ⟨lv, hv, nv, ov, h⟩ := h
  obtain ⟨a, cap, rfl⟩ := row_shape h.lrow
  have c0 := h.cell0
  have hrs : r < w.heap.size := h.fresh r (by rw [h.tr]; decide)
  have d30 : decide ((30 : Int) ≤ (S.regs.length : Int)) = true := decide_eq_true (by omega)
  clear h hS
  by_cases hp0 : p = -1
  · subst hp0
    go_enter Try.func25, Try.ntmps25
    go_wp2
    go_ret
    exact ⟨rfl, (Chg.refl _ _).alloc _⟩
  · have hp1 : (p == -1) = false := beq_eq_false_iff_ne.mpr hp0
    have hp2 : (p != -1) = true := bne_iff_ne.mpr hp0
    have HH : Hid (hasB S p = true) := Lib.hid (decide_eq_true (hp.resolve_left hp0))
    clear hp hp0
    go_enter Try.func25, Try.ntmps25
    go_wp2_with (go_at_call 26; refine (has_any (HS.out.chg ((Chg.refl (fun _ => False) _).alloc _) (fun _ f => f.elim)) p).mono ?_; rintro e w' ⟨rfl, rfl⟩; rw [HH.out])
    go_ret
    exact ⟨rfl, (Chg.refl _ _).alloc _⟩

theorem made_any {B : Nat} {T : Nat → Nat} {w : World} {r : Nat} {S : Sts} (h : SpecAt B T w r S) (hB : B ≤ w.heap.size) (kd p ix : Int) (nm : ByteArray) (hp : p = -1 ∨ S.has p) (hS : S.regs.length < 30) :
    Calls Try.prog 25 #[.pointer (some ⟨r, 0, none⟩), .agg #[.int .i64 kd, .int .i64 p, .string nm, .int .i64 ix]] w (MadePost B T w r S p) := by
  rcases hp with rfl | hp
  · exact made_root h hB hS kd ix nm
  · exact made_in h hB hS kd p ix nm hp

theorem made_not {B : Nat} {T : Nat → Nat} {w : World} {r : Nat} {S : Sts} (h : SpecAt B T w r S) (kd p ix : Int) (nm : ByteArray) (hp : ¬ ((p = -1 ∨ S.has p) ∧ S.regs.length < 30)) :
    Calls Try.prog 25 #[.pointer (some ⟨r, 0, none⟩), .agg #[.int .i64 kd, .int .i64 p, .string nm, .int .i64 ix]] w fun e w' => e = .returned (.bool false) ∧ Chg (fun _ => False) w w' := by
  by_cases h1 : p = -1 ∨ S.has p
  · exact made_full h (fun h2 => hp ⟨h1, h2⟩) kd p ix nm h1
  · exact made_no h kd p ix nm (fun e => h1 (.inl e)) (fun e => h1 (.inr e))
end Go.Proofs.Ytipmpeekfajlcaa
