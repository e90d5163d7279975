/-
  NewKeyring, walked.
-/
import Derived.Test.Qxb6612222aW5
namespace Go.Proofs.Qxb6612222a
open Go.RowKit Go.Shelf

/-- Behind the loop: the two rows, and what the sorts turn. -/
structure Sr (w wr : World) (v1 v2 : Value) (p1 p2 : List (Int × Option Addr) → Prop) : Prop where
  box : Box wr (w.heap.size + 1) v1 v2
  res : Box wr w.heap.size (.slice none 0 0) (.slice none 0 0)
  r1 : ∃ d, p1 d ∧ KRow wr v1 d
  r2 : ∃ d, p2 d ∧ KRow wr v2 d
  bel : Below w.heap.size w wr
  g1 : ∀ b, b < w.heap.size + 2 → some b ≠ v1.ownBlock
  g2 : ∀ b, b < w.heap.size + 2 → some b ≠ v2.ownBlock
  ap : (v1.ownBlock = none ∨ v1.ownBlock ≠ v2.ownBlock) ∧ (v2.ownBlock = none ∨ v2.ownBlock ≠ v1.ownBlock)

theorem St.sr {w wr : World} {Z : Nat → Int} {fl : Nat → Bool} {PB : Nat → Nat} {k1 k2 : Nat} {v1 v2 : Value} (h : St w wr Z fl PB k1 k2 v1 v2) : Sr w wr v1 v2 (fun d => d = sigs Z fl PB k1) (fun d => d = vers Z fl PB k2) :=
  ⟨h.box, h.res, ⟨_, rfl, krow_own h.o1⟩, ⟨_, rfl, krow_own (by rw [vers_len]; exact h.o2)⟩, h.bel, fun b hb => own_ge h.o1 hb, fun b hb => own_ge h.o2 hb, rows_apart h.o1 h.o2 (by decide), rows_apart h.o2 h.o1 (by decide)⟩

theorem below_row {w wr w1 : World} {v : Value} (h : Below w.heap.size w wr) (hg : wr.grownBy w1 v.ownBlock) (hge : ∀ b, b < w.heap.size + 2 → some b ≠ v.ownBlock) : Below w.heap.size w w1 :=
  h.grown hg h.size (fun k hk => by
    cases Nat.lt_or_ge k w.heap.size with
    | inl hlt => exact absurd hk.symm (hge k (by omega))
    | inr hge => exact hge)

theorem Sr.sort1 {w wr w1 : World} {v1 v2 : Value} {d0 : List (Int × Option Addr)} {p2 : List (Int × Option Addr) → Prop} (h : Sr w wr v1 v2 (fun d => d = d0) p2) (hs : Sorts wr w1 v1 d0) : Sr w w1 v1 v2 (fun d => d.Perm d0 ∧ KSorted d) p2 := by
  obtain ⟨⟨d', hp, hso, hr⟩, hg⟩ := hs
  obtain ⟨d2, hd2, hr2⟩ := h.r2
  exact ⟨h.box.kept hg (h.g1 _ (by omega)), h.res.kept hg (h.g1 _ (by omega)), ⟨d', ⟨hp, hso⟩, hr⟩, ⟨d2, hd2, hr2.kept hg h.ap.2⟩, below_row h.bel hg h.g1, h.g1, h.g2, h.ap⟩
theorem Sr.sort2 {w wr w1 : World} {v1 v2 : Value} {d0 : List (Int × Option Addr)} {p1 : List (Int × Option Addr) → Prop} (h : Sr w wr v1 v2 p1 (fun d => d = d0)) (hs : Sorts wr w1 v2 d0) : Sr w w1 v1 v2 p1 (fun d => d.Perm d0 ∧ KSorted d) := by
  obtain ⟨⟨d', hp, hso, hr⟩, hg⟩ := hs
  obtain ⟨d1, hd1, hr1⟩ := h.r1
  exact ⟨h.box.kept hg (h.g2 _ (by omega)), h.res.kept hg (h.g2 _ (by omega)), ⟨d1, hd1, hr1.kept hg h.ap.1⟩, ⟨d', ⟨hp, hso⟩, hr⟩, below_row h.bel hg h.g2, h.g1, h.g2, h.ap⟩

/-- What NewKeyring hands back. -/
def Ring (w' : World) (e : Ending) (S V : List (Int × Option Addr)) : Prop :=
  ∃ a1 n1 c1 a2 n2 c2, e = .returned (.agg #[.slice a1 n1 c1, .slice a2 n2 c2]) ∧ (∃ d, (d.Perm S ∧ KSorted d) ∧ KRow w' (.slice a1 n1 c1) d) ∧ (∃ d, (d.Perm V ∧ KSorted d) ∧ KRow w' (.slice a2 n2 c2) d)

theorem Sr.ring {w wr : World} {a1 a2 : Option Addr} {n1 c1 n2 c2 : Nat} {S V : List (Int × Option Addr)} (h : Sr w wr (.slice a1 n1 c1) (.slice a2 n2 c2) (fun d => d.Perm S ∧ KSorted d) (fun d => d.Perm V ∧ KSorted d)) :
    Ring ((wr.setCell ⟨w.heap.size, 0, none⟩ (.slice a1 n1 c1)).setCell ⟨w.heap.size, 1, none⟩ (.slice a2 n2 c2)) (.returned (.agg #[.slice a1 n1 c1, .slice a2 n2 c2])) S V := by
  obtain ⟨d1, p1, r1⟩ := h.r1
  obtain ⟨d2, p2, r2⟩ := h.r2
  have k1 := (grownBy_set wr w.heap.size 0 (.slice a1 n1 c1))
  have k2 := (grownBy_set (wr.setCell ⟨w.heap.size, 0, none⟩ (.slice a1 n1 c1)) w.heap.size 1 (.slice a2 n2 c2))
  exact ⟨a1, n1, c1, a2, n2, c2, rfl, ⟨d1, p1, (r1.kept k1 (.inr (h.g1 _ (by omega)).symm)).kept k2 (.inr (h.g1 _ (by omega)).symm)⟩, ⟨d2, p2, (r2.kept k1 (.inr (h.g2 _ (by omega)).symm)).kept k2 (.inr (h.g2 _ (by omega)).symm)⟩⟩

set_option maxRecDepth 100000 in
set_option maxHeartbeats 1000000 in
theorem ring_any (a : Option Addr) (n c : Nat) (Z : Nat → Int) (fl : Nat → Bool) (PB : Nat → Nat) (w : World) (hn : n ≤ 4096) (h0 : RowAt w a n (keyV Z fl PB)) :
    Calls Try.prog 9 #[.slice a n c] w fun e w' => Ring w' e (sigs Z fl PB n) (vers Z fl PB n) ∧ Below w.heap.size w w' := by
  have H := Hid.mk' h0
  clear h0
  obtain ⟨i0, hi, hz0, hz1, hz2⟩ := info_parts Try.info44
  obtain ⟨j0, hj, hy0, hy1, hy2⟩ := info_parts Try.info49
  go_enter Try.func9, Try.ntmps9
  go_wp2_with fail
  go_loopw [10] (fun i wr => ∃ k : Nat, k ≤ n ∧ i = .int .i64 k ∧ ∃ a1 n1 c1 a2 c2, St w wr Z fl PB k k (.slice a1 n1 c1) (.slice a2 k c2)) (fun i _ => n - (intOf i).toNat)
  case atStart =>
    refine ⟨0, Nat.zero_le _, rfl, none, 0, 0, none, 0, ?_, World.ownsRow_nil _ _ _ _, World.ownsRow_nil _ _ _ _, ?_, ((Below.refl _ _).alloc (Nat.le_refl _) _).alloc (by simp) _, by simp⟩
    · exact ⟨by simp [go_sem], by simp [go_sem], by simp [go_sem], by simp [go_sem], by simp⟩
    · exact ⟨by simp [go_sem], by simp [go_sem], by simp [go_sem], by simp [go_sem], by simp; omega⟩
  case round =>
    obtain ⟨k, hk, rfl, a1, n1, c1, a2, c2, hst0⟩ := hrel
    have hst := Hid.mk' hst0
    clear hst0
    have hsl := sigs_le Z fl PB k
    by_cases hlt : k < n
    · obtain ⟨b, off, rfl, hblt, hc0⟩ := H.out.at hlt
      have hc := (hst.out.bel.cell (p := ⟨b, off + k, none⟩) hblt).trans hc0
      by_cases hf : fl k = true
      · unfold keyV at hc
        rw [if_pos hf] at hc
        have HF := Hid.mk' hf
        have hta := assertS
        have S0 := Hid.mk' (hst.out.alloc (.cells #[.int .u64 (Z k), .pointer (some ⟨PB k, 0, none⟩)] 44))
        have p1 := S0.out.box.c0
        have p2 := S0.out.box.lt
        have hbig := S0.out.big
        clear hc0 hf
        go_wp2_with (at_builtin; refine wpList_append_own _ rfl (.tmp 21) (.tmp 23) 50 rfl (w.heap.size + 2) 44 i0 _ 2 16 Try.underlying50 hi hz0 hz1 hz2 rfl (by decide) _ (sigs Z fl PB k).length _ rfl (S0.out.o1.alloc _) ⟨wr.heap.size + 1, 0, none⟩ 1 1 [.int .u64 (Z k), .pointer (some ⟨PB k, 0, none⟩)] rfl rfl ?_ (oneCells (Z k, some ⟨PB k, 0, none⟩)) ?_ ?_ ?_ ?_)
        case refine_1 => have := cell_two_new (wr.alloc (.cells #[.int .u64 (Z k), .pointer (some ⟨PB k, 0, none⟩)] 44)) (.int .u64 (Z k)) (.pointer (some ⟨PB k, 0, none⟩)) 44; simpa using this
        case refine_2 => unfold maxLen; omega
        case refine_3 => omega
        case refine_4 => simp at hbig ⊢; omega
        intro v' w0 hown0 hg0 _
        have S0a := S0.out.alloc (.cells #[.int .u64 (Z k), .pointer (some ⟨PB k, 0, none⟩)] 44)
        have S1 := Hid.mk' (S0a.sig HF.out hg0 hown0)
        have bx := S0a.box_sig hg0
        have q1 := bx.c0
        have q2 := bx.f0
        have q3 := bx.lt
        obtain ⟨a4, c4, hv⟩ := row_form hown0
        subst hv
        clear S0a S0 bx hown0 hg0 hta hc p1 p2 hbig hst
        go_wp2_with fail
        have r1 := S1.out.box.c1
        have rf := S1.out.box.f1
        have rl := S1.out.box.lt
        clear q1 q2
        go_region_law (first
          | (refine step_invoke rfl _ _ rfl 67 (.agg #[.int .u64 (Z k), .pointer (some ⟨PB k, 0, none⟩)]) ?_ ?_; · kernel_rfl
             refine (verS _ _ _).mono ?_; rintro e w1 ⟨rfl, hb1⟩; have S2 := Hid.mk' (S1.out.later (undrew hb1)); have r1' := S2.out.box.c1; have rl' := S2.out.box.lt; refine ⟨_, rfl, ?_⟩; clear hb1)
          | (refine step_append_own rfl (.tmp 27) (.tmp 30) 51 rfl (w.heap.size + 2) 49 j0 _ 2 16 Try.underlying51 hj hy0 hy1 hy2 rfl ?_ _ k _ rfl (S2.out.o2.alloc _) ⟨w1.heap.size, 0, none⟩ 1 1 [.int .u64 (Z k), .pointer (some ⟨PB k, 0, none⟩)] rfl rfl (cell_two_new _ _ _ _) (oneCells (Z k, some ⟨PB k, 0, none⟩)) ?_ ?_ ?_ ?_; · decide
             · unfold maxLen; omega
             · omega
             · have := S2.out.big; simp; omega
             intro v' w2 hown2 hg2; have S2a := S2.out.alloc (.cells #[.int .u64 (Z k), .pointer (some ⟨PB k, 0, none⟩)] 49); have S3 := Hid.mk' (S2a.verT HF.out hg2 hown2); have bx := S2a.box_ver hg2; have q1 := bx.c1; have q2 := bx.f1; have q3 := bx.lt; obtain ⟨a3, c3, hv⟩ := row_form hown2; subst hv; clear S2a bx hown2 hg2))
        all_goals
          go_wp2_with fail
          go_roundw
          case rel => exact ⟨k + 1, by omega, by go_num, a4, _, c4, a3, c3, S3.out⟩
          case measure => simp [intOf]; omega
      · unfold keyV at hc
        rw [if_neg hf] at hc
        have HF := Hid.mk' hf
        have hta := assertV
        clear hc0 hf
        go_wp2_with fail
        clear hta hc
        have S1 := Hid.mk' ((hst.out.skip HF.out).later (w' := wr.alloc (.cells #[.int .u64 0, .pointer none] 44)) ((Below.refl _ _).alloc (Nat.le_refl _) _))
        have r1 := S1.out.box.c1
        have rf := S1.out.box.f1
        have rl := S1.out.box.lt
        go_region_law (first
          | (refine step_invoke rfl _ _ rfl 70 (.agg #[.int .u64 (Z k), .pointer none]) ?_ ?_; · kernel_rfl
             refine (verV _ _ _).mono ?_; rintro e w1 ⟨rfl, hb1⟩; have S2 := Hid.mk' (S1.out.later (undrew hb1)); have r1' := S2.out.box.c1; have rl' := S2.out.box.lt; refine ⟨_, rfl, ?_⟩; clear hb1)
          | (refine step_append_own rfl (.tmp 27) (.tmp 30) 51 rfl (w.heap.size + 2) 49 j0 _ 2 16 Try.underlying51 hj hy0 hy1 hy2 rfl ?_ _ k _ rfl (S2.out.o2.alloc _) ⟨w1.heap.size, 0, none⟩ 1 1 [.int .u64 (Z k), .pointer none] rfl rfl (cell_two_new _ _ _ _) (oneCells (Z k, none)) ?_ ?_ ?_ ?_; · decide
             · unfold maxLen; omega
             · omega
             · have := S2.out.big; simp; omega
             intro v' w2 hown2 hg2; have S2a := S2.out.alloc (.cells #[.int .u64 (Z k), .pointer none] 49); have S3 := Hid.mk' (S2a.verF HF.out hg2 hown2); have bx := S2a.box_ver hg2; have q1 := bx.c1; have q2 := bx.f1; have q3 := bx.lt; obtain ⟨a3, c3, hv⟩ := row_form hown2; subst hv; clear S2a bx hown2 hg2))
        all_goals
          go_wp2_with fail
          go_roundw
          case rel => exact ⟨k + 1, by omega, by go_num, a1, n1, c1, a3, c3, S3.out⟩
          case measure => simp [intOf]; omega
    · have hke : k = n := by omega
      subst hke
      have R0 := Hid.mk' hst.out.sr
      have x0 := R0.out.box.c0
      have x1 := R0.out.box.lt
      obtain ⟨_, hd1, hr1⟩ := R0.out.r1
      subst hd1
      have hc1 := Hid.mk' (sort10 _ _ _ hr1 (by omega))
      clear hr1
      go_wp2_with fail
      refine hc1.out.mono ?_
      rintro e w1 ⟨rfl, hs1⟩
      have R1 := Hid.mk' (R0.out.sort1 hs1)
      have y0 := R1.out.box.c1
      have y1 := R1.out.box.lt
      obtain ⟨_, hd2, hr2⟩ := R1.out.r2
      subst hd2
      have hc2 := Hid.mk' (sort13 _ _ _ hr2 (by rw [vers_len]; omega))
      clear hr2 hs1 hc1 x0 x1 R0
      go_wp2_with fail
      refine hc2.out.mono ?_
      rintro e w2 ⟨rfl, hs2⟩
      have R2 := Hid.mk' (R1.out.sort2 hs2)
      have z0 := R2.out.box.c0
      have z1 := R2.out.box.c1
      have t0 := R2.out.res.c0
      have t1 := R2.out.res.c1
      have f0 := R2.out.res.f0
      have f1 := R2.out.res.f1
      have z2 := R2.out.box.lt
      clear hs2 hc2 y0 y1 R1
      go_wp2_with fail
      refine bodyPost_ret (v := .agg #[.slice a1 n1 c1, .slice a2 k c2]) (by simp [results, Try.results9, go_sem, t0, t1]) rfl ⟨R2.out.ring, ?_⟩
      exact (R2.out.bel.setCell (p := ⟨w.heap.size, 0, none⟩) (Nat.le_refl _) _).setCell (p := ⟨w.heap.size, 1, none⟩) (Nat.le_refl _) _

end Go.Proofs.Qxb6612222a
