/-
  THE LAW's WALK.
-/
import Derived.Test.Qxb6612222aW7
import Derived.Laws.CopyOwn
import Derived.Deep.CutRange
namespace Go.Proofs.Qxb6612222a
open Go.RowKit Go.Shelf Go.Deep

/-- The cells that copy takes over. -/
def cellsOf (f : Nat → Value) (n : Nat) : List Value := (List.range n).map f
theorem cellsOf_length (f : Nat → Value) (n : Nat) : (cellsOf f n).length = n := by simp [cellsOf]
theorem cellsOf_src {w : World} {a : Option Addr} {n : Nat} {f : Nat → Value} {dp : Option Addr} (h : RowAt w a n f) : 0 < (cellsOf f n).length → dp = dp ∧ ∃ ad, a = some ad ∧ ∀ j v, (cellsOf f n)[j]? = some v → w.cell? (ad.add j) = some v := by
  rw [cellsOf_length]
  intro hn
  rcases h with h0 | ⟨b, off, rfl, _, hc⟩
  · omega
  · refine ⟨rfl, _, rfl, fun j v hj => ?_⟩
    have hjn : j < n := by
      have := List.getElem?_eq_some_iff.1 hj
      obtain ⟨h, _⟩ := this
      rwa [cellsOf_length] at h
    have hv : v = f j := by simpa [cellsOf, hjn] using hj.symm
    subst hv
    have hcj := hc j hjn
    have ea : (⟨b, off, none⟩ : Addr).add j = ⟨b, off + j, none⟩ := by
      unfold Addr.add
      by_cases h0 : j = 0
      · subst h0; rfl
      · simp [h0]
    rw [ea]
    exact hcj
def made (z : Value) (n : Nat) : List Value := (madeCells #[z] n).toList
theorem made_length (z : Value) (n : Nat) : (made z n).length = n := by simp [made, size_madeCells]
theorem copied {w' : World} {g n : Nat} {t : TypeId} {z : Value} {f : Nat → Value} (h : w'.heap[g]? = some (.cells (splice (made z n) 0 (cellsOf f n)).toArray t (0, 0))) : RowAt w' (some ⟨g, 0, none⟩) n f := by
  have e : splice (made z n) 0 (cellsOf f n) = cellsOf f n := by
    unfold splice
    rw [cellsOf_length, List.drop_of_length_le (by rw [made_length]; omega)]
    simp
  rw [e] at h
  refine .inr ⟨g, 0, rfl, (Array.getElem?_eq_some_iff.1 h).1, fun i hi => ?_⟩
  simp [World.cell?, h, cellsOf, hi]

theorem made_heap (w : World) (z : Value) (n : Nat) (t : TypeId) : (w.alloc (.cells (madeCells #[z] n) t)).heap[w.heap.size]? = some (.cells (made z n).toArray t (0, 0)) := by
  unfold made
  rw [Array.toArray_toList]
  exact blk_alloc_new _ _

theorem copy_any (w : World) (dT elem : TypeId) (z : Value) (f : Nat → Value) (a : Option Addr) (n c : Nat) (hu : Try.prog.underlying dT = some (.slice elem)) (hs : (Try.prog.info? elem).map (·.size) = some 1) (h : RowAt w a n f) (hone : ∀ i, (f i).oneCell' = true) :
    ∃ w2, (Builtin.copy_ #[dT, dT] 3 #[.slice (some ⟨w.heap.size, 0, none⟩) n n, .slice a n c]).run Try.prog (w.alloc (.cells (madeCells #[z] n) elem)) = .ok (goInt n) w2 ∧ RowAt w2 (some ⟨w.heap.size, 0, none⟩) n f ∧ Below w.heap.size w w2 := by
  have hA : Below w.heap.size w (w.alloc (.cells (madeCells #[z] n) elem)) := (Below.refl _ _).alloc (Nat.le_refl _) _
  by_cases hn : n = 0
  · subst hn
    exact ⟨_, run_copy_none (P := Try.prog) _ dT dT 3 elem _ a 0 0 0 c hu hs rfl, .inl rfl, hA⟩
  · obtain ⟨_, ad, rfl, hsrc⟩ := cellsOf_src (dp := none) (h.later hA) (by rw [cellsOf_length]; omega)
    have hg := made_heap w z n elem
    have hrun := run_copy_row (P := Try.prog) (w.alloc (.cells (madeCells #[z] n) elem)) dT dT 3 elem w.heap.size 0 n n ad n c (made z n).toArray elem (cellsOf f n) hu hs hg (by rw [cellsOf_length]; exact (Nat.min_self n).symm) hsrc (by rw [cellsOf_length]; simp [made_length]) (fun v hv => by
      obtain ⟨i, _, rfl⟩ := List.mem_map.1 hv
      exact hone i)
    rw [cellsOf_length] at hrun
    refine ⟨_, hrun, ?_, below_setRow hA (Nat.le_refl _) _⟩
    refine copied (z := z) (t := elem) ?_
    have := setRow_heap (w.alloc (.cells (madeCells #[z] n) elem)) w.heap.size (made z n).toArray (splice (made z n) 0 (cellsOf f n)).toArray elem (0, 0) hg
    simpa [splice, cellsOf_length] using this

theorem flagged_le (Z : Nat → Int) (fl : Nat → Bool) : ∀ k, (flagged Z fl k).length ≤ k
  | 0 => Nat.le_refl _
  | k + 1 => by
    have := flagged_le Z fl k
    unfold flagged
    split <;> simp <;> omega

theorem range_getD {F : List Int} {q : Nat} (h : q = F.length) : (List.range q).map (fun i => F.getD i 0) = F := by
  subst h
  apply List.ext_getElem
  · simp
  · intro i h1 h2
    simp at h1
    simp [List.getD, h1]
theorem fstRow {P : List (Int × Bool)} {M : List Int} (h : P.map Prod.fst = M) : (fun i => Value.int .u64 (P.getD i (0, false)).1) = fun i => Value.int .u64 (M.getD i 0) := by
  subst h
  funext i
  by_cases hi : i < P.length <;> simp [List.getD, hi]

theorem below_drewN (w : World) (q : Nat) : Below w.heap.size w (w.drewN q) := by
  exact ⟨rfl, rfl, rfl, Nat.le_refl _, fun _ _ => rfl⟩
theorem range_getD2 {P : List (Int × Bool)} {q : Nat} (h : P.length = q) : (List.range q).map (fun i => P.getD i (0, false)) = P := by
  subst h
  apply List.ext_getElem
  · simp
  · intro i h1 h2
    simp at h1
    simp [List.getD, h1]
/-- The count of an answered serial that is a signing key; the count among what was handed in. -/
def outG (P : List (Int × Bool)) (v : Int) (j : Nat) : Bool := decide ((P.getD j (0, false)).1 = v) && (P.getD j (0, false)).2
def inG (Z : Nat → Int) (fl : Nat → Bool) (v : Int) (j : Nat) : Bool := decide (Z j = v) && fl j
theorem count_same {P : List (Int × Bool)} {Z : Nat → Int} {fl : Nat → Bool} {n : Nat} (h : P.Perm ((List.range n).map fun i => (Z i, fl i))) (v : Int) : cnt (outG P v) n = cnt (inG Z fl v) n := by
  have e1 := cnt_countP (fun i => P.getD i (0, false)) (fun x => decide (x.1 = v) && x.2) n
  have e2 := cnt_countP (fun i => (Z i, fl i)) (fun x => decide (x.1 = v) && x.2) n
  rw [range_getD2 (by simpa using h.length_eq), h.countP_eq] at e1
  exact e1.trans e2.symm
theorem cnt_t {g : Nat → Bool} {j c : Nat} (h : c = cnt g j) (hg : g j = true) : c + 1 = cnt g (j + 1) := by rw [cnt, if_pos hg, h]
theorem cnt_f {g : Nat → Bool} {j c : Nat} (h : c = cnt g j) (hg : g j = false) : c = cnt g (j + 1) := by rw [cnt, if_neg (by simp [hg]), h]; rfl

set_option maxRecDepth 100000 in
set_option maxHeartbeats 1000000 in
theorem law_walk (a b : Option Addr) (n c m d : Nat) (Z : Nat → Int) (G : Nat → Bool) (w : World) (hn : n ≤ 9223372036854775807) (hm : m ≤ 9223372036854775807) (h1 : RowAt w a n (fun i => .int .u64 (Z i))) (h2 : RowAt w b m (fun i => .bool (G i))) :
    Calls Try.prog 3 #[.slice a n c, .slice b m d] w fun e w' => e = .returned (.bool true) ∧ Below w.heap.size w w' := by
  have H1 := Hid.mk' h1
  have H2 := Hid.mk' h2
  clear h1 h2
  obtain ⟨i0, hi, hz0, hz1, hz2⟩ := info_parts Try.info26
  obtain ⟨j0, hj, hy0, hy1, hy2⟩ := info_parts Try.info4
  have hs26 : (Try.prog.info? 26).map (·.size) = some 1 := by rw [hi]; simp [hz1]
  have hs4 : (Try.prog.info? 4).map (·.size) = some 1 := by rw [hj]; simp [hy1]
  have hcall := Hid.mk' (bytes_any a b n c m d w hn hm)
  go_enter Try.func3, Try.ntmps3
  go_wp2_with fail
  refine hcall.out.mono ?_
  rintro e w' ⟨⟨r, rfl⟩, hw⟩
  have hw' := hw.symm
  subst hw'
  clear hw
  clear hcall
  cases r
  · go_wp2_with fail
    go_ret
    exact ⟨rfl, Below.refl _ _⟩
  by_cases hn4 : n ≤ 4096
  · by_cases hm4 : m ≤ 4096
    · have hd1 : ¬ (4096 : Int) < (n : Int) := by omega
      have hd2 : ¬ (4096 : Int) < (m : Int) := by omega
      go_upto_if 33 with fail
      go_cut [0, 5] from 20 (fun v _ wc => ∃ a' c', v = .slice a' n c' ∧ RowAt wc a' n (fun i => .int .u64 (Z i)) ∧ Below w.heap.size w wc)
      case first =>
        have hmk := run_make_row' (P := Try.prog) 22 26 (.int .u64 0) 8 Try.underlying22 Try.info26 rfl .i64 .i64 n (by omega) (by omega)
        by_cases ha : a = none
        · subst ha
          go_wp2_with fail
          go_meet
          exact ⟨_, _, rfl, H1.out, Below.refl _ _⟩
        · obtain ⟨p, rfl⟩ := Option.ne_none_iff_exists'.1 ha
          clear ha
          obtain ⟨w2, hcp, hr0, hb0⟩ := copy_any w 22 26 (.int .u64 0) _ (some p) n c Try.underlying22 hs26 H1.out (fun _ => rfl)
          have hr := Hid.mk' hr0
          have hb := Hid.mk' hb0
          clear hr0 hb0
          go_wp2_with fail
          go_meet
          exact ⟨_, _, rfl, hr.out, hb.out⟩
      case rest =>
        obtain ⟨a', c', rfl, hr0, hb0⟩ := hcut
        have R1 := Hid.mk' hr0
        have R2 := Hid.mk' (H2.out.later hb0)
        have B1 := Hid.mk' hb0
        clear hr0 hb0 H1 H2
        rename World => V1
        go_upto_if 42 with fail
        go_cut [1, 6] from 20 (fun v _ wc => ∃ b' d', v = .slice b' m d' ∧ RowAt wc b' m (fun i => .bool (G i)) ∧ Below V1.heap.size V1 wc)
        case first =>
          have hmk := run_make_row' (P := Try.prog) 23 4 (.bool false) 1 Try.underlying23 Try.info4 rfl .i64 .i64 m (by omega) (by omega)
          by_cases ha : b = none
          · subst ha
            go_wp2_with fail
            go_meet
            exact ⟨_, _, rfl, R2.out, Below.refl _ _⟩
          · obtain ⟨p, rfl⟩ := Option.ne_none_iff_exists'.1 ha
            clear ha
            obtain ⟨w2, hcp, hr0, hb0⟩ := copy_any V1 23 4 (.bool false) _ (some p) m d Try.underlying23 hs4 R2.out (fun _ => rfl)
            have hr := Hid.mk' hr0
            have hb := Hid.mk' hb0
            clear hr0 hb0
            go_wp2_with fail
            go_meet
            exact ⟨_, _, rfl, hr.out, hb.out⟩
        case rest =>
          obtain ⟨b', d', rfl, hr0, hb0⟩ := hcut
          have S1 := Hid.mk' (R1.out.later hb0)
          have S2 := Hid.mk' hr0
          have B2 := Hid.mk' (below_call B1.out hb0)
          clear hr0 hb0 R1 R2 B1
          rename World => V2
          go_wp2_with fail
          go_loopw [7, 8] (fun v i wr => ∃ k : Nat, k ≤ n ∧ i = .int .i64 k ∧ (∃ x q y, v = .slice x q y ∧ q = (flagged Z (flag G m) k).length ∧ wr.ownsRow V2.heap.size 26 1 (.slice x q y) q (Ints (flagged Z (flag G m) k))) ∧ Below V2.heap.size V2 wr) (fun _ i _ => n - (intOf i).toNat)
          case atStart => exact ⟨0, Nat.zero_le _, rfl, ⟨_, _, _, rfl, rfl, World.ownsRow_nil _ _ _ _⟩, Below.refl _ _⟩
          case round =>
            obtain ⟨k, hk, rfl, ⟨x, q, y, rfl, hq0, hown0⟩, hb0⟩ := hrel
            have hq := Hid.mk' hq0
            have hown := Hid.mk' hown0
            have hb := Hid.mk' hb0
            have hq4 : q ≤ 4096 := by rw [hq0]; exact Nat.le_trans (flagged_le _ _ _) (by omega)
            clear hown0 hb0 hq0
            by_cases hlt : k < n
            · have hfl := Hid.mk' (flag_any b' m d' k G wr hm4 (S2.out.later hb.out))
              obtain ⟨b1, o1, rfl, hl1, c1⟩ := S1.out.at hlt
              have e1 := (hb.out.cell (p := ⟨b1, o1 + k, none⟩) hl1).trans c1
              obtain ⟨z, hz⟩ : ∃ z, z = Z k := ⟨_, rfl⟩
              simp only [← hz] at e1
              have Hz := Hid.mk' hz
              have hsz := hb.out.size
              clear c1 hz
              go_wp2_with fail
              refine hfl.out.mono ?_
              rintro e w1 ⟨rfl, hw⟩
              have hw' := hw.symm
              subst hw'
              clear hw hfl
              by_cases hf : flag G m k = true
              · rw [hf]
                have Hf := Hid.mk' hf
                clear hf
                go_wp2_with (at_builtin; refine wpList_append_own _ rfl (.tmp 59) (.tmp 64) 22 rfl V2.heap.size 26 i0 _ 1 8 Try.underlying22 hi hz0 hz1 hz2 rfl (by decide) _ q _ rfl (hown.out.alloc _) ⟨wr.heap.size, 0, none⟩ 1 1 [.int .u64 z] rfl rfl ?_ (ints_oneCell .u64 [z]) ?_ ?_ ?_ ?_)
                · exact cell_one_new _ _ _
                · unfold maxLen; omega
                · omega
                · simp; omega
                · intro v' w2 hown2 hg2 _
                  have eS : Ints (flagged Z (flag G m) k) ++ [.int .u64 z] = Ints (flagged Z (flag G m) (k + 1)) := by
                    rw [Hz.out, flagged, if_pos Hf.out]; simp [Ints]
                  rw [eS] at hown2
                  obtain ⟨x', y', rfl⟩ := form1 hown2
                  have hlt2 := hown.out.lt
                  have hb2 := Hid.mk' ((hb.out.alloc hsz (.cells #[.int .u64 z] 26)).grown hg2 (by simp; omega) (fun j hj => (hlt2 j hj).1))
                  have ho2 := Hid.mk' hown2
                  have hq2 : Hid (q + 1 = (flagged Z (flag G m) (k + 1)).length) := by
                    rw [flagged, if_pos Hf.out, List.length_append, ← hq.out]; exact Hid.mk' rfl
                  clear hown2 hg2 hlt2 eS hown
                  go_wp2_with fail
                  go_roundw
                  case rel => exact ⟨k + 1, by omega, by go_num, ⟨_, _, _, rfl, hq2.out, ho2.out⟩, hb2.out⟩
                  case measure => simp [intOf]; omega
              · have hf' : flag G m k = false := by simpa using hf
                have eS : flagged Z (flag G m) (k + 1) = flagged Z (flag G m) k := by
                  rw [flagged, if_neg hf, List.append_nil]
                rw [hf']
                have hq2 : Hid (q = (flagged Z (flag G m) (k + 1)).length) := by
                  rw [eS]; exact hq
                have ho2 : Hid (wr.ownsRow V2.heap.size 26 1 (.slice x q y) q (Ints (flagged Z (flag G m) (k + 1)))) := by
                  rw [eS]; exact hown
                clear hf hf' eS hown hq
                go_wp2_with fail
                go_roundw
                case rel => exact ⟨k + 1, by omega, by go_num, ⟨_, _, _, rfl, hq2.out, ho2.out⟩, hb.out⟩
                case measure => simp [intOf]; omega
            · have hke : k = n := by omega
              subst hke
              have B3 := Hid.mk' (below_call B2.out hb.out)
              have T1 := Hid.mk' (S1.out.later hb.out)
              have T2 := Hid.mk' (S2.out.later hb.out)
              obtain ⟨F, hF0⟩ : ∃ F, F = flagged Z (flag G m) k := ⟨_, rfl⟩
              rw [← hF0] at hown hq
              have HF := Hid.mk' hF0
              clear hF0
              have X : Hid (RowAt wr x q (fun i => .int .u64 (F.getD i 0))) := rowAt_of hown.out (fun i hi => ints_get (by
                have hi' : i < F.length := by rw [← hq.out]; exact hi
                simp [List.getD, hi']))
              clear hown S1 S2 hb B2
              rename World => V3
              have hs1 := Hid.mk' (sorted_any x q y (fun i => F.getD i 0) V3 hq4 X.out)
              go_wp2_with fail
              refine hs1.out.mono ?_
              rintro e V4 ⟨rfl, ⟨L, hLl, hLs, hLp, hLo⟩, hLb⟩
              have Lr := Hid.mk' (rowAt_own hLo)
              have Lf : Hid (L.Perm F) := by
                rw [range_getD hq.out] at hLp; exact hLp
              have Ls := Hid.mk' hLs
              have Ll := Hid.mk' hLl
              have B4 := Hid.mk' (below_call B3.out hLb)
              have U1 := Hid.mk' (T1.out.later hLb)
              have U2 := Hid.mk' (T2.out.later hLb)
              clear hs1 hLl hLs hLp hLo hLb T1 T2 B3 X
              have hs2 := Hid.mk' (sorted_any a' k c' Z V4 hn4 U1.out)
              go_wp2_with fail
              refine hs2.out.mono ?_
              rintro e V5 ⟨rfl, ⟨M, hMl, hMs, hMp, hMo⟩, hMb⟩
              have Mr := Hid.mk' (rowAt_own hMo)
              have Mp := Hid.mk' hMp
              have Ms := Hid.mk' hMs
              have Ml := Hid.mk' hMl
              have Lr2 := Hid.mk' (Lr.out.later hMb)
              have B5 := Hid.mk' (below_call B4.out hMb)
              have T1 := Hid.mk' (U1.out.later hMb)
              have T2 := Hid.mk' (U2.out.later hMb)
              clear hs2 hMl hMs hMp hMo hMb U1 U2 B4 Lr
              have hs3 := Hid.mk' (of_any a' b' k c' m d' Z G V5 hn4 hm4 T1.out T2.out)
              go_wp2_with fail
              refine hs3.out.mono ?_
              rintro e V6 ⟨⟨a1, n1, c1, a2, c2, a3, c3, rfl, ⟨A, hAs, hAp, hAl, hAr⟩, ⟨P, hPs, hPp, hPr, hPb⟩⟩, hb6⟩
              have eA : A = L := sorted_unique hAs Ls.out ((hAp.trans (by rw [HF.out])).trans Lf.out.symm)
              have en : n1 = q := by rw [hAl, eA]; exact Ll.out
              subst en
              have eP : P.map Prod.fst = M := sorted_unique hPs Ms.out (by
                refine (hPp.map Prod.fst).trans ?_
                rw [List.map_map]
                exact Mp.out.symm)
              have Ar := Hid.mk' hAr
              have Pr := Hid.mk' (fstRow eP ▸ hPr)
              have Pb := Hid.mk' hPb
              have Pr0 := Hid.mk' hPr
              have Pp := Hid.mk' hPp
              rw [eA] at Ar
              have Lr := Hid.mk' (Lr2.out.later hb6)
              have Mr2 := Hid.mk' (Mr.out.later hb6)
              have B6 := Hid.mk' (below_call B5.out hb6)
              have U1 := Hid.mk' (T1.out.later hb6)
              have U2 := Hid.mk' (T2.out.later hb6)
              clear hs3 hAs hAp hAl hAr hPs hPp hPr hPb hb6 eA eP T1 T2 Mr Lr2 B5 Lf Ls Ll Ms Mp Ml HF hq
              go_wp2_with fail
              refine (equal_any a1 _ n1 c1 _ (fun i => L.getD i 0) V6 hq4 Ar.out Lr.out).mono ?_
              rintro e V7 ⟨rfl, q7, hV7⟩
              have B7 : Hid (Below V6.heap.size V6 V7) := by rw [hV7]; exact below_drewN _ _
              have R1 := Hid.mk' (U1.out.later B7.out)
              have R2 := Hid.mk' (U2.out.later B7.out)
              have Rp := Hid.mk' (Pr.out.later B7.out)
              have Rb := Hid.mk' (Pb.out.later B7.out)
              have R0 := Hid.mk' (Pr0.out.later B7.out)
              have Rm := Hid.mk' (Mr2.out.later B7.out)
              have B8 := Hid.mk' (below_call B6.out B7.out)
              clear hV7 B7 U1 U2 Pr Pb Pr0 Mr2 B6 Ar Lr
              go_wp2_with fail
              refine (equal_any a2 _ k c2 _ (fun i => M.getD i 0) V7 hn4 Rp.out Rm.out).mono ?_
              rintro e V8 ⟨rfl, q8, hV8⟩
              have B7 : Hid (Below V7.heap.size V7 V8) := by rw [hV8]; exact below_drewN _ _
              have U1 := Hid.mk' (R1.out.later B7.out)
              have U2 := Hid.mk' (R2.out.later B7.out)
              have Pb := Hid.mk' (Rb.out.later B7.out)
              have Pr0 := Hid.mk' (R0.out.later B7.out)
              have B9 := Hid.mk' (below_call B8.out B7.out)
              clear hV8 B7 R1 R2 Rp Rb R0 Rm B8
              go_wp2_with fail
              clear hq4
              go_loopw [14] (fun i wr => ∃ t : Nat, t ≤ k ∧ i = .int .i64 t ∧ ∃ u, wr = V8.drewN u) (fun i _ => k - (intOf i).toNat)
              case atStart => exact ⟨0, Nat.zero_le _, rfl, 0, rfl⟩
              case round =>
                obtain ⟨t, ht, rfl, u, rfl⟩ := hrel
                by_cases hlt : t < k
                · obtain ⟨g2, o2, rfl, hl2, c2⟩ := Pr0.out.at hlt
                  obtain ⟨v, hv⟩ : ∃ v, v = (P.getD t (0, false)).1 := ⟨_, rfl⟩
                  simp only [← hv] at c2
                  clear hv
                  go_wp2_with fail
                  clear c2
                  go_loopw [16, 17] (fun c i wr => ∃ r s : Nat, r ≤ k ∧ i = .int .i64 r ∧ c = .int .i64 s ∧ s ≤ r ∧ s = cnt (outG P v) r ∧ ∃ u, wr = V8.drewN u) (fun _ i _ => k - (intOf i).toNat)
                  case atStart => exact ⟨0, 0, Nat.zero_le _, rfl, rfl, Nat.le_refl _, rfl, _, rfl⟩
                  case round =>
                    obtain ⟨r, s, hr, rfl, rfl, hs, hc0, u, rfl⟩ := hrel
                    have hc := Hid.mk' hc0
                    clear hc0
                    by_cases hlt3 : r < k
                    · obtain ⟨g2', o2', e2, hl2', c2⟩ := Pr0.out.at hlt3
                      obtain ⟨g3, o3, rfl, hl3, c3⟩ := Pb.out.at hlt3
                      injection e2 with e2
                      injection e2 with e2a e2b
                      subst e2a
                      subst e2b
                      obtain ⟨y, hy⟩ : ∃ y, y = (P.getD r (0, false)).1 := ⟨_, rfl⟩
                      obtain ⟨z, hz⟩ : ∃ z, z = (P.getD r (0, false)).2 := ⟨_, rfl⟩
                      have hg : Hid (outG P v r = (decide (y = v) && z)) := by rw [outG, ← hy, ← hz]; exact Hid.mk' rfl
                      simp only [← hy] at c2
                      simp only [← hz] at c3
                      clear hy hz
                      by_cases hyv : y = v
                      · subst hyv
                        cases z
                        · have hc2 := Hid.mk' (cnt_f hc.out (hg.out.trans (by simp)))
                          go_wp2_with fail
                          go_roundw
                          case rel => exact ⟨r + 1, s, by omega, by go_num, rfl, by omega, hc2.out, _, rfl⟩
                          case measure => simp [intOf]; omega
                        · have hc2 := Hid.mk' (cnt_t hc.out (hg.out.trans (by simp)))
                          go_wp2_with fail
                          go_roundw
                          case rel => exact ⟨r + 1, s + 1, by omega, by go_num, by go_num, by omega, hc2.out, _, rfl⟩
                          case measure => simp [intOf]; omega
                      · have hc2 := Hid.mk' (cnt_f hc.out (hg.out.trans (by simp [hyv])))
                        go_wp2_with fail
                        go_roundw
                        case rel => exact ⟨r + 1, s, by omega, by go_num, rfl, by omega, hc2.out, _, rfl⟩
                        case measure => simp [intOf]; omega
                    · have hke : r = k := by omega
                      subst hke
                      have hcs : Hid (s = cnt (inG Z (flag G m) v) r) := hc.out.trans (count_same Pp.out v)
                      clear hc
                      go_wp2_with fail
                      go_loopw [18, 19] (fun c i wr => ∃ p x : Nat, p ≤ r ∧ i = .int .i64 p ∧ c = .int .i64 x ∧ x ≤ p ∧ x = cnt (inG Z (flag G m) v) p ∧ ∃ u, wr = V8.drewN u) (fun _ i _ => r - (intOf i).toNat)
                      case atStart => exact ⟨0, 0, Nat.zero_le _, rfl, rfl, Nat.le_refl _, rfl, _, rfl⟩
                      case round =>
                        obtain ⟨p, x', hp, rfl, rfl, hx', hc0, u, rfl⟩ := hrel
                        have hc := Hid.mk' hc0
                        clear hc0
                        by_cases hlt4 : p < r
                        · obtain ⟨g4, o4, rfl, hl4, c4⟩ := U1.out.at hlt4
                          obtain ⟨y, hy⟩ : ∃ y, y = Z p := ⟨_, rfl⟩
                          have hg : Hid (inG Z (flag G m) v p = (decide (y = v) && flag G m p)) := by rw [inG, ← hy]; exact Hid.mk' rfl
                          simp only [← hy] at c4
                          clear hy
                          have hfl := Hid.mk' (flag_any b' m d' p G (V8.drewN u) hm4 (U2.out.later (below_drewN _ _)))
                          by_cases hyv : y = v
                          · subst hyv
                            go_wp2_with fail
                            refine hfl.out.mono ?_
                            rintro e w1 ⟨rfl, hw⟩
                            have hw' := hw.symm
                            subst hw'
                            clear hw hfl
                            by_cases hf : flag G m p = true
                            · have hc2 := Hid.mk' (cnt_t hc.out (hg.out.trans (by simp [hf])))
                              rw [hf]
                              clear hf
                              go_wp2_with fail
                              go_roundw
                              case rel => exact ⟨p + 1, x' + 1, by omega, by go_num, by go_num, by omega, hc2.out, _, rfl⟩
                              case measure => simp [intOf]; omega
                            · have hf' : flag G m p = false := by simpa using hf
                              have hc2 := Hid.mk' (cnt_f hc.out (hg.out.trans (by simp [hf'])))
                              rw [hf']
                              clear hf hf'
                              go_wp2_with fail
                              go_roundw
                              case rel => exact ⟨p + 1, x', by omega, by go_num, rfl, by omega, hc2.out, _, rfl⟩
                              case measure => simp [intOf]; omega
                          · have hc2 := Hid.mk' (cnt_f hc.out (hg.out.trans (by simp [hyv])))
                            go_wp2_with fail
                            go_roundw
                            case rel => exact ⟨p + 1, x', by omega, by go_num, rfl, by omega, hc2.out, _, rfl⟩
                            case measure => simp [intOf]; omega
                        · have hke : p = r := by omega
                          subst hke
                          have hxs : x' = s := hc.out.trans hcs.out.symm
                          subst hxs
                          clear hc hcs
                          go_wp2_with fail
                          go_roundw
                          case rel => exact ⟨t + 1, by omega, by go_num, _, rfl⟩
                          case measure => simp [intOf]; omega
                · go_wp2_with fail
                  go_ret
                  exact ⟨rfl, below_call B9.out (below_drewN _ _)⟩
    · have hd1 : ¬ (4096 : Int) < (n : Int) := by omega
      have hd2 : (4096 : Int) < (m : Int) := by omega
      go_wp2_with fail
      go_ret
      exact ⟨rfl, Below.refl _ _⟩
  · have hd1 : (4096 : Int) < (n : Int) := by omega
    go_wp2_with fail
    go_ret
    exact ⟨rfl, Below.refl _ _⟩

end Go.Proofs.Qxb6612222a
