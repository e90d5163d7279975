/-
  ZZNewKeyringOf.
-/
import Derived.Test.Qxb6612222aW2
import Derived.Test.Qxb6612222aW6
import Derived.Deep.OwnRows
namespace Go.Proofs.Qxb6612222a
open Go.RowKit Go.Shelf Go.Deep

theorem Try.info46 : (Try.prog.info? 46).map (fun i => (i.zero, i.size, i.bytes)) = some (some .nilIface, 1, 16) := by kernel_rfl
theorem Try.info4 : (Try.prog.info? 4).map (fun i => (i.zero, i.size, i.bytes)) = some (some (.bool false), 1, 1) := by kernel_rfl

/-- The list of keys behind k rounds. -/
def rowK (Z : Nat → Int) (fl : Nat → Bool) (PB : Nat → Nat) (k i : Nat) : Value := if i < k then keyV Z fl PB i else .nilIface
def atPB (PB : Nat → Nat) (k b i : Nat) : Nat := if i = k then b else PB i

theorem rowK_step {w : World} {b n k x : Nat} {Z : Nat → Int} {fl : Nat → Bool} {PB : Nat → Nat} (h : w.rowIs b 46 n (rowK Z fl PB k)) (hk : k < n) {v : Value} (hv : v = keyV Z fl (atPB PB k x) k) :
    (w.setCell ⟨b, k, none⟩ v).rowIs b 46 n (rowK Z fl (atPB PB k x) (k + 1)) := by
  refine (h.set k v).congr (fun i hi => ?_)
  unfold rowK
  by_cases h0 : i = k
  · subst h0
    rw [if_pos rfl, if_pos (by omega), hv]
  · rw [if_neg h0]
    by_cases h1 : i < k
    · rw [if_pos h1, if_pos (by omega)]
      unfold keyV atPB
      rw [if_neg h0]
    · rw [if_neg h1, if_neg (by omega)]
theorem rowK_alloc {w : World} {b n k : Nat} {Z : Nat → Int} {fl : Nat → Bool} {PB : Nat → Nat} (h : w.rowIs b 46 n (rowK Z fl PB k)) (o : Obj) : (w.alloc o).rowIs b 46 n (rowK Z fl PB k) := h.alloc o

theorem keyT {Z : Nat → Int} {fl : Nat → Bool} {PB : Nat → Nat} {k x : Nat} (hf : fl k = true) : Value.iface 44 (.agg #[.int .u64 (Z k), .pointer (some ⟨x, 0, none⟩)]) = keyV Z fl (atPB PB k x) k := by
  unfold keyV atPB; rw [if_pos hf, if_pos rfl]
theorem keyF {Z : Nat → Int} {fl : Nat → Bool} {PB : Nat → Nat} {k x : Nat} (hf : fl k = false) : Value.iface 49 (.agg #[.int .u64 (Z k), .pointer none]) = keyV Z fl (atPB PB k x) k := by
  unfold keyV; rw [if_neg (by rw [hf]; simp)]

theorem KRow.later {w w' : World} {v : Value} {d : List (Int × Option Addr)} (h : KRow w v d) (hb : Below w.heap.size w w') : KRow w' v d := h.kept (grownBy_below hb none) (by cases v.ownBlock <;> simp)

theorem KRow.len {w : World} {a : Option Addr} {n c : Nat} {d : List (Int × Option Addr)} (h : KRow w (.slice a n c) d) : n = d.length := by
  obtain ⟨a', cap, e, _⟩ := h
  injection e
theorem KRow.head {w : World} {a : Option Addr} {n c : Nat} {d : List (Int × Option Addr)} (h : KRow w (.slice a n c) d) {i : Nat} (hi : i < n) :
    ∃ g, a = some ⟨g, 0, none⟩ ∧ g < w.heap.size ∧ w.cell? ⟨g, i * 2, none⟩ = some (.int .u64 (d[i]!).1) ∧ w.cell? ⟨g, i * 2 + 1, none⟩ = some (.pointer (d[i]!).2) := by
  obtain ⟨g, cap, e, r⟩ := h.at (by rw [← h.len]; exact hi)
  injection e with e1
  exact ⟨g, e1, r⟩

def serials (d : List (Int × Option Addr)) : List Value := d.map fun x => .int .u64 x.1
def publics (d : List (Int × Option Addr)) : List Value := d.map fun x => .bool x.2.isSome
theorem serials_snoc {d : List (Int × Option Addr)} {q : Nat} (hq : q < d.length) : serials (d.take q) ++ [.int .u64 (d[q]!).1] = serials (d.take (q + 1)) := by
  rw [List.take_succ_eq_append_getElem hq]
  simp only [serials, List.map_append, List.map_cons, List.map_nil, getElem!_pos d q hq]
theorem publics_snoc {d : List (Int × Option Addr)} {q : Nat} (hq : q < d.length) : publics (d.take q) ++ [.bool (!(d[q]!).2.isNone)] = publics (d.take (q + 1)) := by
  rw [List.take_succ_eq_append_getElem hq]
  simp only [publics, List.map_append, List.map_cons, List.map_nil, getElem!_pos d q hq]
  cases d[q].2 <;> rfl
theorem form1 {wr : World} {B e n : Nat} {v : Value} {xs : List Value} (h : wr.ownsRow B e 1 v n xs) : ∃ a c, v = .slice a n c := by
  rcases h.2 with ⟨rfl, rfl⟩ | ⟨g, cap, cur, rfl, _⟩
  · exact ⟨_, _, rfl⟩
  · exact ⟨_, _, rfl⟩
theorem rowAt_of {w : World} {B e n c : Nat} {a : Option Addr} {xs : List Value} {f : Nat → Value} (h : w.ownsRow B e 1 (.slice a n c) n xs) (hf : ∀ i, i < n → xs[i]? = some (f i)) : RowAt w a n f := by
  rcases h.2 with ⟨_, h0⟩ | ⟨g, cap, cur, hv, r⟩
  · exact .inl h0
  · injection hv with e1 e2 e3
    subst e1
    refine .inr ⟨g, 0, rfl, (h.lt g rfl).2, fun i hi => ?_⟩
    rw [Nat.zero_add, h.cellAt i (by omega)]
    exact hf i hi

/-- The flagged serials among the first k. -/
def flagged (Z : Nat → Int) (fl : Nat → Bool) : Nat → List Int
  | 0 => []
  | k + 1 => flagged Z fl k ++ if fl k then [Z k] else []
theorem sigs_fst (Z : Nat → Int) (fl : Nat → Bool) (PB : Nat → Nat) : ∀ k, (sigs Z fl PB k).map Prod.fst = flagged Z fl k
  | 0 => rfl
  | k + 1 => by
    rw [sigs, flagged, List.map_append, sigs_fst Z fl PB k]
    split <;> rfl
theorem vers_pair (Z : Nat → Int) (fl : Nat → Bool) (PB : Nat → Nat) : ∀ k, (vers Z fl PB k).map (fun x => (x.1, x.2.isSome)) = (List.range k).map fun i => (Z i, fl i)
  | 0 => rfl
  | k + 1 => by
    rw [vers, List.map_append, vers_pair Z fl PB k, List.range_succ, List.map_append]
    cases h : fl k <;> simp [h]
/-- WHAT ZZNewKeyringOf ANSWERS. -/
def Split (w' : World) (e : Ending) (Z : Nat → Int) (fl : Nat → Bool) (n : Nat) : Prop :=
  ∃ a1 n1 c1 a2 c2 a3 c3, e = .returned (.tuple #[.slice a1 n1 c1, .slice a2 n c2, .slice a3 n c3]) ∧
    (∃ A : List Int, Sorted A ∧ A.Perm (flagged Z fl n) ∧ n1 = A.length ∧ RowAt w' a1 n1 (fun i => .int .u64 (A.getD i 0))) ∧
    (∃ P : List (Int × Bool), Sorted (P.map Prod.fst) ∧ P.Perm ((List.range n).map fun i => (Z i, fl i)) ∧ RowAt w' a2 n (fun i => .int .u64 (P.getD i (0, false)).1) ∧ RowAt w' a3 n (fun i => .bool (P.getD i (0, false)).2))
theorem split_of {w' : World} {B B' n1 n c1 c2 c3 : Nat} {a1 a2 a3 : Option Addr} {d1 d2 : List (Int × Option Addr)} {Z : Nat → Int} {fl : Nat → Bool} {PB : Nat → Nat} (h1 : d1.Perm (sigs Z fl PB n) ∧ KSorted d1) (h2 : d2.Perm (vers Z fl PB n) ∧ KSorted d2) (e1 : n1 = d1.length) (e2 : n = d2.length)
    (o1 : w'.ownsRow B 26 1 (.slice a1 n1 c1) n1 (serials d1)) (o2 : w'.ownsRow B' 26 1 (.slice a2 n c2) n (serials d2)) (o3 : w'.ownsRow B' 4 1 (.slice a3 n c3) n (publics d2)) :
    Split w' (.returned (.tuple #[.slice a1 n1 c1, .slice a2 n c2, .slice a3 n c3])) Z fl n := by
  refine ⟨a1, n1, c1, a2, c2, a3, c3, rfl, ⟨d1.map Prod.fst, List.pairwise_map.2 h1.2, ?_, by simpa using e1, ?_⟩, ⟨d2.map (fun x => (x.1, x.2.isSome)), ?_, ?_, ?_, ?_⟩⟩
  · rw [← sigs_fst Z fl PB n]; exact h1.1.map _
  · refine rowAt_of o1 fun i hi => ?_
    have hi' : i < d1.length := by omega
    simp [serials, List.getD, hi']
  · rw [List.map_map]; exact List.pairwise_map.2 h2.2
  · rw [← vers_pair Z fl PB n]; exact h2.1.map _
  · refine rowAt_of o2 fun i hi => ?_
    have hi' : i < d2.length := by omega
    simp [serials, List.getD, hi']
  · refine rowAt_of o3 fun i hi => ?_
    have hi' : i < d2.length := by omega
    simp [publics, List.getD, hi']

theorem own_later {B : Nat} {e : TypeId} {k : Nat} {v : Value} {n : Nat} {xs : List Value} {w w' : World} (h : w.ownsRow B e k v n xs) (hb : Below w.heap.size w w') : w'.ownsRow B e k v n xs := by
  refine h.kept (grownBy_below hb none) ?_
  cases v.ownBlock
  · exact .inl rfl
  · exact .inr (by simp)
theorem below_call {w w1 w2 : World} (h : Below w.heap.size w w1) (h2 : Below w1.heap.size w1 w2) : Below w.heap.size w w2 := h.trans (h2.mono h.size)

set_option maxRecDepth 100000 in
set_option maxHeartbeats 1000000 in
theorem of_any (a b : Option Addr) (n c m d : Nat) (Z : Nat → Int) (G : Nat → Bool) (w : World) (hn : n ≤ 4096) (_hm : m ≤ 4096) (h1 : RowAt w a n (fun i => .int .u64 (Z i))) (h2 : RowAt w b m (fun i => .bool (G i))) :
    Calls Try.prog 7 #[.slice a n c, .slice b m d] w fun e w' => Split w' e Z (flag G m) n ∧ Below w.heap.size w w' := by
  have H1 := Hid.mk' h1
  have H2 := Hid.mk' h2
  clear h1 h2
  obtain ⟨i0, hi, hz0, hz1, hz2⟩ := info_parts Try.info26
  obtain ⟨j0, hj, hy0, hy1, hy2⟩ := info_parts Try.info4
  have hmk := run_make_row' (P := Try.prog) 31 46 .nilIface 16 Try.underlying31 Try.info46 rfl .i64 .i64 n (by omega) (by omega)
  go_enter Try.func7, Try.ntmps7
  go_wp2_with fail
  clear hmk
  go_loopw [8] (fun i wr => ∃ k : Nat, k ≤ n ∧ i = .int .i64 k ∧ (∃ PB, wr.rowIs w.heap.size 46 n (rowK Z (flag G m) PB k)) ∧ Below w.heap.size w wr) (fun i _ => n - (intOf i).toNat)
  case atStart => exact ⟨0, Nat.zero_le _, rfl, ⟨fun _ => 0, (World.rowIs_made w .nilIface n 46).congr (fun i _ => by unfold rowK; rw [if_neg (by omega)])⟩, (Below.refl _ _).alloc (Nat.le_refl _) _⟩
  case round =>
    obtain ⟨k, hk, rfl, ⟨PB, hrow0⟩, hb0⟩ := hrel
    have hrow := Hid.mk' hrow0
    have hb := Hid.mk' hb0
    clear hrow0 hb0
    by_cases hlt : k < n
    · obtain ⟨b1, o1, rfl, hl1, c1⟩ := H1.out.at hlt
      have e1 := (hb.out.cell (p := ⟨b1, o1 + k, none⟩) hl1).trans c1
      have f0 := hrow.out.frozen k
      have c0 := hrow.out.cell hlt
      have lt0 := hrow.out.lt
      clear c1
      by_cases hkm : k < m
      · obtain ⟨b2, o2, rfl, hl2, c2⟩ := H2.out.at hkm
        have e2 := (hb.out.cell (p := ⟨b2, o2 + k, none⟩) hl2).trans c2
        have hd : (k : Int) < (m : Int) := by omega
        clear c2
        by_cases hg : G k = true
        · rw [hg] at e2
          have hf : Hid (flag G m k = true) := by simp [Hid, flag, hkm, hg]
          clear hg
          go_wp2_with fail
          go_roundw
          case rel => exact ⟨k + 1, by omega, by go_num, ⟨atPB PB k wr.heap.size, (rowK_step hrow.out hlt (keyT hf.out)).alloc _⟩, (hb.out.setCell (p := ⟨w.heap.size, k, none⟩) (Nat.le_refl _) _).alloc (by simpa [World.setCell] using hb.out.size) _⟩
          case measure => simp [intOf]; omega
        · have hg' : G k = false := by simpa using hg
          rw [hg'] at e2
          have hf : Hid (flag G m k = false) := by simp [Hid, flag, hg']
          clear hg hg'
          go_wp2_with fail
          go_roundw
          case rel => exact ⟨k + 1, by omega, by go_num, ⟨atPB PB k 0, rowK_step hrow.out hlt (keyF hf.out)⟩, hb.out.setCell (p := ⟨w.heap.size, k, none⟩) (Nat.le_refl _) _⟩
          case measure => simp [intOf]; omega
      · have hd : ¬ (k : Int) < (m : Int) := by omega
        have hf : Hid (flag G m k = false) := by simp [Hid, flag, hkm]
        go_wp2_with fail
        go_roundw
        case rel => exact ⟨k + 1, by omega, by go_num, ⟨atPB PB k 0, rowK_step hrow.out hlt (keyF hf.out)⟩, hb.out.setCell (p := ⟨w.heap.size, k, none⟩) (Nat.le_refl _) _⟩
        case measure => simp [intOf]; omega
    · have hke : k = n := by omega
      subst hke
      have K0 : Hid (RowAt wr (some ⟨w.heap.size, 0, none⟩) k (keyV Z (flag G m) PB)) := .inr ⟨w.heap.size, 0, rfl, hrow.out.lt, fun i hi => by
        have := hrow.out.cell hi
        unfold rowK at this
        rw [if_pos hi] at this
        simpa using this⟩
      have hring := Hid.mk' (ring_any (some ⟨w.heap.size, 0, none⟩) k k Z (flag G m) PB wr hn K0.out)
      clear hrow
      go_wp2_with fail
      refine hring.out.mono ?_
      rintro e w1 ⟨⟨a1, n1, c1, a2, n2, c2, rfl, hr1, hr2⟩, hb1⟩
      have B1 := Hid.mk' (below_call hb.out hb1)
      have R1 := Hid.mk' hr1
      have R2 := Hid.mk' hr2
      clear hring hb1 hr1 hr2 K0 hb
      obtain ⟨d1, ⟨hp1, hs1⟩, hk1⟩ := R1.out
      obtain ⟨d2, ⟨hp2, hs2⟩, hk2⟩ := R2.out
      have el1 := hk1.len
      have el2 := hk2.len
      have bl1 : d1.length ≤ k := by rw [hp1.length_eq]; exact sigs_le _ _ _ _
      have bl2 : d2.length = k := by rw [hp2.length_eq]; exact vers_len _ _ _ _
      have D1 := Hid.mk' (And.intro hp1 hs1)
      have D2 := Hid.mk' (And.intro hp2 hs2)
      have K1 := Hid.mk' hk1
      have K2 := Hid.mk' hk2
      have L1 := Hid.mk' el1
      have L2 := Hid.mk' el2
      have L3 := Hid.mk' bl2
      have hn1 : n1 ≤ 4096 := by omega
      have hn2 : n2 ≤ 4096 := by omega
      clear hp1 hs1 hk1 hp2 hs2 hk2 el1 el2 bl1 bl2 R1 R2
      go_wp2_with fail
      obtain ⟨W1, hW1⟩ : ∃ W, W = w1.alloc (.cells #[.slice a1 n1 c1, .slice a2 n2 c2] 53) := ⟨_, rfl⟩
      have BW1 : Hid (Below w1.heap.size w1 W1) := by rw [hW1]; exact (Below.refl _ _).alloc (Nat.le_refl _) _
      have SW1 : W1.heap.size = w1.heap.size + 1 := by rw [hW1]; simp
      have CW1 : Hid (W1.cell? ⟨w1.heap.size, 1, none⟩ = some (.slice a2 n2 c2)) := by rw [hW1]; simp [Hid]
      rw [← hW1]
      have SW := Hid.mk' SW1
      clear hW1 SW1
      go_loopw [10, 61] (fun v i wr => ∃ q : Nat, q ≤ n1 ∧ i = .int .i64 q ∧ (∃ x y, v = .slice x q y) ∧ wr.ownsRow W1.heap.size 26 1 v q (serials (d1.take q)) ∧ Below W1.heap.size W1 wr) (fun _ i _ => n1 - (intOf i).toNat)
      case atStart => exact ⟨0, Nat.zero_le _, rfl, ⟨_, _, rfl⟩, World.ownsRow_nil _ _ _ _, Below.refl _ _⟩
      case round =>
        obtain ⟨q, hq, rfl, ⟨x, y, rfl⟩, hown0, hb0⟩ := hrel
        have hown := Hid.mk' hown0
        have hb := Hid.mk' hb0
        clear hown0 hb0
        by_cases hlt : q < n1
        · obtain ⟨g, rfl, hgl, cg0, cg1⟩ := K1.out.head hlt
          obtain ⟨z, hz⟩ : ∃ z, z = (d1[q]!).1 := ⟨_, rfl⟩
          obtain ⟨p, hp⟩ : ∃ p, p = (d1[q]!).2 := ⟨_, rfl⟩
          rw [← hz] at cg0
          rw [← hp] at cg1
          have gl2 : g < W1.heap.size := Nat.lt_of_lt_of_le hgl BW1.out.size
          have ce0 := (hb.out.cell (p := ⟨g, q * 2, none⟩) gl2).trans ((BW1.out.cell (p := ⟨g, q * 2, none⟩) hgl).trans cg0)
          have ce1 := (hb.out.cell (p := ⟨g, q * 2 + 1, none⟩) gl2).trans ((BW1.out.cell (p := ⟨g, q * 2 + 1, none⟩) hgl).trans cg1)
          have hsz := hb.out.size
          have Hz := Hid.mk' hz
          clear cg0 cg1 hz hp
          go_wp2_with (at_builtin; refine wpList_append_own _ rfl (.tmp 65) (.tmp 68) 22 rfl W1.heap.size 26 i0 _ 1 8 Try.underlying22 hi hz0 hz1 hz2 rfl (by decide) _ q _ rfl ((hown.out.alloc _).alloc _) ⟨wr.heap.size + 1, 0, none⟩ 1 1 [.int .u64 z] rfl rfl ?_ (ints_oneCell .u64 [z]) ?_ ?_ ?_ ?_)
          · have := cell_one_new (wr.alloc (.cells #[.int .u64 z, .pointer p] 44)) (.int .u64 z) 26
            simpa using this
          · unfold maxLen; omega
          · omega
          · simp; omega
          · intro v' w2 hown2 hg2 _
            have eS : serials (d1.take q) ++ [.int .u64 z] = serials (d1.take (q + 1)) := by
              rw [Hz.out]; exact serials_snoc (by rw [← L1.out]; exact hlt)
            rw [eS] at hown2
            obtain ⟨x', y', rfl⟩ := form1 hown2
            have hlt2 := hown.out.lt
            have hb2 := Hid.mk' (((hb.out.alloc hsz (.cells #[.int .u64 z, .pointer p] 44)).alloc (by simp; omega) (.cells #[.int .u64 z] 26)).grown hg2 (by simp; omega) (fun j hj => (hlt2 j hj).1))
            have ho2 := Hid.mk' hown2
            clear hown2 hg2 hlt2 eS hown
            go_wp2_with fail
            go_roundw
            case rel => exact ⟨q + 1, by omega, by go_num, ⟨_, _, rfl⟩, ho2.out, hb2.out⟩
            case measure => simp [intOf]; omega
        · have hqe : q = n1 := by omega
          subst hqe
          have ed : d1.take q = d1 := List.take_of_length_le (by rw [← L1.out]; exact Nat.le_refl _)
          rw [ed] at hown
          have c2' := (hb.out.cell (p := ⟨w1.heap.size, 1, none⟩) (by rw [SW.out]; exact Nat.lt_succ_self _)).trans CW1.out
          have BB := Hid.mk' (below_call (below_call B1.out BW1.out) hb.out)
          have BK := Hid.mk' ((K2.out.later BW1.out).later hb.out)
          have SS := Hid.mk' (Nat.lt_of_lt_of_le (Nat.lt_of_lt_of_le (Nat.lt_succ_self _) (Nat.le_of_eq SW.out.symm)) hb.out.size)
          clear ed hb BW1 CW1 SW B1 K1 K2
          go_wp2_with fail
          clear c2'
          rename World => W2
          go_loopw [11, 12, 74] (fun v u i wq => ∃ r : Nat, r ≤ n2 ∧ i = .int .i64 r ∧ (∃ x y x' y', v = .slice x r y ∧ u = .slice x' r y') ∧ wq.ownsRow W2.heap.size 26 1 v r (serials (d2.take r)) ∧ wq.ownsRow W2.heap.size 4 1 u r (publics (d2.take r)) ∧ Below W2.heap.size W2 wq) (fun _ _ i _ => n2 - (intOf i).toNat)
          case atStart => exact ⟨0, Nat.zero_le _, rfl, ⟨_, _, _, _, rfl, rfl⟩, World.ownsRow_nil _ _ _ _, World.ownsRow_nil _ _ _ _, Below.refl _ _⟩
          case round =>
            obtain ⟨r, hr, rfl, ⟨x3, y3, x4, y4, rfl, rfl⟩, ho3, ho4, hb0⟩ := hrel
            have O3 := Hid.mk' ho3
            have O4 := Hid.mk' ho4
            have hb := Hid.mk' hb0
            clear ho3 ho4 hb0
            by_cases hlt : r < n2
            · obtain ⟨g, rfl, hgl, cg0, cg1⟩ := BK.out.head hlt
              obtain ⟨z, hz⟩ : ∃ z, z = (d2[r]!).1 := ⟨_, rfl⟩
              obtain ⟨p, hp⟩ : ∃ p, p = (d2[r]!).2 := ⟨_, rfl⟩
              rw [← hz] at cg0
              rw [← hp] at cg1
              have ce0 := (hb.out.cell (p := ⟨g, r * 2, none⟩) hgl).trans cg0
              have ce1 := (hb.out.cell (p := ⟨g, r * 2 + 1, none⟩) hgl).trans cg1
              have hsz := hb.out.size
              have Hz := Hid.mk' hz
              have Hp := Hid.mk' hp
              have hlq : Hid (r < d2.length) := by rw [← L2.out]; exact hlt
              clear cg0 cg1 hz hp
              go_wp2_with (at_builtin; refine wpList_append_own _ rfl (.tmp 78) (.tmp 81) 22 rfl W2.heap.size 26 i0 _ 1 8 Try.underlying22 hi hz0 hz1 hz2 rfl (by decide) _ r _ rfl ((O3.out.alloc _).alloc _) ⟨wr.heap.size + 1, 0, none⟩ 1 1 [.int .u64 z] rfl rfl ?_ (ints_oneCell .u64 [z]) ?_ ?_ ?_ ?_)
              · have := cell_one_new (wr.alloc (.cells #[.int .u64 z, .pointer p] 49)) (.int .u64 z) 26
                simpa using this
              · unfold maxLen; omega
              · omega
              · simp; omega
              · intro v' w2 hown2 hg2 _
                have eS : serials (d2.take r) ++ [.int .u64 z] = serials (d2.take (r + 1)) := by
                  rw [Hz.out]; exact serials_snoc hlq.out
                rw [eS] at hown2
                obtain ⟨x', y', rfl⟩ := form1 hown2
                have hlt3 := O3.out.lt
                have hap := rows_apart O4.out O3.out (by decide)
                have ho4' := Hid.mk' (((O4.out.alloc (.cells #[.int .u64 z, .pointer p] 49)).alloc (.cells #[.int .u64 z] 26)).kept hg2 hap)
                have hb2 := Hid.mk' (((hb.out.alloc hsz (.cells #[.int .u64 z, .pointer p] 49)).alloc (by simp; omega) (.cells #[.int .u64 z] 26)).grown hg2 (by simp; omega) (fun j hj => (hlt3 j hj).1))
                have hcell : w2.cell? ⟨wr.heap.size, 1, none⟩ = some (.pointer p) :=
                  hg2.cell (a := ⟨wr.heap.size, 1, none⟩) (by simp) (fun he => by have := (hlt3 _ he.symm).2; simp at this)
                have hsz2 := hb2.out.size
                have ho3' := Hid.mk' hown2
                clear hown2 hg2 hlt3 eS O3 O4 hap hb
                go_wp2_with (at_builtin; refine wpList_append_own _ rfl (.tmp 83) (.tmp 87) 23 rfl W2.heap.size 4 j0 _ 1 1 Try.underlying23 hj hy0 hy1 hy2 rfl (by decide) _ r _ rfl (ho4'.out.alloc _) ⟨w2.heap.size, 0, none⟩ 1 1 [.bool (!p.isNone)] rfl rfl ?_ ?_ ?_ ?_ ?_ ?_)
                · have hpe : (!p.isNone) = p.isSome := by cases p <;> rfl
                  rw [hpe]
                  exact cell_one_new _ _ _
                · intro u hu
                  rw [List.mem_singleton] at hu
                  rw [hu]; rfl
                · unfold maxLen; omega
                · omega
                · simp; omega
                · intro v'' w3 hown3 hg3 _
                  have eP : publics (d2.take r) ++ [.bool p.isSome] = publics (d2.take (r + 1)) := by
                    have := publics_snoc hlq.out
                    rw [← Hp.out] at this
                    rw [← this]
                    cases p <;> rfl
                  rw [eP] at hown3
                  obtain ⟨x'', y'', rfl⟩ := form1 hown3
                  have hlt4 := ho4'.out.lt
                  have hap := rows_apart ho3'.out ho4'.out (by decide)
                  have ho3'' := Hid.mk' ((ho3'.out.alloc (.cells #[.bool p.isSome] 4)).kept hg3 hap)
                  have hb3 := Hid.mk' ((hb2.out.alloc hsz2 (.cells #[.bool p.isSome] 4)).grown hg3 (by simp; omega) (fun j hj => (hlt4 j hj).1))
                  have ho4'' := Hid.mk' hown3
                  clear hown3 hg3 hlt4 eP hap hb2 ho3' ho4' hcell
                  go_wp2_with fail
                  go_roundw
                  case rel => exact ⟨r + 1, by omega, by go_num, ⟨_, _, _, _, rfl, rfl⟩, ho3''.out, ho4''.out, hb3.out⟩
                  case measure => simp [intOf]; omega
            · have hqe : r = n2 := by omega
              have hke : n2 = k := by rw [L2.out]; exact L3.out
              subst hqe
              subst hke
              have ed : d2.take r = d2 := List.take_of_length_le (by rw [← L2.out]; exact Nat.le_refl _)
              rw [ed] at O3 O4
              have R := Hid.mk' (split_of D1.out D2.out L1.out L2.out (own_later hown.out hb.out) O3.out O4.out)
              have RB := Hid.mk' (below_call BB.out hb.out)
              clear O3 O4 hown BB ed D1 D2 L1 L2 L3 BK
              go_wp2_with fail
              go_ret3
              exact ⟨R.out, RB.out⟩

end Go.Proofs.Qxb6612222a
