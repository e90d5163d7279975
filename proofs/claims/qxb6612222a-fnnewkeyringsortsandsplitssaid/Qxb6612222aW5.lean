/-
  NewKeyring.
-/
import Derived.Test.Qxb6612222aW4
import Derived.Deep.RegionLawGrows
namespace Go.Proofs.Qxb6612222a
open Go.RowKit Go.Shelf

/-- append onto a row of the call's own, as one step of a region that draws. -/
theorem step_append_own {P : Program} {ops : Array Oper} {o : Oper} {a : Act} {w : World} {K : Act → World → Prop} {Q : Exit → Act → World → Prop} {E : Prop}
    (hg : o.guard = none) (s x : Operand) (t : TypeId) (hop : o.op = Op.call { callee := Callee.builtin Builtin.append, args := #[s, x], argTypes := #[t, t] })
    (base : Nat) (e : TypeId) (i : TypeInfo) (z : Value) (size bytes : Nat) (h1 : P.underlying t = some (.slice e)) (h2 : P.info? e = some i) (h3 : i.zero = some z) (h4 : i.size = size) (h5 : i.bytes = bytes) (h6 : z.cells.size = size) (h7 : 0 < size)
    (v : Value) (n : Nat) (xs : List Value) (hs : a.eval s = v) (hown : w.ownsRow base e size v n xs)
    (ad : Addr) (m c : Nat) (news : List Value) (hx : a.eval x = .slice (some ad) m c) (hn : news.length = m * size) (hc : ∀ j u, news[j]? = some u → w.cell? (ad.add j) = some u) (h1c : ∀ u ∈ news, u.oneCell' = true)
    (b1 : n + m ≤ maxLen) (b2 : (n + m) * bytes ≤ 140737488355328) (b3 : base ≤ w.heap.size)
    (hK : ∀ v' w', w'.ownsRow base e size v' (n + m) (xs ++ news) → w.grownBy w' v.ownBlock → K (a.put o.dst v') w') :
    if Region.wanted o (yielded ops a.tmps) = true then Oper.wp P o a w K Q else E := by
  have hw : Region.wanted o (yielded ops a.tmps) = true := by simp [Region.wanted, hg]
  rw [if_pos hw]
  exact wp_append_own w s x t hop base e i z size bytes h1 h2 h3 h4 h5 h6 h7 v n xs hs hown ad m c news hx hn hc h1c b1 b2 b3 (fun v' w' r1 r2 _ => hK v' w' r1 r2)

/-- A box of two cells of the call's own. -/
structure Box (w : World) (b : Nat) (u v : Value) : Prop where
  c0 : w.cell? ⟨b, 0, none⟩ = some u
  c1 : w.cell? ⟨b, 1, none⟩ = some v
  f0 : w.frozen? ⟨b, 0, none⟩ = false
  f1 : w.frozen? ⟨b, 1, none⟩ = false
  lt : b < w.heap.size

theorem Box.of_block {w w' : World} {b : Nat} {u v : Value} (h : Box w b u v) (hb : w'.heap[b]? = w.heap[b]?) (hs : w.heap.size ≤ w'.heap.size) : Box w' b u v :=
  ⟨(World.cell?_of_block (a := ⟨b, 0, none⟩) hb).trans h.c0, (World.cell?_of_block (a := ⟨b, 1, none⟩) hb).trans h.c1, (World.frozen?_of_block (a := ⟨b, 0, none⟩) hb).trans h.f0, (World.frozen?_of_block (a := ⟨b, 1, none⟩) hb).trans h.f1, Nat.lt_of_lt_of_le h.lt hs⟩
theorem Box.kept {w w' : World} {b : Nat} {u v : Value} {row : Option Nat} (h : Box w b u v) (hg : w.grownBy w' row) (hne : some b ≠ row) : Box w' b u v := h.of_block (hg.block b h.lt hne) hg.size
theorem Box.below {w w' : World} {b B : Nat} {u v : Value} (h : Box w b u v) (hb : Below B w w') (hlt : b < B) : Box w' b u v := h.of_block (hb.block b hlt) hb.size
theorem Box.alloc {w : World} {b : Nat} {u v : Value} (h : Box w b u v) (o : Obj) : Box (w.alloc o) b u v := h.kept (World.grownBy_alloc w o none) (by simp)

/-- Key i, as it lies in the list. -/
def keyV (Z : Nat → Int) (fl : Nat → Bool) (PB : Nat → Nat) (i : Nat) : Value :=
  if fl i then .iface 44 (.agg #[.int .u64 (Z i), .pointer (some ⟨PB i, 0, none⟩)]) else .iface 49 (.agg #[.int .u64 (Z i), .pointer none])
/-- The signing keys among the first k; the public half of each of the first k. -/
def sigs (Z : Nat → Int) (fl : Nat → Bool) (PB : Nat → Nat) : Nat → List (Int × Option Addr)
  | 0 => []
  | k + 1 => sigs Z fl PB k ++ if fl k then [(Z k, some ⟨PB k, 0, none⟩)] else []
def vers (Z : Nat → Int) (fl : Nat → Bool) (PB : Nat → Nat) : Nat → List (Int × Option Addr)
  | 0 => []
  | k + 1 => vers Z fl PB k ++ [(Z k, if fl k then some ⟨PB k, 0, none⟩ else none)]
theorem sigs_le (Z : Nat → Int) (fl : Nat → Bool) (PB : Nat → Nat) : ∀ k, (sigs Z fl PB k).length ≤ k
  | 0 => Nat.le_refl _
  | k + 1 => by
    have := sigs_le Z fl PB k
    unfold sigs
    split <;> simp <;> omega
theorem vers_len (Z : Nat → Int) (fl : Nat → Bool) (PB : Nat → Nat) : ∀ k, (vers Z fl PB k).length = k
  | 0 => rfl
  | k + 1 => by unfold vers; simp [vers_len Z fl PB k]

theorem Try.info44 : (Try.prog.info? 44).map (fun i => (i.zero, i.size, i.bytes)) = some (some (.agg #[.int .u64 0, .pointer none]), 2, 16) := by kernel_rfl
theorem Try.info49 : (Try.prog.info? 49).map (fun i => (i.zero, i.size, i.bytes)) = some (some (.agg #[.int .u64 0, .pointer none]), 2, 16) := by kernel_rfl

theorem assertV (x : Int) (p : Option Addr) (w : World) : (Instr.typeAssert (.iface 49 (.agg #[.int .u64 x, .pointer p])) 46 44 true).run Try.prog w = .ok (.tuple #[.agg #[.int .u64 0, .pointer none], .bool false]) w := by kernel_rfl
theorem assertS (x : Int) (p : Option Addr) (w : World) : (Instr.typeAssert (.iface 44 (.agg #[.int .u64 x, .pointer p])) 46 44 true).run Try.prog w = .ok (.tuple #[.agg #[.int .u64 x, .pointer p], .bool true]) w := by kernel_rfl

/-- A method called through an interface, as one step of a region that draws. -/
theorem step_invoke {P : Program} {ops : Array Oper} {o : Oper} {a : Act} {w : World} {K : Act → World → Prop} {Q : Exit → Act → World → Prop} {E : Prop}
    (hg : o.guard = none) (x : Operand) (s : String) (_hop : o.op = Op.call { callee := Callee.invoke x s, args := #[], argTypes := #[] }) (f : FuncId) (v : Value) (hrun : (execOp a.eval o).run P w = .ok (.enter f #[v]) w) (hcall : Calls P f #[v] w fun e w' => ∃ r, e = .returned r ∧ K (a.put o.dst r) w') :
    if Region.wanted o (yielded ops a.tmps) = true then Oper.wp P o a w K Q else E := by
  have hw : Region.wanted o (yielded ops a.tmps) = true := by simp [Region.wanted, hg]
  rw [if_pos hw]
  unfold Oper.wp
  rw [hrun, Oper.upon_enter]
  exact hcall.mono fun e w' ⟨r, he, hk⟩ => by subst he; exact hk

theorem undrew {B : Nat} {w w' : World} (h : Below B w.drew w') : Below B w w' := ⟨h.os, h.tape, h.output, h.size, h.block⟩
theorem grownBy_below {w w' : World} (h : Below w.heap.size w w') (row : Option Nat) : w.grownBy w' row := ⟨h.os, h.tape, h.output, h.size, fun k hk _ => h.block k hk⟩
theorem grownBy_set (w : World) (b o : Nat) (v : Value) : w.grownBy (w.setCell ⟨b, o, none⟩ v) (some b) :=
  ⟨rfl, rfl, rfl, by simp [World.setCell], fun k _ hne => Below.heap_setCell _ _ _ _ (fun e => hne (by rw [e]))⟩
theorem Box.set0 {w : World} {b : Nat} {u v : Value} (h : Box w b u v) (x : Value) : Box (w.setCell ⟨b, 0, none⟩ x) b x v :=
  ⟨World.cell?_setCell_same' _ _ _ (by rw [h.c0]; rfl), (World.cell?_setCell_other _ _ _ _ (by simp)).trans h.c1, (World.frozen?_setCell _ _ _ _).trans h.f0, (World.frozen?_setCell _ _ _ _).trans h.f1, by simpa [World.setCell] using h.lt⟩
theorem Box.set1 {w : World} {b : Nat} {u v : Value} (h : Box w b u v) (x : Value) : Box (w.setCell ⟨b, 1, none⟩ x) b u x :=
  ⟨(World.cell?_setCell_other _ _ _ _ (by simp)).trans h.c0, World.cell?_setCell_same' _ _ _ (by rw [h.c1]; rfl), (World.frozen?_setCell _ _ _ _).trans h.f0, (World.frozen?_setCell _ _ _ _).trans h.f1, by simpa [World.setCell] using h.lt⟩

/-- Two rows of different element types never share a block. -/
theorem rows_apart {w : World} {B e1 e2 s1 s2 : Nat} {v1 v2 : Value} {n1 n2 : Nat} {x1 x2 : List Value} (h1 : w.ownsRow B e1 s1 v1 n1 x1) (h2 : w.ownsRow B e2 s2 v2 n2 x2) (he : e1 ≠ e2) : v1.ownBlock = none ∨ v1.ownBlock ≠ v2.ownBlock := by
  rcases h1.2 with ⟨rfl, _⟩ | ⟨g, cap, cur, rfl, _, hb, _⟩
  · exact .inl rfl
  · rcases h2.2 with ⟨rfl, _⟩ | ⟨g2, cap2, cur2, rfl, _, hb2, _⟩
    · exact .inr (by simp [Value.ownBlock])
    · refine .inr fun e => ?_
      simp [Value.ownBlock] at e
      subst e
      rw [hb] at hb2
      simp at hb2
      exact he hb2.2

/-- What holds at each round's head, the world laid bare. -/
structure St (w wr : World) (Z : Nat → Int) (fl : Nat → Bool) (PB : Nat → Nat) (k1 k2 : Nat) (v1 v2 : Value) : Prop where
  box : Box wr (w.heap.size + 1) v1 v2
  o1 : wr.ownsRow (w.heap.size + 2) 44 2 v1 (sigs Z fl PB k1).length (flatL (sigs Z fl PB k1))
  o2 : wr.ownsRow (w.heap.size + 2) 49 2 v2 k2 (flatL (vers Z fl PB k2))
  res : Box wr w.heap.size (.slice none 0 0) (.slice none 0 0)
  bel : Below w.heap.size w wr
  big : w.heap.size + 2 ≤ wr.heap.size

section
variable {w wr : World} {Z : Nat → Int} {fl : Nat → Bool} {PB : Nat → Nat} {k1 k2 : Nat} {v1 v2 : Value}

theorem St.later (h : St w wr Z fl PB k1 k2 v1 v2) {w' : World} (hb : Below wr.heap.size wr w') : St w w' Z fl PB k1 k2 v1 v2 :=
  ⟨h.box.kept (grownBy_below hb none) (by simp), h.o1.kept (grownBy_below hb none) (by cases v1.ownBlock <;> simp), h.o2.kept (grownBy_below hb none) (by cases v2.ownBlock <;> simp), h.res.kept (grownBy_below hb none) (by simp), h.bel.trans (hb.mono h.bel.size), Nat.le_trans h.big hb.size⟩

theorem row_form {B e n : Nat} {v : Value} {xs : List Value} (h : wr.ownsRow B e 2 v n xs) : ∃ a c, v = .slice a n c := by
  rcases h.2 with ⟨rfl, rfl⟩ | ⟨g, cap, cur, rfl, _⟩
  · exact ⟨_, _, rfl⟩
  · exact ⟨_, _, rfl⟩

theorem own_ge {B e n : Nat} {v : Value} {xs : List Value} (h : wr.ownsRow B e 2 v n xs) {b : Nat} (hb : b < B) : some b ≠ v.ownBlock := fun e => by
  have := (h.lt b e.symm).1
  omega

/-- Behind the append onto the public halves and the store into the ring. -/
theorem St.ver (h : St w wr Z fl PB k1 k2 v1 v2) {w2 : World} {v' : Value} (hg : wr.grownBy w2 v2.ownBlock)
    (hown : w2.ownsRow (w.heap.size + 2) 49 2 v' (k2 + 1) (flatL (vers Z fl PB k2) ++ [.int .u64 (Z k2), .pointer (if fl k2 then some ⟨PB k2, 0, none⟩ else none)])) :
    St w (w2.setCell ⟨w.heap.size + 1, 1, none⟩ v') Z fl PB k1 (k2 + 1) v1 v' := by
  have hne1 : some (w.heap.size + 1) ≠ v2.ownBlock := own_ge h.o2 (by omega)
  have hne0 : some w.heap.size ≠ v2.ownBlock := own_ge h.o2 (by omega)
  have g2 := grownBy_set w2 (w.heap.size + 1) 1 v'
  have ho1 := h.o1.kept hg (rows_apart h.o1 h.o2 (by decide))
  have hb2 : Below w.heap.size w w2 := h.bel.grown hg h.bel.size (fun k hk => by have := (h.o2.lt k hk).1; omega)
  refine ⟨(h.box.kept hg hne1).set1 v', ho1.kept g2 (.inr (own_ge ho1 (by omega)).symm), ?_, (h.res.kept hg hne0).kept g2 (by simp), hb2.setCell (p := ⟨w.heap.size + 1, 1, none⟩) (Nat.le_succ _) v', by simpa [World.setCell] using Nat.le_trans h.big hg.size⟩
  have e : flatL (vers Z fl PB (k2 + 1)) = flatL (vers Z fl PB k2) ++ [.int .u64 (Z k2), .pointer (if fl k2 then some ⟨PB k2, 0, none⟩ else none)] := by simp [vers, flatL, encK]
  rw [e]
  exact hown.kept g2 (.inr (own_ge hown (by omega)).symm)

theorem St.verF (h : St w wr Z fl PB k1 k2 v1 v2) (hf : ¬ fl k2 = true) {w2 : World} {v' : Value} (hg : wr.grownBy w2 v2.ownBlock)
    (hown : w2.ownsRow (w.heap.size + 2) 49 2 v' (k2 + 1) (flatL (vers Z fl PB k2) ++ [.int .u64 (Z k2), .pointer none])) :
    St w (w2.setCell ⟨w.heap.size + 1, 1, none⟩ v') Z fl PB k1 (k2 + 1) v1 v' := h.ver hg (by rw [if_neg hf]; exact hown)
theorem St.verT (h : St w wr Z fl PB k1 k2 v1 v2) (hf : fl k2 = true) {w2 : World} {v' : Value} (hg : wr.grownBy w2 v2.ownBlock)
    (hown : w2.ownsRow (w.heap.size + 2) 49 2 v' (k2 + 1) (flatL (vers Z fl PB k2) ++ [.int .u64 (Z k2), .pointer (some ⟨PB k2, 0, none⟩)])) :
    St w (w2.setCell ⟨w.heap.size + 1, 1, none⟩ v') Z fl PB k1 (k2 + 1) v1 v' := h.ver hg (by rw [if_pos hf]; exact hown)
theorem St.box_ver (h : St w wr Z fl PB k1 k2 v1 v2) {w2 : World} (hg : wr.grownBy w2 v2.ownBlock) : Box w2 (w.heap.size + 1) v1 v2 := h.box.kept hg (own_ge h.o2 (by omega))
theorem St.box_sig (h : St w wr Z fl PB k1 k2 v1 v2) {w2 : World} (hg : wr.grownBy w2 v1.ownBlock) : Box w2 (w.heap.size + 1) v1 v2 := h.box.kept hg (own_ge h.o1 (by omega))
theorem St.alloc (h : St w wr Z fl PB k1 k2 v1 v2) (o : Obj) : St w (wr.alloc o) Z fl PB k1 k2 v1 v2 := h.later ((Below.refl _ _).alloc (Nat.le_refl _) _)

/-- Behind the append onto the signing keys and the store into the ring. -/
theorem St.sig (h : St w wr Z fl PB k1 k2 v1 v2) (hf : fl k1 = true) {w2 : World} {v' : Value} (hg : wr.grownBy w2 v1.ownBlock)
    (hown : w2.ownsRow (w.heap.size + 2) 44 2 v' ((sigs Z fl PB k1).length + 1) (flatL (sigs Z fl PB k1) ++ [.int .u64 (Z k1), .pointer (some ⟨PB k1, 0, none⟩)])) :
    St w (w2.setCell ⟨w.heap.size + 1, 0, none⟩ v') Z fl PB (k1 + 1) k2 v' v2 := by
  have hne1 : some (w.heap.size + 1) ≠ v1.ownBlock := own_ge h.o1 (by omega)
  have hne0 : some w.heap.size ≠ v1.ownBlock := own_ge h.o1 (by omega)
  have g2 := grownBy_set w2 (w.heap.size + 1) 0 v'
  have ho2 := h.o2.kept hg (rows_apart h.o2 h.o1 (by decide))
  have hb2 : Below w.heap.size w w2 := h.bel.grown hg h.bel.size (fun k hk => by have := (h.o1.lt k hk).1; omega)
  refine ⟨(h.box.kept hg hne1).set0 v', ?_, ho2.kept g2 (.inr (own_ge ho2 (by omega)).symm), (h.res.kept hg hne0).kept g2 (by simp), hb2.setCell (p := ⟨w.heap.size + 1, 0, none⟩) (Nat.le_succ _) v', by simpa [World.setCell] using Nat.le_trans h.big hg.size⟩
  have e : sigs Z fl PB (k1 + 1) = sigs Z fl PB k1 ++ [(Z k1, some ⟨PB k1, 0, none⟩)] := by simp [sigs, hf]
  have e2 : flatL (sigs Z fl PB (k1 + 1)) = flatL (sigs Z fl PB k1) ++ [.int .u64 (Z k1), .pointer (some ⟨PB k1, 0, none⟩)] := by rw [e]; simp [flatL, encK]
  rw [e2, e]
  have := hown.kept g2 (.inr (own_ge hown (by omega)).symm)
  simpa using this
theorem St.skip (h : St w wr Z fl PB k1 k2 v1 v2) (hf : ¬ fl k1 = true) : St w wr Z fl PB (k1 + 1) k2 v1 v2 := by
  have e : sigs Z fl PB (k1 + 1) = sigs Z fl PB k1 := by simp [sigs, hf]
  exact ⟨h.box, by rw [e]; exact h.o1, h.o2, h.res, h.bel, h.big⟩
end

end Go.Proofs.Qxb6612222a
