/-
  fmt.Errorf AT THE FORMATS OF (Product).Validate: it hands back SOME error that is not nil, and turns nothing that was there. The text is left aside: no law here looks at it.
-/
import Derived.Test.Qxb6612200aFmtRows
import Derived.WalkKit
import Derived.WalkSpells
import Derived.WalkLawsBesides
import Derived.Stop.CallBack
import Derived.Stop.IfaceNil
import Derived.Laws.Externs
namespace Go.Proofs.Qxb6612200aFmt
open Go.RowKit Go.Extern.Stop Go.Stop Go.Extern

theorem Hid.mk' {p : Prop} (h : p) : Hid p := h
/-- An error came back. -/
def IsErr (e : Ending) : Prop := ∃ t x, e = .returned (.iface t x)

/-- SOME bool ¦ int ¦ string came back. -/
def SomeBool (e : Ending) : Prop := ∃ r, e = .returned (.bool r)
def SomeInt (e : Ending) : Prop := ∃ n, e = .returned (.int .i64 n)
def SomeStr (e : Ending) : Prop := ∃ s, e = .returned (.string s)

theorem call13 (args : Array Value) (w : World) : (callFunc 13 args).run Tryf.prog w = ((FmtStop.errorf #[9, 39] #[27] args).run Tryf.prog w).andThen fun v w' => .ok (.value v) w' :=
  run_callFunc_extern Tryf.func13 (by kernel_rfl) (by kernel_rfl) (by kernel_rfl) (by kernel_rfl) args w
theorem guard13 (name : String) (w : World) : (FmtStop.guard name).run Tryf.prog w = .ok () w := by kernel_rfl
theorem ptr35 (w : World) : (FmtStop.ptrTo "errors.errorString").run Tryf.prog w = .ok 35 w := by kernel_rfl
theorem elem35 (w : World) : (elemOf 35).run Tryf.prog w = .ok 37 w := by kernel_rfl
def shape9 : List UInt8 := [12, 6, 0, 0, 0, 0, 0, 0, 0, 115, 116, 114, 105, 110, 103]
theorem op9 (name : String) (x : ByteArray) (w : World) : (FmtStop.operand name true 115 false (.iface 9 (.string x))).run Tryf.prog w = .ok (shape9, FmtStop.pack x.data.toList) w := by kernel_rfl
def shape3 : List UInt8 := [5, 3, 0, 0, 0, 0, 0, 0, 0, 105, 110, 116]
theorem op3 (name : String) (x : Int) (w : World) : (FmtStop.operand name true 100 false (.iface 3 (.int .i64 x))).run Tryf.prog w = .ok (shape3, Go.Extern.Stop.digits 8 (x % 2 ^ 64).toNat) w := by kernel_rfl

def fA : ByteArray := ⟨#[112, 114, 111, 100, 117, 99, 116, 32, 37, 115, 32, 104, 97, 115, 32, 97, 32, 110, 97, 109, 101, 32, 111, 102, 32, 37, 100, 32, 98, 121, 116, 101, 115, 44, 32, 109, 111, 114, 101, 32, 116, 104, 97, 110, 32, 37, 100]⟩
def fB : ByteArray := ⟨#[112, 114, 111, 100, 117, 99, 116, 32, 37, 115, 32, 104, 97, 115, 32, 110, 111, 32, 109, 101, 97, 115, 117, 114, 101]⟩
def fC : ByteArray := ⟨#[112, 114, 111, 100, 117, 99, 116, 32, 37, 115, 32, 104, 97, 115, 32, 110, 111, 32, 101, 100, 105, 116, 105, 111, 110]⟩
def fD : ByteArray := ⟨#[112, 114, 111, 100, 117, 99, 116, 32, 37, 115, 32, 104, 97, 115, 32, 97, 110, 32, 101, 100, 105, 116, 105, 111, 110, 32, 119, 105, 116, 104, 32, 110, 111, 32, 110, 97, 109, 101]⟩
def fE : ByteArray := ⟨#[112, 114, 111, 100, 117, 99, 116, 32, 37, 115, 32, 108, 105, 115, 116, 115, 32, 101, 100, 105, 116, 105, 111, 110, 32, 37, 115, 32, 116, 119, 105, 99, 101]⟩
theorem printA (w : World) : (FmtDoors.printed fA 3).run Tryf.prog w = .ok [(0, 115, false), (1, 100, false), (2, 100, false)] w := by kernel_rfl
theorem printB (w : World) : (FmtDoors.printed fB 1).run Tryf.prog w = .ok [(0, 115, false)] w := by kernel_rfl
theorem printC (w : World) : (FmtDoors.printed fC 1).run Tryf.prog w = .ok [(0, 115, false)] w := by kernel_rfl
theorem printD (w : World) : (FmtDoors.printed fD 1).run Tryf.prog w = .ok [(0, 115, false)] w := by kernel_rfl
theorem printE (w : World) : (FmtDoors.printed fE 2).run Tryf.prog w = .ok [(0, 115, false), (1, 115, false)] w := by kernel_rfl

set_option maxHeartbeats 400000 in
theorem errorf1 (f s : ByteArray) (b : Nat) (w : World) (hp : ∀ w, (FmtDoors.printed f 1).run Tryf.prog w = .ok [(0, 115, false)] w) (hc : w.cell? ⟨b, 0, none⟩ = some (.iface 9 (.string s))) :
    Calls Tryf.prog 11 #[.string f, .slice (some ⟨b, 0, none⟩) 1 1] w fun e w' => IsErr e ∧ Below w.heap.size w w' := by
  have h0 := call13
  have h1 := guard13
  have h2 := ptr35
  have h3 := elem35
  have h4 := op9
  go_enter Tryf.func11, Tryf.ntmps11
  go_wp2
  go_ret
  exact ⟨⟨_, _, rfl⟩, ((Below.refl _ _).alloc (Nat.le_refl _) _).drew⟩

set_option maxHeartbeats 400000 in
theorem errorf2 (f s t : ByteArray) (b : Nat) (w : World) (hp : ∀ w, (FmtDoors.printed f 2).run Tryf.prog w = .ok [(0, 115, false), (1, 115, false)] w) (hc : w.cell? ⟨b, 0, none⟩ = some (.iface 9 (.string s))) (hc1 : w.cell? ⟨b, 1, none⟩ = some (.iface 9 (.string t))) :
    Calls Tryf.prog 11 #[.string f, .slice (some ⟨b, 0, none⟩) 2 2] w fun e w' => IsErr e ∧ Below w.heap.size w w' := by
  have h0 := call13
  have h1 := guard13
  have h2 := ptr35
  have h3 := elem35
  have h4 := op9
  go_enter Tryf.func11, Tryf.ntmps11
  go_wp2
  go_ret
  exact ⟨⟨_, _, rfl⟩, ((Below.refl _ _).alloc (Nat.le_refl _) _).drew⟩

set_option maxHeartbeats 400000 in
theorem errorf3 (f s : ByteArray) (m n : Int) (b : Nat) (w : World) (hp : ∀ w, (FmtDoors.printed f 3).run Tryf.prog w = .ok [(0, 115, false), (1, 100, false), (2, 100, false)] w) (hc : w.cell? ⟨b, 0, none⟩ = some (.iface 9 (.string s))) (hc1 : w.cell? ⟨b, 1, none⟩ = some (.iface 3 (.int .i64 m))) (hc2 : w.cell? ⟨b, 2, none⟩ = some (.iface 3 (.int .i64 n))) :
    Calls Tryf.prog 11 #[.string f, .slice (some ⟨b, 0, none⟩) 3 3] w fun e w' => IsErr e ∧ Below w.heap.size w w' := by
  have h0 := call13
  have h1 := guard13
  have h2 := ptr35
  have h3 := elem35
  have h4 := op9
  have h5 := op3
  go_enter Tryf.func11, Tryf.ntmps11
  go_wp2
  go_ret
  exact ⟨⟨_, _, rfl⟩, ((Below.refl _ _).alloc (Nat.le_refl _) _).drew⟩

set_option maxHeartbeats 400000 in
theorem new_any (s : ByteArray) (w : World) : Calls Tryf.prog 9 #[.string s] w fun e w' => IsErr e ∧ Below w.heap.size w w' := by
  go_enter Tryf.func9, Tryf.ntmps9
  go_wp2
  go_ret
  exact ⟨⟨_, _, rfl⟩, (Below.refl _ _).alloc (Nat.le_refl _) _⟩

set_option maxHeartbeats 400000 in
theorem runeStart_any (x : Int) (w : World) : Calls Tryf.prog 12 #[.int .u8 x] w fun e w' => SomeBool e ∧ w' = w := by
  go_enter Tryf.func12, Tryf.ntmps12
  go_wp2
  go_ret
  exact ⟨⟨_, rfl⟩, rfl⟩

set_option maxHeartbeats 400000 in
theorem clip_any (t : ByteArray) (w : World) (ht : t.size ≤ 9223372036854775807) : Calls Tryf.prog 10 #[.string t, .int .i64 64] w fun e w' => SomeStr e ∧ w' = w := by
  by_cases h : (t.size : Int) ≤ 64
  · go_enter Tryf.func10, Tryf.ntmps10
    go_wp2
    go_ret
    exact ⟨⟨_, rfl⟩, rfl⟩
  · go_enter Tryf.func10, Tryf.ntmps10
    go_wp2
    go_loop [5] (fun i => ∃ k : Nat, k ≤ 64 ∧ i = .int .i64 k) (fun i => (intOf i).toNat)
    case atStart => exact ⟨64, Nat.le_refl _, rfl⟩
    case round =>
      obtain ⟨k, hk, rfl⟩ := hrel
      by_cases h0 : (0 : Int) < (k : Int)
      · go_wp2_with fail
        refine (runeStart_any _ _).mono ?_
        rintro e w' ⟨⟨r, rfl⟩, rfl⟩
        cases r
        · go_wp2_with fail
          go_round
          case rel => exact ⟨k - 1, by omega, by congr 1; omega⟩
          case measure => simp [intOf]; omega
        · go_wp2_with fail
          go_ret
          exact ⟨⟨_, rfl⟩, rfl⟩
      · go_wp2_with fail
        go_ret
        exact ⟨⟨_, rfl⟩, rfl⟩

end Go.Proofs.Qxb6612200aFmt
