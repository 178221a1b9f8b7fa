/- Integers of the type codes 1 to 4: their fields. -/
import Derived.Test.YtipoenpakjpokaaGreatDoorIntsEnc
import Derived.Test.YtipoenpakjpokaaGreatDoorIntsDec
import Derived.Test.YtipoenpakjpokaaGreatDoorRoCore
import Derived.Test.YtipoenpakjpokaaGreatDoorValOf
import Derived.Test.YtipoenpakjpokaaGreatDoorBools
set_option linter.unusedVariables false
set_option linter.unusedSimpArgs false
namespace Go.Proofs.YtipoenpakjpokaaGreatDoor
open Go.RowKit

@[go_sem] theorem as_i_i1 (v : Value) (w : World) : (Instr.typeAssert (.iface 2 v) 20 2 false).run Tryz.prog w = .ok v w := by kernel_rfl

/- ---- Tinyint ---- -/
set_option maxRecDepth 100000 in
theorem fieldTinyint (w : World) (base E S W : Nat) (tr : Value) (xs : List Int) (i : Int) (h : EncAt w base E S W tr xs) (h0 : 0 ≤ i) (h1 : i < 256) (hl : xs.length ≤ 1000) :
    Calls Tryz.prog 55 #[.pointer (some ⟨E, 0, none⟩), .iface 2 (.int .i64 i)] w fun e w' =>
      e = .returned .nilIface ∧ EncAt w' base E S W tr (xs ++ leB i 1) ∧ Below base w w' := by
  have hwr : IntKind.u8.wrap i = i := by simp [IntKind.wrap, IntKind.bits, IntKind.signed]; omega
  have hwr' := Lib.hid hwr; clear hwr
  go_enter Tryz.func55, Tryz.ntmps55
  go_wp2_with (go_at_call 103; go_in)
  refine (byte_any w base E S W tr xs h i (by omega)).mono ?_
  rintro e w1 ⟨rfl, h1, hb⟩
  go_wp2
  go_ret
  exact ⟨rfl, by simpa [leB, Int.emod_eq_of_lt h0 (show i < 256 by omega)] using h1, hb⟩

set_option maxRecDepth 100000 in
theorem prmTinyint (w : World) (base E S W F : Nat) (tr : Value) (xs : List Int) (i : Int) (h : EncAt w base E S W tr xs) (h0 : 0 ≤ i) (h1 : i < 256) (hl : xs.length ≤ 100)
    (hF : w.cell? ⟨F, 5, none⟩ = some (.int .u8 1)) (hFb : F < base) :
    Calls Tryz.prog 31 #[.pointer (some ⟨F, 0, none⟩), .pointer (some ⟨E, 0, none⟩), .iface 2 (.int .i64 i)] w fun e w' =>
      e = .returned .nilIface ∧ EncAt w' base E S W tr (xs ++ [1] ++ leB i 1) ∧ Below base w w' := by
  have key : ∀ w1, EncAt w1 base E S W tr (xs ++ [1]) → Calls Tryz.prog 55 #[.pointer (some ⟨E, 0, none⟩), .iface 2 (.int .i64 i)] w1 fun e w' =>
      e = .returned .nilIface ∧ EncAt w' base E S W tr (xs ++ [1] ++ leB i 1) ∧ Below base w1 w' := fun w1 h1' => fieldTinyint w1 base E S W tr (xs ++ [1]) i h1' h0 h1 (by simp; omega)
  have key' := Lib.hid key; clear key
  clear h0 h1
  go_enter Tryz.func31, Tryz.ntmps31
  go_wp2_with (first | (go_at_call 52; go_in) | (go_at_call 48; go_in))
  refine (byte_any w base E S W tr xs h 1 (by omega)).mono ?_
  rintro e w1 ⟨rfl, h1, hb⟩
  have hF1 : w1.cell? ⟨F, 5, none⟩ = some (.int .u8 1) := (hb.cell (p := ⟨F, 5, none⟩) hFb).trans hF
  go_wp2_with fail
  refine (key'.out w1 h1).mono ?_
  rintro e w2 ⟨rfl, h2, hb2⟩
  go_wp2
  go_ret
  exact ⟨rfl, h2, hb.trans hb2⟩

set_option maxRecDepth 100000 in
theorem sizeTinyint (w : World) (F : Nat) (x : Value) (hF : w.cell? ⟨F, 5, none⟩ = some (.int .u8 1)) :
    Calls Tryz.prog 15 #[.pointer (some ⟨F, 0, none⟩), .iface 2 x] w fun e w' => e = .returned (.int .i64 1) ∧ w = w' := by
  go_enter Tryz.func15, Tryz.ntmps15
  go_wp2
  go_ret
  exact ⟨by simp, rfl⟩

theorem fbTinyint (w : World) (i : Int) (h0 : 0 ≤ i) (h1 : i < 256) :
    Calls Tryz.prog 6 #[.int .i64 1, .agg (plainVal 2 false i 0 (.slice none 0 0)), .int .i64 0, .int .i64 0] w fun e w' =>
      ∃ v, e = .returned (.tuple #[v, .int .i64 1, .int .i64 0]) ∧ w'.ownsRow w.heap.size 5 1 v 2 (u8s (1 :: leB i 1)) ∧ Below w.heap.size w w' := by
  refine (fbCore w 1 0 0 1 _ rfl (.iface 2 (.int .i64 i)) (1 :: leB i 1) (fun _ _ => True) (by decide) (by decide) (by decide) (by decide) (by decide) (by decide) ?_ (fun _ _ _ _ _ => trivial) ?_ ?_).mono ?_
  · intro W hW _
    exact (anyOf2 W _ _ _ _ _ _ _ _).mono fun e w' ⟨h1, h2⟩ => ⟨h1, trivial, h2 ▸ (Below.refl _ W).alloc (Nat.le_refl _) _⟩
  · intro W B F hF _
    exact (sizeTinyint W F _ hF.cells.2.2).mono fun e w' ⟨h1, h2⟩ => ⟨h1, h2 ▸ Below.refl _ W⟩
  · intro W base B E S Wr F tr _ hF hFb _ _ hE
    exact zzFieldBytes_any W _ _ _ _ (prmTinyint W base E S Wr F tr [] i hE h0 h1 (by simp) hF.cells.2.2 hFb)
  · rintro e w' ⟨v, h1, h2, h3⟩
    exact ⟨v, h1, by simpa using h2, h3⟩

set_option maxRecDepth 100000 in
theorem decTinyint (W : World) (base D S rb ro n c : Nat) (tr : Value) (dfv emp : Bool) (bs : List Int) (k : Nat) (i : Int) (h0 : 0 ≤ i) (h1 : i < 256) (hx : (bs.drop k).take 1 = leB i 1) (hkn : k + 1 ≤ n) (scale : Int)
    (h : DecAt W base D S rb ro n c tr dfv emp k) (hin : Input W rb ro n c bs) :
    Calls Tryz.prog 78 #[.int .u8 1, .pointer (some ⟨D, 0, none⟩), .int .i64 scale] W fun e w' =>
      ∃ x y, e = .returned (.tuple #[x, y]) ∧ x = .iface 2 (.int .i64 i) ∧ y = .nilIface ∧ DecAt w' base D S rb ro n c tr dfv emp (k + 1) ∧ Below base W w' := by
  have hn := hin.len
  have hn' := Lib.hid hn; clear hn
  have hx' := Lib.hid hx
  go_enter Tryz.func78, Tryz.ntmps78
  clear hx
  go_wp2_with fail
  have hx := hx'.out
  have hn := hn'.out
  refine (decByte_any W base D S rb ro n c tr dfv emp k bs h hin (by omega)).mono ?_
  rintro e w1 ⟨rfl, hd1, hk1, hb1⟩
  clear hx hn
  have hb : bs[k]'(by have := hin.len; omega) = i := by
    have := congrArg (·[0]?) hx'.out
    simp [leB, List.getElem?_eq_getElem (show k < bs.length by have := hin.len; omega)] at this
    omega
  rw [hb]
  clear hb
  go_wp2_with fail
  go_ret2
  exact ⟨_, _, rfl, rfl, rfl, hd1, hb1⟩

/- ---- Smallint ---- -/
set_option maxRecDepth 100000 in
theorem fieldSmallint (w : World) (base E S W : Nat) (tr : Value) (xs : List Int) (i : Int) (h : EncAt w base E S W tr xs) (h0 : -32768 ≤ i) (h1 : i < 32768) (hl : xs.length ≤ 1000) :
    Calls Tryz.prog 56 #[.pointer (some ⟨E, 0, none⟩), .iface 2 (.int .i64 i)] w fun e w' =>
      e = .returned .nilIface ∧ EncAt w' base E S W tr (xs ++ leB i 2) ∧ Below base w w' := by
  have hwr : IntKind.i16.wrap i = i := by simp [IntKind.wrap, IntKind.bits, IntKind.signed]; omega
  have hwr' := Lib.hid hwr; clear hwr
  go_enter Tryz.func56, Tryz.ntmps56
  go_wp2_with (go_at_call 104; go_in)
  refine (encInt16 w base E S W tr xs h i h0 h1 (by omega)).mono ?_
  rintro e w1 ⟨rfl, h1, hb⟩
  go_wp2
  go_ret
  exact ⟨rfl, by exact h1, hb⟩

set_option maxRecDepth 100000 in
theorem prmSmallint (w : World) (base E S W F : Nat) (tr : Value) (xs : List Int) (i : Int) (h : EncAt w base E S W tr xs) (h0 : -32768 ≤ i) (h1 : i < 32768) (hl : xs.length ≤ 100)
    (hF : w.cell? ⟨F, 5, none⟩ = some (.int .u8 2)) (hFb : F < base) :
    Calls Tryz.prog 31 #[.pointer (some ⟨F, 0, none⟩), .pointer (some ⟨E, 0, none⟩), .iface 2 (.int .i64 i)] w fun e w' =>
      e = .returned .nilIface ∧ EncAt w' base E S W tr (xs ++ [2] ++ leB i 2) ∧ Below base w w' := by
  have key : ∀ w1, EncAt w1 base E S W tr (xs ++ [2]) → Calls Tryz.prog 56 #[.pointer (some ⟨E, 0, none⟩), .iface 2 (.int .i64 i)] w1 fun e w' =>
      e = .returned .nilIface ∧ EncAt w' base E S W tr (xs ++ [2] ++ leB i 2) ∧ Below base w1 w' := fun w1 h1' => fieldSmallint w1 base E S W tr (xs ++ [2]) i h1' h0 h1 (by simp; omega)
  have key' := Lib.hid key; clear key
  clear h0 h1
  go_enter Tryz.func31, Tryz.ntmps31
  go_wp2_with (first | (go_at_call 52; go_in) | (go_at_call 48; go_in))
  refine (byte_any w base E S W tr xs h 2 (by omega)).mono ?_
  rintro e w1 ⟨rfl, h1, hb⟩
  have hF1 : w1.cell? ⟨F, 5, none⟩ = some (.int .u8 2) := (hb.cell (p := ⟨F, 5, none⟩) hFb).trans hF
  go_wp2_with fail
  refine (key'.out w1 h1).mono ?_
  rintro e w2 ⟨rfl, h2, hb2⟩
  go_wp2
  go_ret
  exact ⟨rfl, h2, hb.trans hb2⟩

set_option maxRecDepth 100000 in
theorem sizeSmallint (w : World) (F : Nat) (x : Value) (hF : w.cell? ⟨F, 5, none⟩ = some (.int .u8 2)) :
    Calls Tryz.prog 15 #[.pointer (some ⟨F, 0, none⟩), .iface 2 x] w fun e w' => e = .returned (.int .i64 2) ∧ w = w' := by
  go_enter Tryz.func15, Tryz.ntmps15
  go_wp2
  go_ret
  exact ⟨by simp, rfl⟩

theorem fbSmallint (w : World) (i : Int) (h0 : -32768 ≤ i) (h1 : i < 32768) :
    Calls Tryz.prog 6 #[.int .i64 2, .agg (plainVal 2 false i 0 (.slice none 0 0)), .int .i64 0, .int .i64 0] w fun e w' =>
      ∃ v, e = .returned (.tuple #[v, .int .i64 2, .int .i64 0]) ∧ w'.ownsRow w.heap.size 5 1 v 3 (u8s (2 :: leB i 2)) ∧ Below w.heap.size w w' := by
  refine (fbCore w 2 0 0 2 _ rfl (.iface 2 (.int .i64 i)) (2 :: leB i 2) (fun _ _ => True) (by decide) (by decide) (by decide) (by decide) (by decide) (by decide) ?_ (fun _ _ _ _ _ => trivial) ?_ ?_).mono ?_
  · intro W hW _
    exact (anyOf2 W _ _ _ _ _ _ _ _).mono fun e w' ⟨h1, h2⟩ => ⟨h1, trivial, h2 ▸ (Below.refl _ W).alloc (Nat.le_refl _) _⟩
  · intro W B F hF _
    exact (sizeSmallint W F _ hF.cells.2.2).mono fun e w' ⟨h1, h2⟩ => ⟨h1, h2 ▸ Below.refl _ W⟩
  · intro W base B E S Wr F tr _ hF hFb _ _ hE
    exact zzFieldBytes_any W _ _ _ _ (prmSmallint W base E S Wr F tr [] i hE h0 h1 (by simp) hF.cells.2.2 hFb)
  · rintro e w' ⟨v, h1, h2, h3⟩
    exact ⟨v, h1, by simpa using h2, h3⟩

set_option maxRecDepth 100000 in
theorem decSmallint (W : World) (base D S rb ro n c : Nat) (tr : Value) (dfv emp : Bool) (bs : List Int) (k : Nat) (i : Int) (h0 : -32768 ≤ i) (h1 : i < 32768) (hx : (bs.drop k).take 2 = leB i 2) (hkn : k + 2 ≤ n) (scale : Int)
    (h : DecAt W base D S rb ro n c tr dfv emp k) (hin : Input W rb ro n c bs) :
    Calls Tryz.prog 78 #[.int .u8 2, .pointer (some ⟨D, 0, none⟩), .int .i64 scale] W fun e w' =>
      ∃ x y, e = .returned (.tuple #[x, y]) ∧ x = .iface 2 (.int .i64 i) ∧ y = .nilIface ∧ DecAt w' base D S rb ro n c tr dfv emp (k + 2) ∧ Below base W w' := by
  have hn := hin.len
  have hn' := Lib.hid hn; clear hn
  have hx' := Lib.hid hx
  go_enter Tryz.func78, Tryz.ntmps78
  clear hx
  go_wp2_with fail
  have hx := hx'.out
  have hn := hn'.out
  refine (decInt16 W base D S rb ro n c tr dfv emp k bs i h0 h1 hx h hin (by omega)).mono ?_
  rintro e w1 ⟨rfl, hd1, hk1, hb1⟩
  clear hx hn
  go_wp2_with fail
  go_ret2
  exact ⟨_, _, rfl, rfl, rfl, hd1, hb1⟩

/- ---- Integer ---- -/
set_option maxRecDepth 100000 in
theorem fieldInteger (w : World) (base E S W : Nat) (tr : Value) (xs : List Int) (i : Int) (h : EncAt w base E S W tr xs) (h0 : -2147483648 ≤ i) (h1 : i < 2147483648) (hl : xs.length ≤ 1000) :
    Calls Tryz.prog 57 #[.pointer (some ⟨E, 0, none⟩), .iface 2 (.int .i64 i)] w fun e w' =>
      e = .returned .nilIface ∧ EncAt w' base E S W tr (xs ++ leB i 4) ∧ Below base w w' := by
  have hwr : IntKind.i32.wrap i = i := by simp [IntKind.wrap, IntKind.bits, IntKind.signed]; omega
  have hwr' := Lib.hid hwr; clear hwr
  go_enter Tryz.func57, Tryz.ntmps57
  go_wp2_with (go_at_call 105; go_in)
  refine (encInt32 w base E S W tr xs h i h0 h1 (by omega)).mono ?_
  rintro e w1 ⟨rfl, h1, hb⟩
  go_wp2
  go_ret
  exact ⟨rfl, by exact h1, hb⟩

set_option maxRecDepth 100000 in
theorem prmInteger (w : World) (base E S W F : Nat) (tr : Value) (xs : List Int) (i : Int) (h : EncAt w base E S W tr xs) (h0 : -2147483648 ≤ i) (h1 : i < 2147483648) (hl : xs.length ≤ 100)
    (hF : w.cell? ⟨F, 5, none⟩ = some (.int .u8 3)) (hFb : F < base) :
    Calls Tryz.prog 31 #[.pointer (some ⟨F, 0, none⟩), .pointer (some ⟨E, 0, none⟩), .iface 2 (.int .i64 i)] w fun e w' =>
      e = .returned .nilIface ∧ EncAt w' base E S W tr (xs ++ [3] ++ leB i 4) ∧ Below base w w' := by
  have key : ∀ w1, EncAt w1 base E S W tr (xs ++ [3]) → Calls Tryz.prog 57 #[.pointer (some ⟨E, 0, none⟩), .iface 2 (.int .i64 i)] w1 fun e w' =>
      e = .returned .nilIface ∧ EncAt w' base E S W tr (xs ++ [3] ++ leB i 4) ∧ Below base w1 w' := fun w1 h1' => fieldInteger w1 base E S W tr (xs ++ [3]) i h1' h0 h1 (by simp; omega)
  have key' := Lib.hid key; clear key
  clear h0 h1
  go_enter Tryz.func31, Tryz.ntmps31
  go_wp2_with (first | (go_at_call 52; go_in) | (go_at_call 48; go_in))
  refine (byte_any w base E S W tr xs h 3 (by omega)).mono ?_
  rintro e w1 ⟨rfl, h1, hb⟩
  have hF1 : w1.cell? ⟨F, 5, none⟩ = some (.int .u8 3) := (hb.cell (p := ⟨F, 5, none⟩) hFb).trans hF
  go_wp2_with fail
  refine (key'.out w1 h1).mono ?_
  rintro e w2 ⟨rfl, h2, hb2⟩
  go_wp2
  go_ret
  exact ⟨rfl, h2, hb.trans hb2⟩

set_option maxRecDepth 100000 in
theorem sizeInteger (w : World) (F : Nat) (x : Value) (hF : w.cell? ⟨F, 5, none⟩ = some (.int .u8 3)) :
    Calls Tryz.prog 15 #[.pointer (some ⟨F, 0, none⟩), .iface 2 x] w fun e w' => e = .returned (.int .i64 4) ∧ w = w' := by
  go_enter Tryz.func15, Tryz.ntmps15
  go_wp2
  go_ret
  exact ⟨by simp, rfl⟩

theorem fbInteger (w : World) (i : Int) (h0 : -2147483648 ≤ i) (h1 : i < 2147483648) :
    Calls Tryz.prog 6 #[.int .i64 3, .agg (plainVal 2 false i 0 (.slice none 0 0)), .int .i64 0, .int .i64 0] w fun e w' =>
      ∃ v, e = .returned (.tuple #[v, .int .i64 4, .int .i64 0]) ∧ w'.ownsRow w.heap.size 5 1 v 5 (u8s (3 :: leB i 4)) ∧ Below w.heap.size w w' := by
  refine (fbCore w 3 0 0 4 _ rfl (.iface 2 (.int .i64 i)) (3 :: leB i 4) (fun _ _ => True) (by decide) (by decide) (by decide) (by decide) (by decide) (by decide) ?_ (fun _ _ _ _ _ => trivial) ?_ ?_).mono ?_
  · intro W hW _
    exact (anyOf2 W _ _ _ _ _ _ _ _).mono fun e w' ⟨h1, h2⟩ => ⟨h1, trivial, h2 ▸ (Below.refl _ W).alloc (Nat.le_refl _) _⟩
  · intro W B F hF _
    exact (sizeInteger W F _ hF.cells.2.2).mono fun e w' ⟨h1, h2⟩ => ⟨h1, h2 ▸ Below.refl _ W⟩
  · intro W base B E S Wr F tr _ hF hFb _ _ hE
    exact zzFieldBytes_any W _ _ _ _ (prmInteger W base E S Wr F tr [] i hE h0 h1 (by simp) hF.cells.2.2 hFb)
  · rintro e w' ⟨v, h1, h2, h3⟩
    exact ⟨v, h1, by simpa using h2, h3⟩

set_option maxRecDepth 100000 in
theorem decInteger (W : World) (base D S rb ro n c : Nat) (tr : Value) (dfv emp : Bool) (bs : List Int) (k : Nat) (i : Int) (h0 : -2147483648 ≤ i) (h1 : i < 2147483648) (hx : (bs.drop k).take 4 = leB i 4) (hkn : k + 4 ≤ n) (scale : Int)
    (h : DecAt W base D S rb ro n c tr dfv emp k) (hin : Input W rb ro n c bs) :
    Calls Tryz.prog 78 #[.int .u8 3, .pointer (some ⟨D, 0, none⟩), .int .i64 scale] W fun e w' =>
      ∃ x y, e = .returned (.tuple #[x, y]) ∧ x = .iface 2 (.int .i64 i) ∧ y = .nilIface ∧ DecAt w' base D S rb ro n c tr dfv emp (k + 4) ∧ Below base W w' := by
  have hn := hin.len
  have hn' := Lib.hid hn; clear hn
  have hx' := Lib.hid hx
  go_enter Tryz.func78, Tryz.ntmps78
  clear hx
  go_wp2_with fail
  have hx := hx'.out
  have hn := hn'.out
  refine (decInt32 W base D S rb ro n c tr dfv emp k bs i h0 h1 hx h hin (by omega)).mono ?_
  rintro e w1 ⟨rfl, hd1, hk1, hb1⟩
  clear hx hn
  go_wp2_with fail
  go_ret2
  exact ⟨_, _, rfl, rfl, rfl, hd1, hb1⟩

/- ---- Bigint ---- -/
set_option maxRecDepth 100000 in
theorem fieldBigint (w : World) (base E S W : Nat) (tr : Value) (xs : List Int) (i : Int) (h : EncAt w base E S W tr xs) (h0 : -9223372036854775808 ≤ i) (h1 : i < 9223372036854775808) (hl : xs.length ≤ 1000) :
    Calls Tryz.prog 58 #[.pointer (some ⟨E, 0, none⟩), .iface 2 (.int .i64 i)] w fun e w' =>
      e = .returned .nilIface ∧ EncAt w' base E S W tr (xs ++ leB i 8) ∧ Below base w w' := by
  have hwr : IntKind.i64.wrap i = i := by simp [IntKind.wrap, IntKind.bits, IntKind.signed]; omega
  have hwr' := Lib.hid hwr; clear hwr
  go_enter Tryz.func58, Tryz.ntmps58
  go_wp2_with (go_at_call 107; go_in)
  refine (encInt64 w base E S W tr xs h i h0 h1 (by omega)).mono ?_
  rintro e w1 ⟨rfl, h1, hb⟩
  go_wp2
  go_ret
  exact ⟨rfl, by exact h1, hb⟩

set_option maxRecDepth 100000 in
theorem prmBigint (w : World) (base E S W F : Nat) (tr : Value) (xs : List Int) (i : Int) (h : EncAt w base E S W tr xs) (h0 : -9223372036854775808 ≤ i) (h1 : i < 9223372036854775808) (hl : xs.length ≤ 100)
    (hF : w.cell? ⟨F, 5, none⟩ = some (.int .u8 4)) (hFb : F < base) :
    Calls Tryz.prog 31 #[.pointer (some ⟨F, 0, none⟩), .pointer (some ⟨E, 0, none⟩), .iface 2 (.int .i64 i)] w fun e w' =>
      e = .returned .nilIface ∧ EncAt w' base E S W tr (xs ++ [4] ++ leB i 8) ∧ Below base w w' := by
  have key : ∀ w1, EncAt w1 base E S W tr (xs ++ [4]) → Calls Tryz.prog 58 #[.pointer (some ⟨E, 0, none⟩), .iface 2 (.int .i64 i)] w1 fun e w' =>
      e = .returned .nilIface ∧ EncAt w' base E S W tr (xs ++ [4] ++ leB i 8) ∧ Below base w1 w' := fun w1 h1' => fieldBigint w1 base E S W tr (xs ++ [4]) i h1' h0 h1 (by simp; omega)
  have key' := Lib.hid key; clear key
  clear h0 h1
  go_enter Tryz.func31, Tryz.ntmps31
  go_wp2_with (first | (go_at_call 52; go_in) | (go_at_call 48; go_in))
  refine (byte_any w base E S W tr xs h 4 (by omega)).mono ?_
  rintro e w1 ⟨rfl, h1, hb⟩
  have hF1 : w1.cell? ⟨F, 5, none⟩ = some (.int .u8 4) := (hb.cell (p := ⟨F, 5, none⟩) hFb).trans hF
  go_wp2_with fail
  refine (key'.out w1 h1).mono ?_
  rintro e w2 ⟨rfl, h2, hb2⟩
  go_wp2
  go_ret
  exact ⟨rfl, h2, hb.trans hb2⟩

set_option maxRecDepth 100000 in
theorem sizeBigint (w : World) (F : Nat) (x : Value) (hF : w.cell? ⟨F, 5, none⟩ = some (.int .u8 4)) :
    Calls Tryz.prog 15 #[.pointer (some ⟨F, 0, none⟩), .iface 2 x] w fun e w' => e = .returned (.int .i64 8) ∧ w = w' := by
  go_enter Tryz.func15, Tryz.ntmps15
  go_wp2
  go_ret
  exact ⟨by simp, rfl⟩

theorem fbBigint (w : World) (i : Int) (h0 : -9223372036854775808 ≤ i) (h1 : i < 9223372036854775808) :
    Calls Tryz.prog 6 #[.int .i64 4, .agg (plainVal 2 false i 0 (.slice none 0 0)), .int .i64 0, .int .i64 0] w fun e w' =>
      ∃ v, e = .returned (.tuple #[v, .int .i64 8, .int .i64 0]) ∧ w'.ownsRow w.heap.size 5 1 v 9 (u8s (4 :: leB i 8)) ∧ Below w.heap.size w w' := by
  refine (fbCore w 4 0 0 8 _ rfl (.iface 2 (.int .i64 i)) (4 :: leB i 8) (fun _ _ => True) (by decide) (by decide) (by decide) (by decide) (by decide) (by decide) ?_ (fun _ _ _ _ _ => trivial) ?_ ?_).mono ?_
  · intro W hW _
    exact (anyOf2 W _ _ _ _ _ _ _ _).mono fun e w' ⟨h1, h2⟩ => ⟨h1, trivial, h2 ▸ (Below.refl _ W).alloc (Nat.le_refl _) _⟩
  · intro W B F hF _
    exact (sizeBigint W F _ hF.cells.2.2).mono fun e w' ⟨h1, h2⟩ => ⟨h1, h2 ▸ Below.refl _ W⟩
  · intro W base B E S Wr F tr _ hF hFb _ _ hE
    exact zzFieldBytes_any W _ _ _ _ (prmBigint W base E S Wr F tr [] i hE h0 h1 (by simp) hF.cells.2.2 hFb)
  · rintro e w' ⟨v, h1, h2, h3⟩
    exact ⟨v, h1, by simpa using h2, h3⟩

set_option maxRecDepth 100000 in
theorem decBigint (W : World) (base D S rb ro n c : Nat) (tr : Value) (dfv emp : Bool) (bs : List Int) (k : Nat) (i : Int) (h0 : -9223372036854775808 ≤ i) (h1 : i < 9223372036854775808) (hx : (bs.drop k).take 8 = leB i 8) (hkn : k + 8 ≤ n) (scale : Int)
    (h : DecAt W base D S rb ro n c tr dfv emp k) (hin : Input W rb ro n c bs) :
    Calls Tryz.prog 78 #[.int .u8 4, .pointer (some ⟨D, 0, none⟩), .int .i64 scale] W fun e w' =>
      ∃ x y, e = .returned (.tuple #[x, y]) ∧ x = .iface 2 (.int .i64 i) ∧ y = .nilIface ∧ DecAt w' base D S rb ro n c tr dfv emp (k + 8) ∧ Below base W w' := by
  have hn := hin.len
  have hn' := Lib.hid hn; clear hn
  have hx' := Lib.hid hx
  go_enter Tryz.func78, Tryz.ntmps78
  clear hx
  go_wp2_with fail
  have hx := hx'.out
  have hn := hn'.out
  refine (decInt64 W base D S rb ro n c tr dfv emp k bs i h0 h1 hx h hin (by omega)).mono ?_
  rintro e w1 ⟨rfl, hd1, hk1, hb1⟩
  clear hx hn
  go_wp2_with fail
  go_ret2
  exact ⟨_, _, rfl, rfl, rfl, hd1, hb1⟩
end Go.Proofs.YtipoenpakjpokaaGreatDoor
