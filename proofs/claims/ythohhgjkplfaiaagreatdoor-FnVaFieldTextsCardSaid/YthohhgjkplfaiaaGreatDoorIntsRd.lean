/- Integers of the type codes 1 to 4: FieldOf, ResultOf; the four type codes in one. -/
import Derived.Test.YthohhgjkplfaiaaGreatDoorIntsFld
import Derived.Test.YthohhgjkplfaiaaGreatDoorGen
set_option linter.unusedVariables false
set_option linter.unusedSimpArgs false
namespace Go.Proofs.YthohhgjkplfaiaaGreatDoor
open Go.RowKit

set_option maxRecDepth 100000 in
theorem decBoolT (w : World) (base D S rb ro n c : Nat) (tr : Value) (dfv emp : Bool) (k : Nat) (bs : List Int) (hx : bs[k]? = some 1) (h : DecAt w base D S rb ro n c tr dfv emp k) (hin : Input w rb ro n c bs) :
    Calls Tryz.prog 120 #[.pointer (some ⟨D, 0, none⟩)] w fun e w' => e = .returned (.bool true) ∧ DecAt w' base D S rb ro n c tr dfv emp (k + 1) ∧ Below base w w' := by
  have hl : k < bs.length := (List.getElem?_eq_some_iff.1 hx).1
  have hx' : bs[k] = 1 := (List.getElem?_eq_some_iff.1 hx).2
  have hn := hin.len
  go_enter Tryz.func120, Tryz.ntmps120
  go_wp2_with fail
  refine (decByte_any w base D S rb ro n c tr dfv emp k bs h hin (by omega)).mono ?_
  rintro e w1 ⟨rfl, hd1, hk, hb⟩
  rw [hx']
  go_wp2_with fail
  go_ret
  exact ⟨by simp, hd1, hb⟩
set_option maxRecDepth 100000 in
theorem decBoolF (w : World) (base D S rb ro n c : Nat) (tr : Value) (dfv emp : Bool) (k : Nat) (bs : List Int) (hx : bs[k]? = some 0) (h : DecAt w base D S rb ro n c tr dfv emp k) (hin : Input w rb ro n c bs) :
    Calls Tryz.prog 120 #[.pointer (some ⟨D, 0, none⟩)] w fun e w' => e = .returned (.bool false) ∧ DecAt w' base D S rb ro n c tr dfv emp (k + 1) ∧ Below base w w' := by
  have hl : k < bs.length := (List.getElem?_eq_some_iff.1 hx).1
  have hx' : bs[k] = 0 := (List.getElem?_eq_some_iff.1 hx).2
  have hn := hin.len
  go_enter Tryz.func120, Tryz.ntmps120
  go_wp2_with fail
  refine (decByte_any w base D S rb ro n c tr dfv emp k bs h hin (by omega)).mono ?_
  rintro e w1 ⟨rfl, hd1, hk, hb⟩
  rw [hx']
  go_wp2_with fail
  go_ret
  exact ⟨by simp, hd1, hb⟩

/-- The Val of an integer. -/
abbrev intVal (i : Int) : Array Value := plainVal 2 false i 0 (.slice none 0 0)

/- ---- Tinyint ---- -/
set_option maxRecDepth 100000 in
theorem resTinyint (W : World) (base D S rb ro n c : Nat) (tr : Value) (dfv emp : Bool) (bs : List Int) (i : Int) (h0 : 0 ≤ i) (h1 : i < 256) (hb0 : bs[0]? = some 1) (hx : (bs.drop 1).take 1 = leB i 1) (hkn : 2 ≤ n) (scale : Int) (hrb : rb < base)
    (h : DecAt W base D S rb ro n c tr dfv emp 0) (hin : Input W rb ro n c bs) :
    Calls Tryz.prog 67 #[.int .u8 1, .pointer (some ⟨D, 0, none⟩), .nilIface, .int .i64 0, .int .i64 scale] W fun e w' =>
      ∃ x y, e = .returned (.tuple #[x, y]) ∧ x = .iface 2 (.int .i64 i) ∧ y = .nilIface ∧ DecAt w' base D S rb ro n c tr dfv emp 2 ∧ Below base W w' := by
  have hx' := Lib.hid hx; clear hx
  have hr := Lib.hid (And.intro h0 h1); clear h0 h1
  have hb0' := Lib.hid hb0; clear hb0
  go_enter Tryz.func67, Tryz.ntmps67
  go_wp2_with fail
  refine (decBoolT W base D S rb ro n c tr dfv emp 0 bs hb0'.out h hin).mono ?_
  rintro e w1 ⟨rfl, hd1, hb1⟩
  have hin1 := hin.below hb1 hrb
  go_wp2_with fail
  obtain ⟨h0, h1⟩ := hr.out
  refine (decByte_any w1 base D S rb ro n c tr dfv emp 1 bs hd1 hin1 (by omega)).mono ?_
  rintro e w2 ⟨rfl, hd2, hk2, hb2⟩
  have hb : bs[1]'(by have := hin.len; omega) = i := by
    have := congrArg (·[0]?) hx'.out
    simp [leB, List.getElem?_eq_getElem (show 1 < bs.length by have := hin.len; omega)] at this
    omega
  rw [hb]
  clear hb
  go_wp2_with fail
  go_ret2
  exact ⟨_, _, rfl, rfl, rfl, hd2, hb1.trans hb2⟩

set_option maxRecDepth 100000 in
theorem resNTinyint (W : World) (base D S rb ro n c : Nat) (tr : Value) (dfv emp : Bool) (bs : List Int) (hb0 : bs[0]? = some 0) (scale : Int)
    (h : DecAt W base D S rb ro n c tr dfv emp 0) (hin : Input W rb ro n c bs) :
    Calls Tryz.prog 67 #[.int .u8 1, .pointer (some ⟨D, 0, none⟩), .nilIface, .int .i64 0, .int .i64 scale] W fun e w' =>
      ∃ x y, e = .returned (.tuple #[x, y]) ∧ x = .nilIface ∧ y = .nilIface ∧ DecAt w' base D S rb ro n c tr dfv emp 1 ∧ Below base W w' := by
  go_enter Tryz.func67, Tryz.ntmps67
  go_wp2_with fail
  refine (decBoolF W base D S rb ro n c tr dfv emp 0 bs hb0 h hin).mono ?_
  rintro e w1 ⟨rfl, hd1, hb1⟩
  go_wp2_with fail
  go_ret2
  exact ⟨_, _, rfl, rfl, rfl, hd1, hb1⟩

theorem foTinyint (w : World) (i : Int) (h0 : 0 ≤ i) (h1 : i < 256) (rb ro c : Nat) (hin : Input w rb ro 2 c (1 :: leB i 1)) (hrb : rb < w.heap.size) :
    Calls Tryz.prog 11 #[.int .i64 1, .slice (some ⟨rb, ro, none⟩) 2 c, .int .i64 0, .bool false, .bool false] w fun e w' =>
      e = .returned (.tuple #[.agg (intVal i), .int .i64 2, .int .i64 0]) ∧ Below w.heap.size w w' := by
  refine (foCore w 1 0 2 rb ro 2 c false false (1 :: leB i 1) hin hrb (by decide) (by decide) (by decide) (by decide) (by decide) (fun x _ _ => x = .iface 2 (.int .i64 i)) (fun v _ _ => v = intVal i) ?_ ?_ (fun _ _ _ _ h _ => h)).mono ?_
  · intro W base D S F tr _ hF hFD hFS hrb' hD hin'
    refine (zzFieldOf_any W _ _ _ (decPrm W base D S rb ro 2 c tr false false _ 1 rfl (by decide) (by decide) F 1 0 0 hD hin' hF hFD hFS hrb' (fun x y w' => x = .iface 2 (.int .i64 i) ∧ y = .nilIface ∧ DecAt w' base D S rb ro 2 c tr false false 2 ∧ Below base W w') ?_)).mono ?_
    · intro W1 hD1 hin1 hb1
      exact (decTinyint W1 base D S rb ro 2 c tr false false _ 1 i h0 h1 (by simp [List.take_of_length_le]) (by decide) 0 hD1 hin1).mono fun e w' ⟨x, y, h1, h2, h3, h4, h5⟩ => ⟨x, y, h1, h2, h3, h4, hb1.trans h5⟩
    · rintro e w' ⟨x, y, h1, h2, h3, h4, h5⟩
      exact ⟨x, y, h1, h3, h2, h4, h5⟩
  · rintro W B x rfl hB
    exact (valOf2 W i).mono fun e w' ⟨h1, h2⟩ => ⟨_, h1, rfl, plain1 2 false i 0 none 0 0, rfl, h2⟩
  · rintro e w' ⟨v, B, rfl, _, rfl, _, hb⟩
    exact ⟨rfl, hb⟩

theorem roTinyint (w : World) (i : Int) (h0 : 0 ≤ i) (h1 : i < 256) (rb ro c : Nat) (hin : Input w rb ro 2 c (1 :: leB i 1)) (hrb : rb < w.heap.size) :
    Calls Tryz.prog 13 #[.int .i64 1, .slice (some ⟨rb, ro, none⟩) 2 c, .int .i64 0, .bool false, .bool false] w fun e w' =>
      e = .returned (.tuple #[.agg (intVal i), .int .i64 2, .int .i64 0]) ∧ Below w.heap.size w w' := by
  refine (roCore w 1 0 2 rb ro 2 c false false (1 :: leB i 1) hin hrb (by decide) (by decide) (by decide) (by decide) (by decide) (fun x _ _ => x = .iface 2 (.int .i64 i)) (fun v _ _ => v = intVal i) ?_ ?_ (fun _ _ _ _ h _ => h)).mono ?_
  · intro W base D S tr _ hrb' hD hin'
    refine (zzResultOf_any W _ _ _ (fun x y w' => x = .iface 2 (.int .i64 i) ∧ y = .nilIface ∧ DecAt w' base D S rb ro 2 c tr false false 2 ∧ Below base W w')
      (resTinyint W base D S rb ro 2 c tr false false _ i h0 h1 rfl (by simp [List.take_of_length_le]) (by decide) 0 hrb' hD hin')).mono ?_
    rintro e w' ⟨x, y, h1, h2, h3, h4, h5⟩
    exact ⟨x, y, h1, h3, h2, h4, h5⟩
  · rintro W B x rfl hB
    exact (valOf2 W i).mono fun e w' ⟨h1, h2⟩ => ⟨_, h1, rfl, plain1 2 false i 0 none 0 0, rfl, h2⟩
  · rintro e w' ⟨v, B, rfl, _, rfl, _, hb⟩
    exact ⟨rfl, hb⟩

theorem roNTinyint (w : World) (rb ro c : Nat) (hin : Input w rb ro 1 c [0]) (hrb : rb < w.heap.size) :
    Calls Tryz.prog 13 #[.int .i64 1, .slice (some ⟨rb, ro, none⟩) 1 c, .int .i64 0, .bool false, .bool false] w fun e w' =>
      e = .returned (.tuple #[.agg noVal, .int .i64 1, .int .i64 0]) ∧ Below w.heap.size w w' := by
  refine (roCore w 1 0 1 rb ro 1 c false false [0] hin hrb (by decide) (by decide) (by decide) (by decide) (by decide) (fun x _ _ => x = .nilIface) (fun v _ _ => v = noVal) ?_ ?_ (fun _ _ _ _ h _ => h)).mono ?_
  · intro W base D S tr _ hrb' hD hin'
    refine (zzResultOf_any W _ _ _ (fun x y w' => x = .nilIface ∧ y = .nilIface ∧ DecAt w' base D S rb ro 1 c tr false false 1 ∧ Below base W w')
      (resNTinyint W base D S rb ro 1 c tr false false _ rfl 0 hD hin')).mono ?_
    rintro e w' ⟨x, y, h1, h2, h3, h4, h5⟩
    exact ⟨x, y, h1, h3, h2, h4, h5⟩
  · rintro W B x rfl hB
    exact (valOf0 W).mono fun e w' ⟨h1, h2⟩ => ⟨_, h1, rfl, plain1 0 false 0 0 none 0 0, rfl, h2⟩
  · rintro e w' ⟨v, B, rfl, _, rfl, _, hb⟩
    exact ⟨rfl, hb⟩

/- ---- Smallint ---- -/
set_option maxRecDepth 100000 in
theorem resSmallint (W : World) (base D S rb ro n c : Nat) (tr : Value) (dfv emp : Bool) (bs : List Int) (i : Int) (h0 : -32768 ≤ i) (h1 : i < 32768) (hb0 : bs[0]? = some 1) (hx : (bs.drop 1).take 2 = leB i 2) (hkn : 3 ≤ n) (scale : Int) (hrb : rb < base)
    (h : DecAt W base D S rb ro n c tr dfv emp 0) (hin : Input W rb ro n c bs) :
    Calls Tryz.prog 67 #[.int .u8 2, .pointer (some ⟨D, 0, none⟩), .nilIface, .int .i64 0, .int .i64 scale] W fun e w' =>
      ∃ x y, e = .returned (.tuple #[x, y]) ∧ x = .iface 2 (.int .i64 i) ∧ y = .nilIface ∧ DecAt w' base D S rb ro n c tr dfv emp 3 ∧ Below base W w' := by
  have hx' := Lib.hid hx; clear hx
  have hr := Lib.hid (And.intro h0 h1); clear h0 h1
  have hb0' := Lib.hid hb0; clear hb0
  go_enter Tryz.func67, Tryz.ntmps67
  go_wp2_with fail
  refine (decBoolT W base D S rb ro n c tr dfv emp 0 bs hb0'.out h hin).mono ?_
  rintro e w1 ⟨rfl, hd1, hb1⟩
  have hin1 := hin.below hb1 hrb
  go_wp2_with fail
  obtain ⟨h0, h1⟩ := hr.out
  refine (decInt16 w1 base D S rb ro n c tr dfv emp 1 bs i h0 h1 hx'.out hd1 hin1 (by omega)).mono ?_
  rintro e w2 ⟨rfl, hd2, hk2, hb2⟩
  go_wp2_with fail
  go_ret2
  exact ⟨_, _, rfl, rfl, rfl, hd2, hb1.trans hb2⟩

set_option maxRecDepth 100000 in
theorem resNSmallint (W : World) (base D S rb ro n c : Nat) (tr : Value) (dfv emp : Bool) (bs : List Int) (hb0 : bs[0]? = some 0) (scale : Int)
    (h : DecAt W base D S rb ro n c tr dfv emp 0) (hin : Input W rb ro n c bs) :
    Calls Tryz.prog 67 #[.int .u8 2, .pointer (some ⟨D, 0, none⟩), .nilIface, .int .i64 0, .int .i64 scale] W fun e w' =>
      ∃ x y, e = .returned (.tuple #[x, y]) ∧ x = .nilIface ∧ y = .nilIface ∧ DecAt w' base D S rb ro n c tr dfv emp 1 ∧ Below base W w' := by
  go_enter Tryz.func67, Tryz.ntmps67
  go_wp2_with fail
  refine (decBoolF W base D S rb ro n c tr dfv emp 0 bs hb0 h hin).mono ?_
  rintro e w1 ⟨rfl, hd1, hb1⟩
  go_wp2_with fail
  go_ret2
  exact ⟨_, _, rfl, rfl, rfl, hd1, hb1⟩

theorem foSmallint (w : World) (i : Int) (h0 : -32768 ≤ i) (h1 : i < 32768) (rb ro c : Nat) (hin : Input w rb ro 3 c (2 :: leB i 2)) (hrb : rb < w.heap.size) :
    Calls Tryz.prog 11 #[.int .i64 2, .slice (some ⟨rb, ro, none⟩) 3 c, .int .i64 0, .bool false, .bool false] w fun e w' =>
      e = .returned (.tuple #[.agg (intVal i), .int .i64 3, .int .i64 0]) ∧ Below w.heap.size w w' := by
  refine (foCore w 2 0 3 rb ro 3 c false false (2 :: leB i 2) hin hrb (by decide) (by decide) (by decide) (by decide) (by decide) (fun x _ _ => x = .iface 2 (.int .i64 i)) (fun v _ _ => v = intVal i) ?_ ?_ (fun _ _ _ _ h _ => h)).mono ?_
  · intro W base D S F tr _ hF hFD hFS hrb' hD hin'
    refine (zzFieldOf_any W _ _ _ (decPrm W base D S rb ro 3 c tr false false _ 2 rfl (by decide) (by decide) F 2 0 0 hD hin' hF hFD hFS hrb' (fun x y w' => x = .iface 2 (.int .i64 i) ∧ y = .nilIface ∧ DecAt w' base D S rb ro 3 c tr false false 3 ∧ Below base W w') ?_)).mono ?_
    · intro W1 hD1 hin1 hb1
      exact (decSmallint W1 base D S rb ro 3 c tr false false _ 1 i h0 h1 (by simp [List.take_of_length_le]) (by decide) 0 hD1 hin1).mono fun e w' ⟨x, y, h1, h2, h3, h4, h5⟩ => ⟨x, y, h1, h2, h3, h4, hb1.trans h5⟩
    · rintro e w' ⟨x, y, h1, h2, h3, h4, h5⟩
      exact ⟨x, y, h1, h3, h2, h4, h5⟩
  · rintro W B x rfl hB
    exact (valOf2 W i).mono fun e w' ⟨h1, h2⟩ => ⟨_, h1, rfl, plain1 2 false i 0 none 0 0, rfl, h2⟩
  · rintro e w' ⟨v, B, rfl, _, rfl, _, hb⟩
    exact ⟨rfl, hb⟩

theorem roSmallint (w : World) (i : Int) (h0 : -32768 ≤ i) (h1 : i < 32768) (rb ro c : Nat) (hin : Input w rb ro 3 c (1 :: leB i 2)) (hrb : rb < w.heap.size) :
    Calls Tryz.prog 13 #[.int .i64 2, .slice (some ⟨rb, ro, none⟩) 3 c, .int .i64 0, .bool false, .bool false] w fun e w' =>
      e = .returned (.tuple #[.agg (intVal i), .int .i64 3, .int .i64 0]) ∧ Below w.heap.size w w' := by
  refine (roCore w 2 0 3 rb ro 3 c false false (1 :: leB i 2) hin hrb (by decide) (by decide) (by decide) (by decide) (by decide) (fun x _ _ => x = .iface 2 (.int .i64 i)) (fun v _ _ => v = intVal i) ?_ ?_ (fun _ _ _ _ h _ => h)).mono ?_
  · intro W base D S tr _ hrb' hD hin'
    refine (zzResultOf_any W _ _ _ (fun x y w' => x = .iface 2 (.int .i64 i) ∧ y = .nilIface ∧ DecAt w' base D S rb ro 3 c tr false false 3 ∧ Below base W w')
      (resSmallint W base D S rb ro 3 c tr false false _ i h0 h1 rfl (by simp [List.take_of_length_le]) (by decide) 0 hrb' hD hin')).mono ?_
    rintro e w' ⟨x, y, h1, h2, h3, h4, h5⟩
    exact ⟨x, y, h1, h3, h2, h4, h5⟩
  · rintro W B x rfl hB
    exact (valOf2 W i).mono fun e w' ⟨h1, h2⟩ => ⟨_, h1, rfl, plain1 2 false i 0 none 0 0, rfl, h2⟩
  · rintro e w' ⟨v, B, rfl, _, rfl, _, hb⟩
    exact ⟨rfl, hb⟩

theorem roNSmallint (w : World) (rb ro c : Nat) (hin : Input w rb ro 1 c [0]) (hrb : rb < w.heap.size) :
    Calls Tryz.prog 13 #[.int .i64 2, .slice (some ⟨rb, ro, none⟩) 1 c, .int .i64 0, .bool false, .bool false] w fun e w' =>
      e = .returned (.tuple #[.agg noVal, .int .i64 1, .int .i64 0]) ∧ Below w.heap.size w w' := by
  refine (roCore w 2 0 1 rb ro 1 c false false [0] hin hrb (by decide) (by decide) (by decide) (by decide) (by decide) (fun x _ _ => x = .nilIface) (fun v _ _ => v = noVal) ?_ ?_ (fun _ _ _ _ h _ => h)).mono ?_
  · intro W base D S tr _ hrb' hD hin'
    refine (zzResultOf_any W _ _ _ (fun x y w' => x = .nilIface ∧ y = .nilIface ∧ DecAt w' base D S rb ro 1 c tr false false 1 ∧ Below base W w')
      (resNSmallint W base D S rb ro 1 c tr false false _ rfl 0 hD hin')).mono ?_
    rintro e w' ⟨x, y, h1, h2, h3, h4, h5⟩
    exact ⟨x, y, h1, h3, h2, h4, h5⟩
  · rintro W B x rfl hB
    exact (valOf0 W).mono fun e w' ⟨h1, h2⟩ => ⟨_, h1, rfl, plain1 0 false 0 0 none 0 0, rfl, h2⟩
  · rintro e w' ⟨v, B, rfl, _, rfl, _, hb⟩
    exact ⟨rfl, hb⟩

/- ---- Integer ---- -/
set_option maxRecDepth 100000 in
theorem resInteger (W : World) (base D S rb ro n c : Nat) (tr : Value) (dfv emp : Bool) (bs : List Int) (i : Int) (h0 : -2147483648 ≤ i) (h1 : i < 2147483648) (hb0 : bs[0]? = some 1) (hx : (bs.drop 1).take 4 = leB i 4) (hkn : 5 ≤ n) (scale : Int) (hrb : rb < base)
    (h : DecAt W base D S rb ro n c tr dfv emp 0) (hin : Input W rb ro n c bs) :
    Calls Tryz.prog 67 #[.int .u8 3, .pointer (some ⟨D, 0, none⟩), .nilIface, .int .i64 0, .int .i64 scale] W fun e w' =>
      ∃ x y, e = .returned (.tuple #[x, y]) ∧ x = .iface 2 (.int .i64 i) ∧ y = .nilIface ∧ DecAt w' base D S rb ro n c tr dfv emp 5 ∧ Below base W w' := by
  have hx' := Lib.hid hx; clear hx
  have hr := Lib.hid (And.intro h0 h1); clear h0 h1
  have hb0' := Lib.hid hb0; clear hb0
  go_enter Tryz.func67, Tryz.ntmps67
  go_wp2_with fail
  refine (decBoolT W base D S rb ro n c tr dfv emp 0 bs hb0'.out h hin).mono ?_
  rintro e w1 ⟨rfl, hd1, hb1⟩
  have hin1 := hin.below hb1 hrb
  go_wp2_with fail
  obtain ⟨h0, h1⟩ := hr.out
  refine (decInt32 w1 base D S rb ro n c tr dfv emp 1 bs i h0 h1 hx'.out hd1 hin1 (by omega)).mono ?_
  rintro e w2 ⟨rfl, hd2, hk2, hb2⟩
  go_wp2_with fail
  go_ret2
  exact ⟨_, _, rfl, rfl, rfl, hd2, hb1.trans hb2⟩

set_option maxRecDepth 100000 in
theorem resNInteger (W : World) (base D S rb ro n c : Nat) (tr : Value) (dfv emp : Bool) (bs : List Int) (hb0 : bs[0]? = some 0) (scale : Int)
    (h : DecAt W base D S rb ro n c tr dfv emp 0) (hin : Input W rb ro n c bs) :
    Calls Tryz.prog 67 #[.int .u8 3, .pointer (some ⟨D, 0, none⟩), .nilIface, .int .i64 0, .int .i64 scale] W fun e w' =>
      ∃ x y, e = .returned (.tuple #[x, y]) ∧ x = .nilIface ∧ y = .nilIface ∧ DecAt w' base D S rb ro n c tr dfv emp 1 ∧ Below base W w' := by
  go_enter Tryz.func67, Tryz.ntmps67
  go_wp2_with fail
  refine (decBoolF W base D S rb ro n c tr dfv emp 0 bs hb0 h hin).mono ?_
  rintro e w1 ⟨rfl, hd1, hb1⟩
  go_wp2_with fail
  go_ret2
  exact ⟨_, _, rfl, rfl, rfl, hd1, hb1⟩

theorem foInteger (w : World) (i : Int) (h0 : -2147483648 ≤ i) (h1 : i < 2147483648) (rb ro c : Nat) (hin : Input w rb ro 5 c (3 :: leB i 4)) (hrb : rb < w.heap.size) :
    Calls Tryz.prog 11 #[.int .i64 3, .slice (some ⟨rb, ro, none⟩) 5 c, .int .i64 0, .bool false, .bool false] w fun e w' =>
      e = .returned (.tuple #[.agg (intVal i), .int .i64 5, .int .i64 0]) ∧ Below w.heap.size w w' := by
  refine (foCore w 3 0 5 rb ro 5 c false false (3 :: leB i 4) hin hrb (by decide) (by decide) (by decide) (by decide) (by decide) (fun x _ _ => x = .iface 2 (.int .i64 i)) (fun v _ _ => v = intVal i) ?_ ?_ (fun _ _ _ _ h _ => h)).mono ?_
  · intro W base D S F tr _ hF hFD hFS hrb' hD hin'
    refine (zzFieldOf_any W _ _ _ (decPrm W base D S rb ro 5 c tr false false _ 3 rfl (by decide) (by decide) F 3 0 0 hD hin' hF hFD hFS hrb' (fun x y w' => x = .iface 2 (.int .i64 i) ∧ y = .nilIface ∧ DecAt w' base D S rb ro 5 c tr false false 5 ∧ Below base W w') ?_)).mono ?_
    · intro W1 hD1 hin1 hb1
      exact (decInteger W1 base D S rb ro 5 c tr false false _ 1 i h0 h1 (by simp [List.take_of_length_le]) (by decide) 0 hD1 hin1).mono fun e w' ⟨x, y, h1, h2, h3, h4, h5⟩ => ⟨x, y, h1, h2, h3, h4, hb1.trans h5⟩
    · rintro e w' ⟨x, y, h1, h2, h3, h4, h5⟩
      exact ⟨x, y, h1, h3, h2, h4, h5⟩
  · rintro W B x rfl hB
    exact (valOf2 W i).mono fun e w' ⟨h1, h2⟩ => ⟨_, h1, rfl, plain1 2 false i 0 none 0 0, rfl, h2⟩
  · rintro e w' ⟨v, B, rfl, _, rfl, _, hb⟩
    exact ⟨rfl, hb⟩

theorem roInteger (w : World) (i : Int) (h0 : -2147483648 ≤ i) (h1 : i < 2147483648) (rb ro c : Nat) (hin : Input w rb ro 5 c (1 :: leB i 4)) (hrb : rb < w.heap.size) :
    Calls Tryz.prog 13 #[.int .i64 3, .slice (some ⟨rb, ro, none⟩) 5 c, .int .i64 0, .bool false, .bool false] w fun e w' =>
      e = .returned (.tuple #[.agg (intVal i), .int .i64 5, .int .i64 0]) ∧ Below w.heap.size w w' := by
  refine (roCore w 3 0 5 rb ro 5 c false false (1 :: leB i 4) hin hrb (by decide) (by decide) (by decide) (by decide) (by decide) (fun x _ _ => x = .iface 2 (.int .i64 i)) (fun v _ _ => v = intVal i) ?_ ?_ (fun _ _ _ _ h _ => h)).mono ?_
  · intro W base D S tr _ hrb' hD hin'
    refine (zzResultOf_any W _ _ _ (fun x y w' => x = .iface 2 (.int .i64 i) ∧ y = .nilIface ∧ DecAt w' base D S rb ro 5 c tr false false 5 ∧ Below base W w')
      (resInteger W base D S rb ro 5 c tr false false _ i h0 h1 rfl (by simp [List.take_of_length_le]) (by decide) 0 hrb' hD hin')).mono ?_
    rintro e w' ⟨x, y, h1, h2, h3, h4, h5⟩
    exact ⟨x, y, h1, h3, h2, h4, h5⟩
  · rintro W B x rfl hB
    exact (valOf2 W i).mono fun e w' ⟨h1, h2⟩ => ⟨_, h1, rfl, plain1 2 false i 0 none 0 0, rfl, h2⟩
  · rintro e w' ⟨v, B, rfl, _, rfl, _, hb⟩
    exact ⟨rfl, hb⟩

theorem roNInteger (w : World) (rb ro c : Nat) (hin : Input w rb ro 1 c [0]) (hrb : rb < w.heap.size) :
    Calls Tryz.prog 13 #[.int .i64 3, .slice (some ⟨rb, ro, none⟩) 1 c, .int .i64 0, .bool false, .bool false] w fun e w' =>
      e = .returned (.tuple #[.agg noVal, .int .i64 1, .int .i64 0]) ∧ Below w.heap.size w w' := by
  refine (roCore w 3 0 1 rb ro 1 c false false [0] hin hrb (by decide) (by decide) (by decide) (by decide) (by decide) (fun x _ _ => x = .nilIface) (fun v _ _ => v = noVal) ?_ ?_ (fun _ _ _ _ h _ => h)).mono ?_
  · intro W base D S tr _ hrb' hD hin'
    refine (zzResultOf_any W _ _ _ (fun x y w' => x = .nilIface ∧ y = .nilIface ∧ DecAt w' base D S rb ro 1 c tr false false 1 ∧ Below base W w')
      (resNInteger W base D S rb ro 1 c tr false false _ rfl 0 hD hin')).mono ?_
    rintro e w' ⟨x, y, h1, h2, h3, h4, h5⟩
    exact ⟨x, y, h1, h3, h2, h4, h5⟩
  · rintro W B x rfl hB
    exact (valOf0 W).mono fun e w' ⟨h1, h2⟩ => ⟨_, h1, rfl, plain1 0 false 0 0 none 0 0, rfl, h2⟩
  · rintro e w' ⟨v, B, rfl, _, rfl, _, hb⟩
    exact ⟨rfl, hb⟩

/- ---- Bigint ---- -/
set_option maxRecDepth 100000 in
theorem resBigint (W : World) (base D S rb ro n c : Nat) (tr : Value) (dfv emp : Bool) (bs : List Int) (i : Int) (h0 : -9223372036854775808 ≤ i) (h1 : i < 9223372036854775808) (hb0 : bs[0]? = some 1) (hx : (bs.drop 1).take 8 = leB i 8) (hkn : 9 ≤ n) (scale : Int) (hrb : rb < base)
    (h : DecAt W base D S rb ro n c tr dfv emp 0) (hin : Input W rb ro n c bs) :
    Calls Tryz.prog 67 #[.int .u8 4, .pointer (some ⟨D, 0, none⟩), .nilIface, .int .i64 0, .int .i64 scale] W fun e w' =>
      ∃ x y, e = .returned (.tuple #[x, y]) ∧ x = .iface 2 (.int .i64 i) ∧ y = .nilIface ∧ DecAt w' base D S rb ro n c tr dfv emp 9 ∧ Below base W w' := by
  have hx' := Lib.hid hx; clear hx
  have hr := Lib.hid (And.intro h0 h1); clear h0 h1
  have hb0' := Lib.hid hb0; clear hb0
  go_enter Tryz.func67, Tryz.ntmps67
  go_wp2_with fail
  refine (decBoolT W base D S rb ro n c tr dfv emp 0 bs hb0'.out h hin).mono ?_
  rintro e w1 ⟨rfl, hd1, hb1⟩
  have hin1 := hin.below hb1 hrb
  go_wp2_with fail
  obtain ⟨h0, h1⟩ := hr.out
  refine (decInt64 w1 base D S rb ro n c tr dfv emp 1 bs i h0 h1 hx'.out hd1 hin1 (by omega)).mono ?_
  rintro e w2 ⟨rfl, hd2, hk2, hb2⟩
  go_wp2_with fail
  go_ret2
  exact ⟨_, _, rfl, rfl, rfl, hd2, hb1.trans hb2⟩

set_option maxRecDepth 100000 in
theorem resNBigint (W : World) (base D S rb ro n c : Nat) (tr : Value) (dfv emp : Bool) (bs : List Int) (hb0 : bs[0]? = some 0) (scale : Int)
    (h : DecAt W base D S rb ro n c tr dfv emp 0) (hin : Input W rb ro n c bs) :
    Calls Tryz.prog 67 #[.int .u8 4, .pointer (some ⟨D, 0, none⟩), .nilIface, .int .i64 0, .int .i64 scale] W fun e w' =>
      ∃ x y, e = .returned (.tuple #[x, y]) ∧ x = .nilIface ∧ y = .nilIface ∧ DecAt w' base D S rb ro n c tr dfv emp 1 ∧ Below base W w' := by
  go_enter Tryz.func67, Tryz.ntmps67
  go_wp2_with fail
  refine (decBoolF W base D S rb ro n c tr dfv emp 0 bs hb0 h hin).mono ?_
  rintro e w1 ⟨rfl, hd1, hb1⟩
  go_wp2_with fail
  go_ret2
  exact ⟨_, _, rfl, rfl, rfl, hd1, hb1⟩

theorem foBigint (w : World) (i : Int) (h0 : -9223372036854775808 ≤ i) (h1 : i < 9223372036854775808) (rb ro c : Nat) (hin : Input w rb ro 9 c (4 :: leB i 8)) (hrb : rb < w.heap.size) :
    Calls Tryz.prog 11 #[.int .i64 4, .slice (some ⟨rb, ro, none⟩) 9 c, .int .i64 0, .bool false, .bool false] w fun e w' =>
      e = .returned (.tuple #[.agg (intVal i), .int .i64 9, .int .i64 0]) ∧ Below w.heap.size w w' := by
  refine (foCore w 4 0 9 rb ro 9 c false false (4 :: leB i 8) hin hrb (by decide) (by decide) (by decide) (by decide) (by decide) (fun x _ _ => x = .iface 2 (.int .i64 i)) (fun v _ _ => v = intVal i) ?_ ?_ (fun _ _ _ _ h _ => h)).mono ?_
  · intro W base D S F tr _ hF hFD hFS hrb' hD hin'
    refine (zzFieldOf_any W _ _ _ (decPrm W base D S rb ro 9 c tr false false _ 4 rfl (by decide) (by decide) F 4 0 0 hD hin' hF hFD hFS hrb' (fun x y w' => x = .iface 2 (.int .i64 i) ∧ y = .nilIface ∧ DecAt w' base D S rb ro 9 c tr false false 9 ∧ Below base W w') ?_)).mono ?_
    · intro W1 hD1 hin1 hb1
      exact (decBigint W1 base D S rb ro 9 c tr false false _ 1 i h0 h1 (by simp [List.take_of_length_le]) (by decide) 0 hD1 hin1).mono fun e w' ⟨x, y, h1, h2, h3, h4, h5⟩ => ⟨x, y, h1, h2, h3, h4, hb1.trans h5⟩
    · rintro e w' ⟨x, y, h1, h2, h3, h4, h5⟩
      exact ⟨x, y, h1, h3, h2, h4, h5⟩
  · rintro W B x rfl hB
    exact (valOf2 W i).mono fun e w' ⟨h1, h2⟩ => ⟨_, h1, rfl, plain1 2 false i 0 none 0 0, rfl, h2⟩
  · rintro e w' ⟨v, B, rfl, _, rfl, _, hb⟩
    exact ⟨rfl, hb⟩

theorem roBigint (w : World) (i : Int) (h0 : -9223372036854775808 ≤ i) (h1 : i < 9223372036854775808) (rb ro c : Nat) (hin : Input w rb ro 9 c (1 :: leB i 8)) (hrb : rb < w.heap.size) :
    Calls Tryz.prog 13 #[.int .i64 4, .slice (some ⟨rb, ro, none⟩) 9 c, .int .i64 0, .bool false, .bool false] w fun e w' =>
      e = .returned (.tuple #[.agg (intVal i), .int .i64 9, .int .i64 0]) ∧ Below w.heap.size w w' := by
  refine (roCore w 4 0 9 rb ro 9 c false false (1 :: leB i 8) hin hrb (by decide) (by decide) (by decide) (by decide) (by decide) (fun x _ _ => x = .iface 2 (.int .i64 i)) (fun v _ _ => v = intVal i) ?_ ?_ (fun _ _ _ _ h _ => h)).mono ?_
  · intro W base D S tr _ hrb' hD hin'
    refine (zzResultOf_any W _ _ _ (fun x y w' => x = .iface 2 (.int .i64 i) ∧ y = .nilIface ∧ DecAt w' base D S rb ro 9 c tr false false 9 ∧ Below base W w')
      (resBigint W base D S rb ro 9 c tr false false _ i h0 h1 rfl (by simp [List.take_of_length_le]) (by decide) 0 hrb' hD hin')).mono ?_
    rintro e w' ⟨x, y, h1, h2, h3, h4, h5⟩
    exact ⟨x, y, h1, h3, h2, h4, h5⟩
  · rintro W B x rfl hB
    exact (valOf2 W i).mono fun e w' ⟨h1, h2⟩ => ⟨_, h1, rfl, plain1 2 false i 0 none 0 0, rfl, h2⟩
  · rintro e w' ⟨v, B, rfl, _, rfl, _, hb⟩
    exact ⟨rfl, hb⟩

theorem roNBigint (w : World) (rb ro c : Nat) (hin : Input w rb ro 1 c [0]) (hrb : rb < w.heap.size) :
    Calls Tryz.prog 13 #[.int .i64 4, .slice (some ⟨rb, ro, none⟩) 1 c, .int .i64 0, .bool false, .bool false] w fun e w' =>
      e = .returned (.tuple #[.agg noVal, .int .i64 1, .int .i64 0]) ∧ Below w.heap.size w w' := by
  refine (roCore w 4 0 1 rb ro 1 c false false [0] hin hrb (by decide) (by decide) (by decide) (by decide) (by decide) (fun x _ _ => x = .nilIface) (fun v _ _ => v = noVal) ?_ ?_ (fun _ _ _ _ h _ => h)).mono ?_
  · intro W base D S tr _ hrb' hD hin'
    refine (zzResultOf_any W _ _ _ (fun x y w' => x = .nilIface ∧ y = .nilIface ∧ DecAt w' base D S rb ro 1 c tr false false 1 ∧ Below base W w')
      (resNBigint W base D S rb ro 1 c tr false false _ rfl 0 hD hin')).mono ?_
    rintro e w' ⟨x, y, h1, h2, h3, h4, h5⟩
    exact ⟨x, y, h1, h3, h2, h4, h5⟩
  · rintro W B x rfl hB
    exact (valOf0 W).mono fun e w' ⟨h1, h2⟩ => ⟨_, h1, rfl, plain1 0 false 0 0 none 0 0, rfl, h2⟩
  · rintro e w' ⟨v, B, rfl, _, rfl, _, hb⟩
    exact ⟨rfl, hb⟩

/-- An integer i of the type code c, of k bytes. -/
def IntCode (c : Int) (k : Nat) (i : Int) : Prop := (c = 1 ∧ k = 1 ∧ 0 ≤ i ∧ i < 256) ∨ (c = 2 ∧ k = 2 ∧ -32768 ≤ i ∧ i < 32768) ∨ (c = 3 ∧ k = 4 ∧ -2147483648 ≤ i ∧ i < 2147483648) ∨ (c = 4 ∧ k = 8 ∧ -9223372036854775808 ≤ i ∧ i < 9223372036854775808)

theorem fbInt (w : World) (c : Int) (k : Nat) (i : Int) (h : IntCode c k i) :
    Calls Tryz.prog 9 #[.int .i64 c, .agg (intVal i), .int .i64 0, .int .i64 0] w fun e w' =>
      ∃ v, e = .returned (.tuple #[v, .int .i64 k, .int .i64 0]) ∧ w'.ownsRow w.heap.size 5 1 v (k + 1) (u8s (c :: leB i k)) ∧ Below w.heap.size w w' := by
  rcases h with ⟨rfl, rfl, h0, h1⟩ | ⟨rfl, rfl, h0, h1⟩ | ⟨rfl, rfl, h0, h1⟩ | ⟨rfl, rfl, h0, h1⟩
  · exact fbTinyint w i h0 h1
  · exact fbSmallint w i h0 h1
  · exact fbInteger w i h0 h1
  · exact fbBigint w i h0 h1
theorem foInt (w : World) (c : Int) (k : Nat) (i : Int) (h : IntCode c k i) (rb ro cc : Nat) (hin : Input w rb ro (k + 1) cc (c :: leB i k)) (hrb : rb < w.heap.size) :
    Calls Tryz.prog 11 #[.int .i64 c, .slice (some ⟨rb, ro, none⟩) (k + 1) cc, .int .i64 0, .bool false, .bool false] w fun e w' =>
      e = .returned (.tuple #[.agg (intVal i), .int .i64 (k + 1 : Nat), .int .i64 0]) ∧ Below w.heap.size w w' := by
  rcases h with ⟨rfl, rfl, h0, h1⟩ | ⟨rfl, rfl, h0, h1⟩ | ⟨rfl, rfl, h0, h1⟩ | ⟨rfl, rfl, h0, h1⟩
  · exact foTinyint w i h0 h1 rb ro cc hin hrb
  · exact foSmallint w i h0 h1 rb ro cc hin hrb
  · exact foInteger w i h0 h1 rb ro cc hin hrb
  · exact foBigint w i h0 h1 rb ro cc hin hrb
theorem roInt (w : World) (c : Int) (k : Nat) (i : Int) (h : IntCode c k i) (rb ro cc : Nat) (hin : Input w rb ro (k + 1) cc (1 :: leB i k)) (hrb : rb < w.heap.size) :
    Calls Tryz.prog 13 #[.int .i64 c, .slice (some ⟨rb, ro, none⟩) (k + 1) cc, .int .i64 0, .bool false, .bool false] w fun e w' =>
      e = .returned (.tuple #[.agg (intVal i), .int .i64 (k + 1 : Nat), .int .i64 0]) ∧ Below w.heap.size w w' := by
  rcases h with ⟨rfl, rfl, h0, h1⟩ | ⟨rfl, rfl, h0, h1⟩ | ⟨rfl, rfl, h0, h1⟩ | ⟨rfl, rfl, h0, h1⟩
  · exact roTinyint w i h0 h1 rb ro cc hin hrb
  · exact roSmallint w i h0 h1 rb ro cc hin hrb
  · exact roInteger w i h0 h1 rb ro cc hin hrb
  · exact roBigint w i h0 h1 rb ro cc hin hrb
theorem roInt1 (w : World) (c : Int) (k : Nat) (i : Int) (h : IntCode c k i) (rb ro cc n : Nat) (hn : n = k + 1) (hin : Input w rb ro n cc (1 :: leB i k)) (hrb : rb < w.heap.size) :
    Calls Tryz.prog 13 #[.int .i64 c, .slice (some ⟨rb, ro, none⟩) n cc, .int .i64 0, .bool false, .bool false] w fun e w' =>
      e = .returned (.tuple #[.agg (intVal i), .int .i64 (k + 1 : Nat), .int .i64 0]) ∧ Below w.heap.size w w' := by
  subst hn
  exact roInt w c k i h rb ro cc hin hrb
theorem roNInt (w : World) (c : Int) (k : Nat) (i : Int) (h : IntCode c k i) (rb ro cc : Nat) (hin : Input w rb ro 1 cc [0]) (hrb : rb < w.heap.size) :
    Calls Tryz.prog 13 #[.int .i64 c, .slice (some ⟨rb, ro, none⟩) 1 cc, .int .i64 0, .bool false, .bool false] w fun e w' =>
      e = .returned (.tuple #[.agg noVal, .int .i64 1, .int .i64 0]) ∧ Below w.heap.size w w' := by
  rcases h with ⟨rfl, rfl, h0, h1⟩ | ⟨rfl, rfl, h0, h1⟩ | ⟨rfl, rfl, h0, h1⟩ | ⟨rfl, rfl, h0, h1⟩
  · exact roNTinyint w rb ro cc hin hrb
  · exact roNSmallint w rb ro cc hin hrb
  · exact roNInteger w rb ro cc hin hrb
  · exact roNBigint w rb ro cc hin hrb
end Go.Proofs.YthohhgjkplfaiaaGreatDoor
