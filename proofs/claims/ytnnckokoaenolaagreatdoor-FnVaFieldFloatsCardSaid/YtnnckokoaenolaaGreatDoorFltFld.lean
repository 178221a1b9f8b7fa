/- Floats of the type codes 6 and 7: what FieldBytes lays, what FieldOf and ResultOf read. -/
import Derived.Test.YtnnckokoaenolaaGreatDoorFltEnc
import Derived.Test.YtnnckokoaenolaaGreatDoorIntsRd
import Derived.Laws.FloatArith
set_option linter.unusedVariables false
set_option linter.unusedSimpArgs false
namespace Go.Proofs.YtnnckokoaenolaaGreatDoor
open Go.RowKit

/-- A float x of 64 bits that is the float b of 32 bits. -/
structure Short (x b : Nat) : Prop where
  nar : floatToFloatBits .f64 x .f32 = some b
  wid : floatToFloatBits .f32 b .f64 = some x
  lt : b < 4294967295
theorem Short.toShort {x b : Nat} (h : Short x b) (w : World) : (convert 22 51 (.float .f64 x)).run Tryz.prog w = .ok (.float .f32 b) w :=
  run_convert_float_float w 22 51 .f64 .f32 x b (by rw [Tryz.underlying22]; rfl) Tryz.underlying51 h.nar
theorem Short.toLong {x b : Nat} (h : Short x b) (w : World) : (convert 51 22 (.float .f32 b)).run Tryz.prog w = .ok (.float .f64 x) w :=
  run_convert_float_float w 51 22 .f32 .f64 b x (by rw [Tryz.underlying51]; rfl) Tryz.underlying22 h.wid
/-- The Val of a float. -/
abbrev fltVal (x : Nat) : Array Value := plainVal 3 false 0 x (.slice none 0 0)

/- ---- Double ---- -/
set_option maxRecDepth 100000 in
theorem fieldDouble (w : World) (base E S W : Nat) (tr : Value) (xs : List Int) (x : Nat) (hx : x < 18446744073709551615) (h : EncAt w base E S W tr xs) (hl : xs.length ≤ 1000) :
    Calls Tryz.prog 78 #[.pointer (some ⟨E, 0, none⟩), .iface 22 (.float .f64 x)] w fun e w' =>
      e = .returned .nilIface ∧ EncAt w' base E S W tr (xs ++ leB x 8) ∧ Below base w w' := by
  have hP := Lib.hid (encFloat64 w base E S W tr xs h x (by omega) (by omega))
  clear hx
  go_enter Tryz.func78, Tryz.ntmps78
  go_wp2_with fail
  refine hP.out.mono ?_
  rintro e w1 ⟨rfl, h1, hb⟩
  go_wp2
  go_ret
  exact ⟨rfl, h1, hb⟩

set_option maxRecDepth 100000 in
theorem prmDouble (w : World) (base E S W F : Nat) (tr : Value) (xs : List Int) (x : Nat) (hx : x < 18446744073709551615) (h : EncAt w base E S W tr xs) (hl : xs.length ≤ 100)
    (hF : w.cell? ⟨F, 5, none⟩ = some (.int .u8 7)) (hFb : F < base) :
    Calls Tryz.prog 45 #[.pointer (some ⟨F, 0, none⟩), .pointer (some ⟨E, 0, none⟩), .iface 22 (.float .f64 x)] w fun e w' =>
      e = .returned .nilIface ∧ EncAt w' base E S W tr (xs ++ [7] ++ leB x 8) ∧ Below base w w' := by
  have key : ∀ w1, EncAt w1 base E S W tr (xs ++ [7]) → Calls Tryz.prog 78 #[.pointer (some ⟨E, 0, none⟩), .iface 22 (.float .f64 x)] w1 fun e w' =>
      e = .returned .nilIface ∧ EncAt w' base E S W tr (xs ++ [7] ++ leB x 8) ∧ Below base w1 w' := fun w1 h1' => fieldDouble w1 base E S W tr (xs ++ [7]) x hx h1' (by simp; omega)
  have key' := Lib.hid key; clear key
  clear hx
  go_enter Tryz.func45, Tryz.ntmps45
  go_wp2_with (first | (go_at_call 61; go_in) | (go_at_call 59; go_in))
  refine (byte_any w base E S W tr xs h 7 (by omega)).mono ?_
  rintro e w1 ⟨rfl, h1, hb⟩
  have hF1 : w1.cell? ⟨F, 5, none⟩ = some (.int .u8 7) := (hb.cell (p := ⟨F, 5, none⟩) hFb).trans hF
  go_wp2_with fail
  refine (key'.out w1 h1).mono ?_
  rintro e w2 ⟨rfl, h2, hb2⟩
  go_wp2
  go_ret
  exact ⟨rfl, h2, hb.trans hb2⟩

set_option maxRecDepth 100000 in
theorem sizeDouble (w : World) (F : Nat) (x : Value) (hF : w.cell? ⟨F, 5, none⟩ = some (.int .u8 7)) :
    Calls Tryz.prog 24 #[.pointer (some ⟨F, 0, none⟩), .iface 22 x] w fun e w' => e = .returned (.int .i64 8) ∧ w = w' := by
  go_enter Tryz.func24, Tryz.ntmps24
  go_wp2
  go_ret
  exact ⟨by simp, rfl⟩

theorem fbDouble (w : World) (x : Nat) (hx : x < 18446744073709551615) :
    Calls Tryz.prog 8 #[.int .i64 7, .agg (fltVal x), .int .i64 0, .int .i64 0] w fun e w' =>
      ∃ v, e = .returned (.tuple #[v, .int .i64 8, .int .i64 0]) ∧ w'.ownsRow w.heap.size 5 1 v 9 (u8s (7 :: leB x 8)) ∧ Below w.heap.size w w' := by
  refine (fbCore w 7 0 0 8 _ rfl (.iface 22 (.float .f64 x)) (7 :: leB x 8) (fun _ _ => True) (by decide) (by decide) (by decide) (by decide) (by decide) (by decide) ?_ (fun _ _ _ _ _ => trivial) ?_ ?_).mono ?_
  · intro W hW _
    exact (anyOf3 W _ _ _ _ _ _ _ _).mono fun e w' ⟨h1, h2⟩ => ⟨h1, trivial, h2 ▸ (Below.refl _ W).alloc (Nat.le_refl _) _⟩
  · intro W B F hF _
    exact (sizeDouble W F _ hF.cells.2.2).mono fun e w' ⟨h1, h2⟩ => ⟨h1, h2 ▸ Below.refl _ W⟩
  · intro W base B E S Wr F tr _ hF hFb _ _ hE
    exact zzFieldBytes_any W _ _ _ _ (prmDouble W base E S Wr F tr [] x hx hE (by simp) hF.cells.2.2 hFb)
  · rintro e w' ⟨v, h1, h2, h3⟩
    exact ⟨v, h1, by simpa using h2, h3⟩

set_option maxRecDepth 100000 in
theorem decPDouble (W : World) (base D S rb ro n c : Nat) (tr : Value) (dfv emp : Bool) (bs : List Int) (k : Nat) (x : Nat) (hx : x < 18446744073709551615) (hbs : (bs.drop k).take 8 = leB x 8) (hkn : k + 8 ≤ n) (scale : Int)
    (h : DecAt W base D S rb ro n c tr dfv emp k) (hin : Input W rb ro n c bs) :
    Calls Tryz.prog 98 #[.int .u8 7, .pointer (some ⟨D, 0, none⟩), .int .i64 scale] W fun e w' =>
      ∃ u y, e = .returned (.tuple #[u, y]) ∧ u = .iface 22 (.float .f64 x) ∧ y = .nilIface ∧ DecAt w' base D S rb ro n c tr dfv emp (k + 8) ∧ Below base W w' := by
  have hlt := hx
  skip
  have hP := Lib.hid (decUint64 W base D S rb ro n c tr dfv emp k bs x (by omega) (by omega) hbs h hin hkn)
  have hne : ¬ ((x : Nat) : Int) = 18446744073709551615 := by omega
  clear hbs
  clear hx hlt
  go_enter Tryz.func98, Tryz.ntmps98
  go_wp2_with fail
  go_enter Tryz.func114, Tryz.ntmps114
  go_wp2_with fail
  refine hP.out.mono ?_
  rintro e w1 ⟨rfl, hd1, hk1, hb1⟩
  go_wp2
  go_ret2
  exact ⟨_, _, rfl, rfl, rfl, hd1, hb1⟩

set_option maxRecDepth 100000 in
theorem decNPDouble (W : World) (base D S rb ro n c : Nat) (tr : Value) (dfv emp : Bool) (bs : List Int) (k : Nat) (hbs : (bs.drop k).take 8 = leB 18446744073709551615 8) (hkn : k + 8 ≤ n) (scale : Int)
    (h : DecAt W base D S rb ro n c tr dfv emp k) (hin : Input W rb ro n c bs) :
    Calls Tryz.prog 98 #[.int .u8 7, .pointer (some ⟨D, 0, none⟩), .int .i64 scale] W fun e w' =>
      ∃ u y, e = .returned (.tuple #[u, y]) ∧ u = .nilIface ∧ y = .nilIface ∧ DecAt w' base D S rb ro n c tr dfv emp (k + 8) ∧ Below base W w' := by
  have hP := Lib.hid (decUint64 W base D S rb ro n c tr dfv emp k bs 18446744073709551615 (by decide) (by decide) hbs h hin hkn)
  clear hbs
  go_enter Tryz.func98, Tryz.ntmps98
  go_wp2_with fail
  go_enter Tryz.func114, Tryz.ntmps114
  go_wp2_with fail
  refine hP.out.mono ?_
  rintro e w1 ⟨rfl, hd1, hk1, hb1⟩
  go_wp2
  go_ret2
  exact ⟨_, _, rfl, rfl, rfl, hd1, hb1⟩

set_option maxRecDepth 100000 in
theorem decRDouble (W : World) (base D S rb ro n c : Nat) (tr : Value) (dfv emp : Bool) (bs : List Int) (k : Nat) (x : Nat) (hx : x < 18446744073709551615) (hbs : (bs.drop k).take 8 = leB x 8) (hkn : k + 8 ≤ n) (scale : Int)
    (h : DecAt W base D S rb ro n c tr dfv emp k) (hin : Input W rb ro n c bs) :
    Calls Tryz.prog 62 #[.int .u8 7, .pointer (some ⟨D, 0, none⟩), .nilIface, .int .i64 0, .int .i64 scale] W fun e w' =>
      ∃ u y, e = .returned (.tuple #[u, y]) ∧ u = .iface 22 (.float .f64 x) ∧ y = .nilIface ∧ DecAt w' base D S rb ro n c tr dfv emp (k + 8) ∧ Below base W w' := by
  have hlt := hx
  skip
  have hP := Lib.hid (decUint64 W base D S rb ro n c tr dfv emp k bs x (by omega) (by omega) hbs h hin hkn)
  have hne : ¬ ((x : Nat) : Int) = 18446744073709551615 := by omega
  clear hbs
  clear hx hlt
  go_enter Tryz.func62, Tryz.ntmps62
  go_wp2_with fail
  go_enter Tryz.func114, Tryz.ntmps114
  go_wp2_with fail
  refine hP.out.mono ?_
  rintro e w1 ⟨rfl, hd1, hk1, hb1⟩
  go_wp2
  go_ret2
  exact ⟨_, _, rfl, rfl, rfl, hd1, hb1⟩

set_option maxRecDepth 100000 in
theorem decNRDouble (W : World) (base D S rb ro n c : Nat) (tr : Value) (dfv emp : Bool) (bs : List Int) (k : Nat) (hbs : (bs.drop k).take 8 = leB 18446744073709551615 8) (hkn : k + 8 ≤ n) (scale : Int)
    (h : DecAt W base D S rb ro n c tr dfv emp k) (hin : Input W rb ro n c bs) :
    Calls Tryz.prog 62 #[.int .u8 7, .pointer (some ⟨D, 0, none⟩), .nilIface, .int .i64 0, .int .i64 scale] W fun e w' =>
      ∃ u y, e = .returned (.tuple #[u, y]) ∧ u = .nilIface ∧ y = .nilIface ∧ DecAt w' base D S rb ro n c tr dfv emp (k + 8) ∧ Below base W w' := by
  have hP := Lib.hid (decUint64 W base D S rb ro n c tr dfv emp k bs 18446744073709551615 (by decide) (by decide) hbs h hin hkn)
  clear hbs
  go_enter Tryz.func62, Tryz.ntmps62
  go_wp2_with fail
  go_enter Tryz.func114, Tryz.ntmps114
  go_wp2_with fail
  refine hP.out.mono ?_
  rintro e w1 ⟨rfl, hd1, hk1, hb1⟩
  go_wp2
  go_ret2
  exact ⟨_, _, rfl, rfl, rfl, hd1, hb1⟩

theorem foDouble (w : World) (x : Nat) (hx : x < 18446744073709551615) (rb ro c : Nat) (hin : Input w rb ro 9 c (7 :: leB x 8)) (hrb : rb < w.heap.size) :
    Calls Tryz.prog 9 #[.int .i64 7, .slice (some ⟨rb, ro, none⟩) 9 c, .int .i64 0, .bool false, .bool false] w fun e w' =>
      e = .returned (.tuple #[.agg (fltVal x), .int .i64 9, .int .i64 0]) ∧ Below w.heap.size w w' := by
  refine (foCore w 7 0 9 rb ro 9 c false false (7 :: leB x 8) hin hrb (by decide) (by decide) (by decide) (by decide) (by decide) (fun u _ _ => u = .iface 22 (.float .f64 x)) (fun v _ _ => v = fltVal x) ?_ ?_ (fun _ _ _ _ h _ => h)).mono ?_
  · intro W base D S F tr _ hF hFD hFS hrb' hD hin'
    refine (zzFieldOf_any W _ _ _ (decPrm W base D S rb ro 9 c tr false false _ 7 rfl (by decide) (by decide) F 7 0 0 hD hin' hF hFD hFS hrb' (fun u y w' => u = .iface 22 (.float .f64 x) ∧ y = .nilIface ∧ DecAt w' base D S rb ro 9 c tr false false 9 ∧ Below base W w') ?_)).mono ?_
    · intro W1 hD1 hin1 hb1
      exact (decPDouble W1 base D S rb ro 9 c tr false false _ 1 x hx (by simp [List.take_of_length_le]) (by decide) 0 hD1 hin1).mono fun e w' ⟨x, y, h1, h2, h3, h4, h5⟩ => ⟨x, y, h1, h2, h3, h4, hb1.trans h5⟩
    · rintro e w' ⟨x, y, h1, h2, h3, h4, h5⟩
      exact ⟨x, y, h1, h3, h2, h4, h5⟩
  · rintro W B u rfl hB
    exact (valOf3 W x).mono fun e w' ⟨h1, h2⟩ => ⟨_, h1, rfl, plain1 3 false 0 x none 0 0, rfl, h2⟩
  · rintro e w' ⟨v, B, rfl, _, rfl, _, hb⟩
    exact ⟨rfl, hb⟩

theorem roDouble (w : World) (x : Nat) (hx : x < 18446744073709551615) (rb ro c : Nat) (hin : Input w rb ro 8 c (leB x 8)) (hrb : rb < w.heap.size) :
    Calls Tryz.prog 15 #[.int .i64 7, .slice (some ⟨rb, ro, none⟩) 8 c, .int .i64 0, .bool false, .bool false] w fun e w' =>
      e = .returned (.tuple #[.agg (fltVal x), .int .i64 8, .int .i64 0]) ∧ Below w.heap.size w w' := by
  refine (roCore w 7 0 8 rb ro 8 c false false (leB x 8) hin hrb (by decide) (by decide) (by decide) (by decide) (by decide) (fun u _ _ => u = .iface 22 (.float .f64 x)) (fun v _ _ => v = fltVal x) ?_ ?_ (fun _ _ _ _ h _ => h)).mono ?_
  · intro W base D S tr _ hrb' hD hin'
    refine (zzResultOf_any W _ _ _ (fun u y w' => u = .iface 22 (.float .f64 x) ∧ y = .nilIface ∧ DecAt w' base D S rb ro 8 c tr false false (0 + 8) ∧ Below base W w')
      (decRDouble W base D S rb ro 8 c tr false false _ 0 x hx (by simp [List.take_of_length_le]) (by decide) 0 hD hin')).mono ?_
    rintro e w' ⟨x, y, h1, h2, h3, h4, h5⟩
    exact ⟨x, y, h1, h3, h2, by simpa using h4, h5⟩
  · rintro W B u rfl hB
    exact (valOf3 W x).mono fun e w' ⟨h1, h2⟩ => ⟨_, h1, rfl, plain1 3 false 0 x none 0 0, rfl, h2⟩
  · rintro e w' ⟨v, B, rfl, _, rfl, _, hb⟩
    exact ⟨rfl, hb⟩

theorem roNDouble (w : World) (rb ro c : Nat) (hin : Input w rb ro 8 c (leB 18446744073709551615 8)) (hrb : rb < w.heap.size) :
    Calls Tryz.prog 15 #[.int .i64 7, .slice (some ⟨rb, ro, none⟩) 8 c, .int .i64 0, .bool false, .bool false] w fun e w' =>
      e = .returned (.tuple #[.agg noVal, .int .i64 8, .int .i64 0]) ∧ Below w.heap.size w w' := by
  refine (roCore w 7 0 8 rb ro 8 c false false (leB 18446744073709551615 8) hin hrb (by decide) (by decide) (by decide) (by decide) (by decide) (fun u _ _ => u = .nilIface) (fun v _ _ => v = noVal) ?_ ?_ (fun _ _ _ _ h _ => h)).mono ?_
  · intro W base D S tr _ hrb' hD hin'
    refine (zzResultOf_any W _ _ _ (fun u y w' => u = .nilIface ∧ y = .nilIface ∧ DecAt w' base D S rb ro 8 c tr false false (0 + 8) ∧ Below base W w')
      (decNRDouble W base D S rb ro 8 c tr false false _ 0 (by simp [List.take_of_length_le]) (by decide) 0 hD hin')).mono ?_
    rintro e w' ⟨x, y, h1, h2, h3, h4, h5⟩
    exact ⟨x, y, h1, h3, h2, by simpa using h4, h5⟩
  · rintro W B u rfl hB
    exact (valOf0 W).mono fun e w' ⟨h1, h2⟩ => ⟨_, h1, rfl, plain1 0 false 0 0 none 0 0, rfl, h2⟩
  · rintro e w' ⟨v, B, rfl, _, rfl, _, hb⟩
    exact ⟨rfl, hb⟩

/- ---- Real ---- -/
set_option maxRecDepth 100000 in
theorem fieldReal (w : World) (base E S W : Nat) (tr : Value) (xs : List Int) (x b : Nat) (hs : Short x b) (h : EncAt w base E S W tr xs) (hl : xs.length ≤ 1000) :
    Calls Tryz.prog 77 #[.pointer (some ⟨E, 0, none⟩), .iface 22 (.float .f64 x)] w fun e w' =>
      e = .returned .nilIface ∧ EncAt w' base E S W tr (xs ++ leB b 4) ∧ Below base w w' := by
  have hlt := hs.lt
  have hcv := hs.toShort
  have hP := Lib.hid (encFloat32 w base E S W tr xs h b (by omega) (by omega))
  clear hlt
  go_enter Tryz.func77, Tryz.ntmps77
  go_wp2_with fail
  refine hP.out.mono ?_
  rintro e w1 ⟨rfl, h1, hb⟩
  go_wp2
  go_ret
  exact ⟨rfl, h1, hb⟩

set_option maxRecDepth 100000 in
theorem prmReal (w : World) (base E S W F : Nat) (tr : Value) (xs : List Int) (x b : Nat) (hs : Short x b) (h : EncAt w base E S W tr xs) (hl : xs.length ≤ 100)
    (hF : w.cell? ⟨F, 5, none⟩ = some (.int .u8 6)) (hFb : F < base) :
    Calls Tryz.prog 45 #[.pointer (some ⟨F, 0, none⟩), .pointer (some ⟨E, 0, none⟩), .iface 22 (.float .f64 x)] w fun e w' =>
      e = .returned .nilIface ∧ EncAt w' base E S W tr (xs ++ [6] ++ leB b 4) ∧ Below base w w' := by
  have key : ∀ w1, EncAt w1 base E S W tr (xs ++ [6]) → Calls Tryz.prog 77 #[.pointer (some ⟨E, 0, none⟩), .iface 22 (.float .f64 x)] w1 fun e w' =>
      e = .returned .nilIface ∧ EncAt w' base E S W tr (xs ++ [6] ++ leB b 4) ∧ Below base w1 w' := fun w1 h1' => fieldReal w1 base E S W tr (xs ++ [6]) x b hs h1' (by simp; omega)
  have key' := Lib.hid key; clear key
  clear hs
  go_enter Tryz.func45, Tryz.ntmps45
  go_wp2_with (first | (go_at_call 61; go_in) | (go_at_call 59; go_in))
  refine (byte_any w base E S W tr xs h 6 (by omega)).mono ?_
  rintro e w1 ⟨rfl, h1, hb⟩
  have hF1 : w1.cell? ⟨F, 5, none⟩ = some (.int .u8 6) := (hb.cell (p := ⟨F, 5, none⟩) hFb).trans hF
  go_wp2_with fail
  refine (key'.out w1 h1).mono ?_
  rintro e w2 ⟨rfl, h2, hb2⟩
  go_wp2
  go_ret
  exact ⟨rfl, h2, hb.trans hb2⟩

set_option maxRecDepth 100000 in
theorem sizeReal (w : World) (F : Nat) (x : Value) (hF : w.cell? ⟨F, 5, none⟩ = some (.int .u8 6)) :
    Calls Tryz.prog 24 #[.pointer (some ⟨F, 0, none⟩), .iface 22 x] w fun e w' => e = .returned (.int .i64 4) ∧ w = w' := by
  go_enter Tryz.func24, Tryz.ntmps24
  go_wp2
  go_ret
  exact ⟨by simp, rfl⟩

theorem fbReal (w : World) (x b : Nat) (hs : Short x b) :
    Calls Tryz.prog 8 #[.int .i64 6, .agg (fltVal x), .int .i64 0, .int .i64 0] w fun e w' =>
      ∃ v, e = .returned (.tuple #[v, .int .i64 4, .int .i64 0]) ∧ w'.ownsRow w.heap.size 5 1 v 5 (u8s (6 :: leB b 4)) ∧ Below w.heap.size w w' := by
  refine (fbCore w 6 0 0 4 _ rfl (.iface 22 (.float .f64 x)) (6 :: leB b 4) (fun _ _ => True) (by decide) (by decide) (by decide) (by decide) (by decide) (by decide) ?_ (fun _ _ _ _ _ => trivial) ?_ ?_).mono ?_
  · intro W hW _
    exact (anyOf3 W _ _ _ _ _ _ _ _).mono fun e w' ⟨h1, h2⟩ => ⟨h1, trivial, h2 ▸ (Below.refl _ W).alloc (Nat.le_refl _) _⟩
  · intro W B F hF _
    exact (sizeReal W F _ hF.cells.2.2).mono fun e w' ⟨h1, h2⟩ => ⟨h1, h2 ▸ Below.refl _ W⟩
  · intro W base B E S Wr F tr _ hF hFb _ _ hE
    exact zzFieldBytes_any W _ _ _ _ (prmReal W base E S Wr F tr [] x b hs hE (by simp) hF.cells.2.2 hFb)
  · rintro e w' ⟨v, h1, h2, h3⟩
    exact ⟨v, h1, by simpa using h2, h3⟩

set_option maxRecDepth 100000 in
theorem decPReal (W : World) (base D S rb ro n c : Nat) (tr : Value) (dfv emp : Bool) (bs : List Int) (k : Nat) (x b : Nat) (hs : Short x b) (hbs : (bs.drop k).take 4 = leB b 4) (hkn : k + 4 ≤ n) (scale : Int)
    (h : DecAt W base D S rb ro n c tr dfv emp k) (hin : Input W rb ro n c bs) :
    Calls Tryz.prog 98 #[.int .u8 6, .pointer (some ⟨D, 0, none⟩), .int .i64 scale] W fun e w' =>
      ∃ u y, e = .returned (.tuple #[u, y]) ∧ u = .iface 22 (.float .f64 x) ∧ y = .nilIface ∧ DecAt w' base D S rb ro n c tr dfv emp (k + 4) ∧ Below base W w' := by
  have hlt := hs.lt
  have hcv := hs.toLong
  have hP := Lib.hid (decUint32 W base D S rb ro n c tr dfv emp k bs b (by omega) (by omega) hbs h hin hkn)
  have hne : ¬ ((b : Nat) : Int) = 4294967295 := by omega
  clear hbs
  clear hlt
  go_enter Tryz.func98, Tryz.ntmps98
  go_wp2_with fail
  go_enter Tryz.func113, Tryz.ntmps113
  go_wp2_with fail
  refine hP.out.mono ?_
  rintro e w1 ⟨rfl, hd1, hk1, hb1⟩
  go_wp2
  go_ret2
  exact ⟨_, _, rfl, rfl, rfl, hd1, hb1⟩

set_option maxRecDepth 100000 in
theorem decNPReal (W : World) (base D S rb ro n c : Nat) (tr : Value) (dfv emp : Bool) (bs : List Int) (k : Nat) (hbs : (bs.drop k).take 4 = leB 4294967295 4) (hkn : k + 4 ≤ n) (scale : Int)
    (h : DecAt W base D S rb ro n c tr dfv emp k) (hin : Input W rb ro n c bs) :
    Calls Tryz.prog 98 #[.int .u8 6, .pointer (some ⟨D, 0, none⟩), .int .i64 scale] W fun e w' =>
      ∃ u y, e = .returned (.tuple #[u, y]) ∧ u = .nilIface ∧ y = .nilIface ∧ DecAt w' base D S rb ro n c tr dfv emp (k + 4) ∧ Below base W w' := by
  have hP := Lib.hid (decUint32 W base D S rb ro n c tr dfv emp k bs 4294967295 (by decide) (by decide) hbs h hin hkn)
  clear hbs
  go_enter Tryz.func98, Tryz.ntmps98
  go_wp2_with fail
  go_enter Tryz.func113, Tryz.ntmps113
  go_wp2_with fail
  refine hP.out.mono ?_
  rintro e w1 ⟨rfl, hd1, hk1, hb1⟩
  go_wp2
  go_ret2
  exact ⟨_, _, rfl, rfl, rfl, hd1, hb1⟩

set_option maxRecDepth 100000 in
theorem decRReal (W : World) (base D S rb ro n c : Nat) (tr : Value) (dfv emp : Bool) (bs : List Int) (k : Nat) (x b : Nat) (hs : Short x b) (hbs : (bs.drop k).take 4 = leB b 4) (hkn : k + 4 ≤ n) (scale : Int)
    (h : DecAt W base D S rb ro n c tr dfv emp k) (hin : Input W rb ro n c bs) :
    Calls Tryz.prog 62 #[.int .u8 6, .pointer (some ⟨D, 0, none⟩), .nilIface, .int .i64 0, .int .i64 scale] W fun e w' =>
      ∃ u y, e = .returned (.tuple #[u, y]) ∧ u = .iface 22 (.float .f64 x) ∧ y = .nilIface ∧ DecAt w' base D S rb ro n c tr dfv emp (k + 4) ∧ Below base W w' := by
  have hlt := hs.lt
  have hcv := hs.toLong
  have hP := Lib.hid (decUint32 W base D S rb ro n c tr dfv emp k bs b (by omega) (by omega) hbs h hin hkn)
  have hne : ¬ ((b : Nat) : Int) = 4294967295 := by omega
  clear hbs
  clear hlt
  go_enter Tryz.func62, Tryz.ntmps62
  go_wp2_with fail
  go_enter Tryz.func113, Tryz.ntmps113
  go_wp2_with fail
  refine hP.out.mono ?_
  rintro e w1 ⟨rfl, hd1, hk1, hb1⟩
  go_wp2
  go_ret2
  exact ⟨_, _, rfl, rfl, rfl, hd1, hb1⟩

set_option maxRecDepth 100000 in
theorem decNRReal (W : World) (base D S rb ro n c : Nat) (tr : Value) (dfv emp : Bool) (bs : List Int) (k : Nat) (hbs : (bs.drop k).take 4 = leB 4294967295 4) (hkn : k + 4 ≤ n) (scale : Int)
    (h : DecAt W base D S rb ro n c tr dfv emp k) (hin : Input W rb ro n c bs) :
    Calls Tryz.prog 62 #[.int .u8 6, .pointer (some ⟨D, 0, none⟩), .nilIface, .int .i64 0, .int .i64 scale] W fun e w' =>
      ∃ u y, e = .returned (.tuple #[u, y]) ∧ u = .nilIface ∧ y = .nilIface ∧ DecAt w' base D S rb ro n c tr dfv emp (k + 4) ∧ Below base W w' := by
  have hP := Lib.hid (decUint32 W base D S rb ro n c tr dfv emp k bs 4294967295 (by decide) (by decide) hbs h hin hkn)
  clear hbs
  go_enter Tryz.func62, Tryz.ntmps62
  go_wp2_with fail
  go_enter Tryz.func113, Tryz.ntmps113
  go_wp2_with fail
  refine hP.out.mono ?_
  rintro e w1 ⟨rfl, hd1, hk1, hb1⟩
  go_wp2
  go_ret2
  exact ⟨_, _, rfl, rfl, rfl, hd1, hb1⟩

theorem foReal (w : World) (x b : Nat) (hs : Short x b) (rb ro c : Nat) (hin : Input w rb ro 5 c (6 :: leB b 4)) (hrb : rb < w.heap.size) :
    Calls Tryz.prog 9 #[.int .i64 6, .slice (some ⟨rb, ro, none⟩) 5 c, .int .i64 0, .bool false, .bool false] w fun e w' =>
      e = .returned (.tuple #[.agg (fltVal x), .int .i64 5, .int .i64 0]) ∧ Below w.heap.size w w' := by
  refine (foCore w 6 0 5 rb ro 5 c false false (6 :: leB b 4) hin hrb (by decide) (by decide) (by decide) (by decide) (by decide) (fun u _ _ => u = .iface 22 (.float .f64 x)) (fun v _ _ => v = fltVal x) ?_ ?_ (fun _ _ _ _ h _ => h)).mono ?_
  · intro W base D S F tr _ hF hFD hFS hrb' hD hin'
    refine (zzFieldOf_any W _ _ _ (decPrm W base D S rb ro 5 c tr false false _ 6 rfl (by decide) (by decide) F 6 0 0 hD hin' hF hFD hFS hrb' (fun u y w' => u = .iface 22 (.float .f64 x) ∧ y = .nilIface ∧ DecAt w' base D S rb ro 5 c tr false false 5 ∧ Below base W w') ?_)).mono ?_
    · intro W1 hD1 hin1 hb1
      exact (decPReal W1 base D S rb ro 5 c tr false false _ 1 x b hs (by simp [List.take_of_length_le]) (by decide) 0 hD1 hin1).mono fun e w' ⟨x, y, h1, h2, h3, h4, h5⟩ => ⟨x, y, h1, h2, h3, h4, hb1.trans h5⟩
    · rintro e w' ⟨x, y, h1, h2, h3, h4, h5⟩
      exact ⟨x, y, h1, h3, h2, h4, h5⟩
  · rintro W B u rfl hB
    exact (valOf3 W x).mono fun e w' ⟨h1, h2⟩ => ⟨_, h1, rfl, plain1 3 false 0 x none 0 0, rfl, h2⟩
  · rintro e w' ⟨v, B, rfl, _, rfl, _, hb⟩
    exact ⟨rfl, hb⟩

theorem roReal (w : World) (x b : Nat) (hs : Short x b) (rb ro c : Nat) (hin : Input w rb ro 4 c (leB b 4)) (hrb : rb < w.heap.size) :
    Calls Tryz.prog 15 #[.int .i64 6, .slice (some ⟨rb, ro, none⟩) 4 c, .int .i64 0, .bool false, .bool false] w fun e w' =>
      e = .returned (.tuple #[.agg (fltVal x), .int .i64 4, .int .i64 0]) ∧ Below w.heap.size w w' := by
  refine (roCore w 6 0 4 rb ro 4 c false false (leB b 4) hin hrb (by decide) (by decide) (by decide) (by decide) (by decide) (fun u _ _ => u = .iface 22 (.float .f64 x)) (fun v _ _ => v = fltVal x) ?_ ?_ (fun _ _ _ _ h _ => h)).mono ?_
  · intro W base D S tr _ hrb' hD hin'
    refine (zzResultOf_any W _ _ _ (fun u y w' => u = .iface 22 (.float .f64 x) ∧ y = .nilIface ∧ DecAt w' base D S rb ro 4 c tr false false (0 + 4) ∧ Below base W w')
      (decRReal W base D S rb ro 4 c tr false false _ 0 x b hs (by simp [List.take_of_length_le]) (by decide) 0 hD hin')).mono ?_
    rintro e w' ⟨x, y, h1, h2, h3, h4, h5⟩
    exact ⟨x, y, h1, h3, h2, by simpa using h4, h5⟩
  · rintro W B u rfl hB
    exact (valOf3 W x).mono fun e w' ⟨h1, h2⟩ => ⟨_, h1, rfl, plain1 3 false 0 x none 0 0, rfl, h2⟩
  · rintro e w' ⟨v, B, rfl, _, rfl, _, hb⟩
    exact ⟨rfl, hb⟩

theorem roNReal (w : World) (rb ro c : Nat) (hin : Input w rb ro 4 c (leB 4294967295 4)) (hrb : rb < w.heap.size) :
    Calls Tryz.prog 15 #[.int .i64 6, .slice (some ⟨rb, ro, none⟩) 4 c, .int .i64 0, .bool false, .bool false] w fun e w' =>
      e = .returned (.tuple #[.agg noVal, .int .i64 4, .int .i64 0]) ∧ Below w.heap.size w w' := by
  refine (roCore w 6 0 4 rb ro 4 c false false (leB 4294967295 4) hin hrb (by decide) (by decide) (by decide) (by decide) (by decide) (fun u _ _ => u = .nilIface) (fun v _ _ => v = noVal) ?_ ?_ (fun _ _ _ _ h _ => h)).mono ?_
  · intro W base D S tr _ hrb' hD hin'
    refine (zzResultOf_any W _ _ _ (fun u y w' => u = .nilIface ∧ y = .nilIface ∧ DecAt w' base D S rb ro 4 c tr false false (0 + 4) ∧ Below base W w')
      (decNRReal W base D S rb ro 4 c tr false false _ 0 (by simp [List.take_of_length_le]) (by decide) 0 hD hin')).mono ?_
    rintro e w' ⟨x, y, h1, h2, h3, h4, h5⟩
    exact ⟨x, y, h1, h3, h2, by simpa using h4, h5⟩
  · rintro W B u rfl hB
    exact (valOf0 W).mono fun e w' ⟨h1, h2⟩ => ⟨_, h1, rfl, plain1 0 false 0 0 none 0 0, rfl, h2⟩
  · rintro e w' ⟨v, B, rfl, _, rfl, _, hb⟩
    exact ⟨rfl, hb⟩
end Go.Proofs.YtnnckokoaenolaaGreatDoor
