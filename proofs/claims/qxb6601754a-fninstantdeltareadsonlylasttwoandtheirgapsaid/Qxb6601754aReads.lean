import Derived.Test.Qxb6601754aInst
namespace Go.Proofs.Qxb6601754a
open Go.RowKit
attribute [local go_sem] run_store_float

theorem zz30_no (a : Option Addr) (n c : Nat) (k : Int) (p : Bool) (w : World) (h : 1048576 < n) :
    Calls Try.prog 30 #[.slice a n c, .int .i64 k, .bool p] w fun e w' => e = .returned (.bool false) ∧ w = w' := by
  go_enter Try.func30, Try.ntmps30
  go_wp2
  go_ret
  exact ⟨rfl, rfl⟩
theorem zz30_yes (a : Option Addr) (n c : Nat) (k : Int) (p : Bool) (w : World) (h : n ≤ 1048576) :
    Calls Try.prog 30 #[.slice a n c, .int .i64 k, .bool p] w fun e w' => e = .returned (.bool true) ∧ w = w' := by
  go_enter Try.func30, Try.ntmps30
  go_wp2
  go_ret
  exact ⟨rfl, rfl⟩

theorem walk9_long (a : Option Addr) (n c : Nat) (k : Int) (p : Bool) (w : World) (h : 65536 < n) :
    Calls Try.prog 9 #[.slice a n c, .int .i64 k, .bool p] w fun e w' => e = .returned (.bool true) ∧ Below w.heap.size w w' := by
  by_cases h1 : 1048576 < n
  · go_enter Try.func9, Try.ntmps9
    go_wp2_with (go_at_call 30; refine (zz30_no _ _ _ _ _ _ h1).mono ?_; rintro e w' ⟨rfl, rfl⟩)
    go_ret
    exact ⟨rfl, Below.refl _ _⟩
  · go_enter Try.func9, Try.ntmps9
    go_wp2_with (go_at_call 30; refine (zz30_yes _ _ _ _ _ _ (by omega)).mono ?_; rintro e w' ⟨rfl, rfl⟩)
    go_ret
    exact ⟨rfl, Below.refl _ _⟩

set_option maxHeartbeats 400000 in
theorem walk9_few (a : Option Addr) (n c : Nat) (hc : a = Option.none → c = 0) (k : Int) (p : Bool) (T : Nat → Int) (V : Nat → Nat) (w : World) (hP : Pts w a n T V) (h : n < 2) :
    Calls Try.prog 9 #[.slice a n c, .int .i64 k, .bool p] w fun e w' => e = .returned (.bool true) ∧ Below w.heap.size w w' := by
  go_enter Try.func9, Try.ntmps9
  go_wp2_with (go_at_call 30; refine (zz30_yes _ _ _ _ _ _ (by omega)).mono ?_; rintro e w' ⟨rfl, rfl⟩)
  refine (toModel_any a n c hc T V _ hP (by omega)).mono ?_
  rintro e w1 ⟨a1, rfl, hP1, hB1⟩
  go_wp2_with fail
  refine (zzinst_few _ _ _ _ _ h).mono ?_
  rintro e w2 ⟨rfl, hw2⟩
  subst hw2
  go_wp2_with fail
  refine (same_any 0 0 rfl _).mono ?_
  rintro e w3 ⟨rfl, n3, rfl⟩
  go_wp2_with fail
  go_ret
  exact ⟨rfl, below_drewN hB1 _⟩

theorem gap_shift (x y k : Int) : wrap64 (wrap64 (x + k) - wrap64 (y + k)) = wrap64 (x - y) := by
  unfold wrap64; omega

theorem two_reads (w : World) (t0 t1 : Int) (v0 v1 : Nat) :
    Reads (w.alloc (.cells #[.int .i64 t0, .float .f64 v0, .int .i64 t1, .float .f64 v1] 34)).drew w.heap.size 0 2 (fun i => if i = 0 then t0 else t1) (fun i => if i = 0 then v0 else v1) := by
  intro i hi
  simp only [World.cell?_drew, World.cell?_alloc_new]
  match i, hi with
  | 0, _ => simp
  | 1, _ => simp

set_option maxHeartbeats 1000000 in
theorem walk9_two (b off n c : Nat) (k : Int) (p : Bool) (T : Nat → Int) (V : Nat → Nat) (w : World) (hP : Reads w b off n T V) (h : 2 ≤ n) (h16 : n ≤ 65536) :
    Calls Try.prog 9 #[.slice (some ⟨b, off, Option.none⟩) n c, .int .i64 k, .bool p] w fun e w' => e = .returned (.bool true) ∧ Below w.heap.size w w' := by
  go_enter Try.func9, Try.ntmps9
  go_wp2_with (go_at_call 30; refine (zz30_yes _ _ _ _ _ _ (by omega)).mono ?_; rintro e w' ⟨rfl, rfl⟩)
  refine (toModel_pts b off n c T V _ hP (by omega)).mono ?_
  rintro e w1 ⟨rfl, hP1, hB1, hS1⟩
  go_wp2_with fail
  refine (zzinst_any _ _ _ _ _ T V _ hP1 h (by omega)).mono ?_
  rintro e w2 ⟨r, rfl, hr, hB2⟩
  have Hr : Hid (canon r = instF T (fun i => canon (V i)) n (FloatKind.f64.format.order (V (n - 1)) (V (n - 2)) == some .lt) p) := hr
  clear hr
  have hbl : b < w.heap.size := at_pt hP (k := n - 2) (by omega)
  have hB : Below w.heap.size w w2 := hB1.trans (hB2.mono hB1.size)
  have hbl2 : b < w2.heap.size := Nat.lt_of_lt_of_le hbl hB.size
  have c0 := (hB.cell (p := ⟨b, off + (n - 2) * 2, Option.none⟩) hbl).trans (hP (n - 2) (by omega)).1
  have c1 := (hB.cell (p := ⟨b, off + (n - 2) * 2 + 1, Option.none⟩) hbl).trans (hP (n - 2) (by omega)).2
  have d0 := (hB.cell (p := ⟨b, off + (n - 1) * 2, Option.none⟩) hbl).trans (hP (n - 1) (by omega)).1
  have d1 := (hB.cell (p := ⟨b, off + (n - 1) * 2 + 1, Option.none⟩) hbl).trans (hP (n - 1) (by omega)).2
  go_wp2_with fail
  go_region
  go_wp2_with fail
  refine (zzinst_any w2.heap.size 0 2 2 p (fun i => if i = 0 then wrap64 (T (n - 2) + k) else wrap64 (T (n - 1) + k)) (fun i => if i = 0 then V (n - 2) else V (n - 1)) _ ?_ (by omega) (by omega)).mono ?_
  · exact two_reads w2 _ _ _ _
  rintro e w3 ⟨r3, rfl, hr3, hB3⟩
  have Hr3 : Hid (canon r3 = canon r) := by
    show canon r3 = canon r
    rw [hr3, Hr.out]
    simp [instF, gap_shift]
  clear hr3 Hr
  go_wp2_with fail
  refine (same_any r r3 Hr3.out.symm _).mono ?_
  rintro e w4 ⟨rfl, n4, rfl⟩
  go_wp2_with fail
  go_ret
  refine ⟨rfl, below_drewN (hB.trans ?_) _⟩
  have h4 : Below w2.heap.size w2 w3 := (((Below.refl _ _).alloc (Nat.le_refl _) _).drew).trans (hB3.mono (by simp))
  exact h4.mono hB.size

theorem walk9 (a : Option Addr) (n c : Nat) (hc : a = Option.none → c = 0) (k : Int) (p : Bool) (T : Nat → Int) (V : Nat → Nat) (w : World) (hP : Pts w a n T V) :
    Calls Try.prog 9 #[.slice a n c, .int .i64 k, .bool p] w fun e w' => e = .returned (.bool true) ∧ Below w.heap.size w w' := by
  by_cases h1 : 65536 < n
  · exact walk9_long a n c k p w h1
  · by_cases h2 : n < 2
    · exact walk9_few a n c hc k p T V w hP h2
    · obtain ⟨b, off, rfl, hR⟩ := hP.2 (by omega)
      exact walk9_two b off n c k p T V w hR (by omega) (by omega)
end Go.Proofs.Qxb6601754a
