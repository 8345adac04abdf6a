import Derived.Test.Qxb6601754aMergeW
namespace Go.Proofs.Qxb6601754a
open Go.RowKit
attribute [local go_sem] run_store_float

/-- What 'mergePoints' may leave. -/
def MergePost (Ta : Nat → Int) (Va : Nat → Nat) (n1 : Nat) (Tb : Nat → Int) (Vb : Nat → Nat) (n2 : Nat) (w : World) (e : Ending) (w' : World) : Prop :=
  Below w.heap.size w w' ∧
  ((e = .returned (.tuple #[.slice Option.none 0 0, .bool false]) ∧ ∃ p q, p < n1 ∧ q < n2 ∧ Ta p = Tb q) ∨
   ∃ B FT FV, e = .returned (.tuple #[.slice (some ⟨B, 0, Option.none⟩) (n1 + n2) (n1 + n2), .bool true]) ∧ Reads w' B 0 (n1 + n2) FT FV ∧ B < w'.heap.size ∧ Merged Ta Va n1 Tb Vb n2 FT FV)

/-- The length of a slice. -/
def lenV : Value → Nat | .slice _ n _ => n | _ => 0

/-- The state of the merge's loop. -/
def MSt (Ta : Nat → Int) (Va : Nat → Nat) (n1 : Nat) (Tb : Nat → Int) (Vb : Nat → Nat) (n2 : Nat) (w : World) (i j p q : Nat) (ad bd : Option Addr) (wr : World) : Prop :=
  i + p = n1 ∧ j + q = n2 ∧ Pts w ad p (fun d => Ta (i + d)) (fun d => Va (i + d)) ∧ Pts w bd q (fun d => Tb (j + d)) (fun d => Vb (j + d)) ∧
  Room wr w.heap.size ((n1 + n2) * 2) ∧ Below w.heap.size w wr ∧ w.heap.size < wr.heap.size ∧ ∃ MT MV, Reads wr w.heap.size 0 (i + j) MT MV ∧ MInv Ta Va n1 Tb Vb n2 i j MT MV

theorem one_cells (wr : World) (t : Int) (v : Nat) : ∀ x u, ([.int .i64 t, .float .f64 v] : List Value)[x]? = some u → (wr.alloc (.cells #[.int .i64 t, .float .f64 v] 34)).cell? ((⟨wr.heap.size, 0, Option.none⟩ : Addr).add x) = some u := by
  intro x u h
  rw [addr_plain, World.cell?_alloc_new, Nat.zero_add]
  match x, h with
  | 0, h => exact h
  | 1, h => exact h
theorem one_one (t : Int) (v : Nat) : ∀ u ∈ ([.int .i64 t, .float .f64 v] : List Value), u.oneCell' = true := by
  intro u hu
  simp at hu
  rcases hu with rfl | rfl <;> rfl
theorem room_one {w wr : World} {N k : Nat} (hR : Room wr w.heap.size (N * 2)) (hS : w.heap.size < wr.heap.size) (hk : k + 1 ≤ N) (o : Obj) (t : Int) (v : Nat) :
    ∀ x, x < ([.int .i64 t, .float .f64 v] : List Value).length → ((wr.alloc o).cell? ⟨w.heap.size, 0 + k * 2 + x, Option.none⟩).isSome = true ∧ (wr.alloc o).frozen? ⟨w.heap.size, 0 + k * 2 + x, Option.none⟩ = false := by
  intro x hx
  have hx2 : x < 2 := hx
  rw [World.cell?_alloc_lt _ _ _ hS, World.frozen?_alloc_old _ _ _ (Nat.ne_of_lt hS)]
  obtain ⟨u, hu⟩ := hR.1 (0 + k * 2 + x) (by omega)
  exact ⟨by rw [hu]; rfl, hR.2 _⟩

theorem room_alloc {w : World} {B m : Nat} (h : Room w B m) (hB : B < w.heap.size) (o : Obj) : Room (w.alloc o) B m :=
  ⟨fun j hj => by rw [World.cell?_alloc_lt _ _ _ hB]; exact h.1 j hj, fun j => by rw [World.frozen?_alloc_old _ _ _ (Nat.ne_of_lt hB)]; exact h.2 j⟩
theorem reads_alloc {w : World} {b off n : Nat} {T : Nat → Int} {V : Nat → Nat} (h : Reads w b off n T V) (hB : b < w.heap.size) (o : Obj) : Reads (w.alloc o) b off n T V :=
  fun i hi => by rw [World.cell?_alloc_lt _ _ _ hB, World.cell?_alloc_lt _ _ _ hB]; exact h i hi

theorem pts_below' {w w' : World} {a : Option Addr} {n : Nat} {T : Nat → Int} {V : Nat → Nat} (h : Pts w a n T V) (hB : Below w.heap.size w w') : Pts w' a n T V := by
  refine ⟨h.1, fun h0 => ?_⟩
  obtain ⟨b, off, ha, hR⟩ := h.2 h0
  have hb : b < w.heap.size := at_pt hR h0
  exact ⟨b, off, ha, fun i hi => ⟨(hB.cell (by exact hb)).trans (hR i hi).1, (hB.cell (by exact hb)).trans (hR i hi).2⟩⟩

theorem pts_tail {w : World} {b off p i : Nat} {T : Nat → Int} {V : Nat → Nat} (h : Reads w b off (p + 1) (fun d => T (i + d)) (fun d => V (i + d))) {ad : Option Addr} (h1 : 0 < p → ad = some ⟨b, off + 2, Option.none⟩) (h0 : ad = Option.none → p = 0) :
    Pts w ad p (fun d => T (i + 1 + d)) (fun d => V (i + 1 + d)) := by
  refine ⟨h0, fun hp => ⟨b, off + 2, h1 hp, fun d hd => ?_⟩⟩
  have := h (d + 1) (by omega)
  show w.cell? ⟨b, off + 2 + d * 2, Option.none⟩ = some (.int .i64 (T (i + 1 + d))) ∧ w.cell? ⟨b, off + 2 + d * 2 + 1, Option.none⟩ = some (.float .f64 (V (i + 1 + d)))
  rw [show off + 2 + d * 2 = off + (d + 1) * 2 by omega, show i + 1 + d = i + (d + 1) by omega]
  exact this

/-- A state's world: what the step leaves. -/
theorem own_step {w wr : World} {N k : Nat} {MT : Nat → Int} {MV : Nat → Nat} (t : Int) (v : Nat) (hR : Room wr w.heap.size (N * 2)) (hB : Below w.heap.size w wr) (hS : w.heap.size < wr.heap.size) (hD : Reads wr w.heap.size 0 k MT MV) (hk : k + 1 ≤ N) (c : Nat) (o : Obj) :
    Room (((wr.drewN c).alloc o).setCells w.heap.size (k * 2) [.int .i64 t, .float .f64 v]) w.heap.size (N * 2) ∧ Below w.heap.size w (((wr.drewN c).alloc o).setCells w.heap.size (k * 2) [.int .i64 t, .float .f64 v]) ∧
    w.heap.size < (((wr.drewN c).alloc o).setCells w.heap.size (k * 2) [.int .i64 t, .float .f64 v]).heap.size ∧ Reads (((wr.drewN c).alloc o).setCells w.heap.size (k * 2) [.int .i64 t, .float .f64 v]) w.heap.size 0 (k + 1) (upd MT k t) (upd MV k v) := by
  have h1 : Room (wr.drewN c) w.heap.size (N * 2) := hR
  have h2 : Reads (wr.drewN c) w.heap.size 0 k MT MV := hD
  have h3 : w.heap.size < (wr.drewN c).heap.size := hS
  have h := pts_one t v (room_alloc h1 h3 o) (reads_alloc h2 h3 o) hk
  rw [Nat.zero_add] at h
  have hb := ((below_drewN hB c).alloc (Nat.le_of_lt h3) o)
  exact ⟨h.1, below_setCells (Nat.le_refl _) _ _ _ hb, by rw [size_setCells, World.size_alloc]; omega, h.2⟩

section
variable {Ta : Nat → Int} {Va : Nat → Nat} {n1 : Nat} {Tb : Nat → Int} {Vb : Nat → Nat} {n2 i j p q : Nat} {MT : Nat → Int} {MV : Nat → Nat} {w wr : World} {bd ad : Option Addr} {b off : Nat}

theorem mst_A (e1 : i + (p + 1) = n1) (e2 : j + (q + 1) = n2) (ra : Reads w b off (p + 1) (fun d => Ta (i + d)) (fun d => Va (i + d))) (hPb : Pts w bd (q + 1) (fun d => Tb (j + d)) (fun d => Vb (j + d)))
    (hR : Room wr w.heap.size ((n1 + n2) * 2)) (hB : Below w.heap.size w wr) (hS : w.heap.size < wr.heap.size) (hD : Reads wr w.heap.size 0 (i + j) MT MV) (hI : MInv Ta Va n1 Tb Vb n2 i j MT MV) (hlt : Ta i < Tb j) (sb : Sorted Tb n2)
    (h1 : 0 < p → ad = some ⟨b, off + 2, Option.none⟩) (h0 : ad = Option.none → p = 0) (c : Nat) (o : Obj) :
    MSt Ta Va n1 Tb Vb n2 w (i + 1) j p (q + 1) ad bd (((wr.drewN c).alloc o).setCells w.heap.size ((i + j) * 2) [.int .i64 (Ta i), .float .f64 (Va i)]) := by
  obtain ⟨a, b', c', d⟩ := own_step (Ta i) (Va i) hR hB hS hD (by omega) c o
  rw [show i + j + 1 = i + 1 + j by omega] at d
  exact ⟨by omega, e2, pts_tail ra h1 h0, hPb, a, b', c', _, _, d, hI.stepA (by omega) (by omega) hlt sb⟩

theorem mst_B (e1 : i + (p + 1) = n1) (e2 : j + (q + 1) = n2) (rb : Reads w b off (q + 1) (fun d => Tb (j + d)) (fun d => Vb (j + d))) (hPa : Pts w ad (p + 1) (fun d => Ta (i + d)) (fun d => Va (i + d)))
    (hR : Room wr w.heap.size ((n1 + n2) * 2)) (hB : Below w.heap.size w wr) (hS : w.heap.size < wr.heap.size) (hD : Reads wr w.heap.size 0 (i + j) MT MV) (hI : MInv Ta Va n1 Tb Vb n2 i j MT MV) (hlt : Tb j < Ta i) (sa : Sorted Ta n1)
    (h1 : 0 < q → bd = some ⟨b, off + 2, Option.none⟩) (h0 : bd = Option.none → q = 0) (c : Nat) (o : Obj) :
    MSt Ta Va n1 Tb Vb n2 w i (j + 1) (p + 1) q ad bd (((wr.drewN c).alloc o).setCells w.heap.size ((i + j) * 2) [.int .i64 (Tb j), .float .f64 (Vb j)]) := by
  obtain ⟨a, b', c', d⟩ := own_step (Tb j) (Vb j) hR hB hS hD (by omega) c o
  exact ⟨e1, by omega, hPa, pts_tail rb h1 h0, a, b', c', _, _, d, hI.stepB (by omega) (by omega) hlt sa⟩
end

set_option maxRecDepth 100000 in
set_option maxHeartbeats 2000000 in
theorem merge_any (ad0 bd0 : Option Addr) (Ta : Nat → Int) (Va : Nat → Nat) (n1 : Nat) (Tb : Nat → Int) (Vb : Nat → Nat) (n2 : Nat) (w : World) (h1 : Pts w ad0 n1 Ta Va) (h2 : Pts w bd0 n2 Tb Vb)
    (sa : Sorted Ta n1) (sb : Sorted Tb n2) (b1 : n1 ≤ 32768) (b2 : n2 ≤ 32768) :
    Calls Try.prog 32 #[.slice ad0 n1 n1, .slice bd0 n2 n2] w (MergePost Ta Va n1 Tb Vb n2 w) := by
  obtain ⟨i0, hi, hz0, hz1, hz2⟩ := info_parts Try.info34
  go_enter Try.func32, Try.ntmps32
  go_wp2_with (at_make; refine wpList_make_cap _ rfl _ _ rfl (n1 + n2) _ (by simp) rfl rfl (by omega) ?_; intro w1 hR hB hS)
  go_loopw [0, 1, 6] (fun s0 s1 s6 wr => ∃ i j p q ad bd, s0 = .slice ad p p ∧ s1 = .slice bd q q ∧ s6 = .slice (some ⟨w.heap.size, 0, Option.none⟩) (i + j) (n1 + n2) ∧ MSt Ta Va n1 Tb Vb n2 w i j p q ad bd wr)
    (fun s0 s1 _ _ => lenV s0 + lenV s1)
  case atStart => exact ⟨0, 0, n1, n2, ad0, bd0, rfl, rfl, rfl, by omega, by omega, by simpa using h1, by simpa using h2, hR, hB, hS, fun _ => 0, fun _ => 0, fun i hi => absurd hi (by omega), minv_start⟩
  case round =>
    obtain ⟨i, j, p, q, ad, bd, rfl, rfl, rfl, hM⟩ := hrel
    by_cases hpq : 0 < p ∧ 0 < q
    · obtain ⟨hp, hq⟩ := hpq
      obtain ⟨p', rfl⟩ : ∃ p', p = p' + 1 := ⟨p - 1, by omega⟩
      obtain ⟨q', rfl⟩ : ∃ q', q = q' + 1 := ⟨q - 1, by omega⟩
      obtain ⟨e1, e2, hPa, hPb, hRr, hBr, hSr, MT, MV, hD, hI⟩ := hM
      obtain ⟨ba, oa, rfl, ra⟩ := hPa.2 (by omega)
      obtain ⟨bb, ob, rfl, rb⟩ := hPb.2 (by omega)
      have hba : ba < w.heap.size := at_pt ra (k := 0) (by omega)
      have hbb : bb < w.heap.size := at_pt rb (k := 0) (by omega)
      have ca0 : wr.cell? ⟨ba, oa, Option.none⟩ = some (.int .i64 (Ta i)) := by have h := (ra 0 (by omega)).1; rw [← hBr.cell (by exact hba)] at h; simpa using h
      have ca1 : wr.cell? ⟨ba, oa + 1, Option.none⟩ = some (.float .f64 (Va i)) := by have h := (ra 0 (by omega)).2; rw [← hBr.cell (by exact hba)] at h; simpa using h
      have cb0 : wr.cell? ⟨bb, ob, Option.none⟩ = some (.int .i64 (Tb j)) := by have h := (rb 0 (by omega)).1; rw [← hBr.cell (by exact hbb)] at h; simpa using h
      have cb1 : wr.cell? ⟨bb, ob + 1, Option.none⟩ = some (.float .f64 (Vb j)) := by have h := (rb 0 (by omega)).2; rw [← hBr.cell (by exact hbb)] at h; simpa using h
      have E1 : Hid (i + (p' + 1) = n1) := e1
      have E2 : Hid (j + (q' + 1) = n2) := e2
      clear e1 e2
      by_cases heq : Ta i = Tb j
      · have hb : (Ta i == Tb j) = true := beq_iff_eq.2 heq
        have HE : Hid (Ta i = Tb j) := heq
        clear heq
        go_wp2
        go_quiet (fail)
        go_wp2
        go_ret2
        have h1' := E1.out
        have h2' := E2.out
        exact ⟨below_drewN hBr _, .inl ⟨rfl, i, j, by omega, by omega, HE.out⟩⟩
      · have hb : (Ta i == Tb j) = false := beq_eq_false_iff_ne.2 heq
        by_cases hlt : Ta i < Tb j
        · go_wp2
          go_quiet (fail)
          go_wp2
          go_quiet (fail)
          go_wp2
          have S1 : Hid (∀ x u, ([.int .i64 (Ta i), .float .f64 (Va i)] : List Value)[x]? = some u → (wr.alloc (.cells #[.int .i64 (Ta i), .float .f64 (Va i)] 34)).cell? ((⟨wr.heap.size, 0, Option.none⟩ : Addr).add x) = some u) := one_cells wr _ _
          have S2 : Hid (∀ u ∈ ([.int .i64 (Ta i), .float .f64 (Va i)] : List Value), u.oneCell' = true) := one_one _ _
          have S3 : Hid (i + j + 1 ≤ n1 + n2) := by have := E1.out; have := E2.out; show _ ≤ _; omega
          have S4 : Hid (∀ x, x < ([.int .i64 (Ta i), .float .f64 (Va i)] : List Value).length → ((wr.alloc (.cells #[.int .i64 (Ta i), .float .f64 (Va i)] 34)).cell? ⟨w.heap.size, 0 + (i + j) * 2 + x, Option.none⟩).isSome = true ∧ (wr.alloc (.cells #[.int .i64 (Ta i), .float .f64 (Va i)] 34)).frozen? ⟨w.heap.size, 0 + (i + j) * 2 + x, Option.none⟩ = false) := room_one hRr hSr S3.out _ _ _
          have hp1 : (1 : Int) ≤ (p' : Int) + 1 := by omega
          by_cases hp0 : p' = 0
          · subst hp0
            go_region_law (refine step_append_room rfl (.tmp 39) (.tmp 43) 25 rfl 34 i0 2 Try.underlying25 hi hz1 w.heap.size 0 (i + j) (n1 + n2) (by simp [Act.eval]) ⟨wr.heap.size, 0, Option.none⟩ 1 1 [.int .i64 (Ta i), .float .f64 (Va i)] (by simp [Act.eval]) rfl S1.out S2.out S3.out S4.out ?_)
            go_simp
            go_roundw
            case rel =>
              (repeat apply Exists.intro)
              refine ⟨?_, rfl⟩
              exact ⟨i + 1, j, 0, q' + 1, _, _, rfl, rfl, by rw [show i + 1 + j = i + j + 1 by omega], mst_A E1.out E2.out ra hPb hRr hBr hSr hD hI hlt sb (fun h => absurd h (by omega)) (fun _ => rfl) _ _⟩
            case measure => simp [lenV]
          · go_region_law (refine step_append_room rfl (.tmp 39) (.tmp 43) 25 rfl 34 i0 2 Try.underlying25 hi hz1 w.heap.size 0 (i + j) (n1 + n2) (by simp [Act.eval]) ⟨wr.heap.size, 0, Option.none⟩ 1 1 [.int .i64 (Ta i), .float .f64 (Va i)] (by simp [Act.eval]) rfl S1.out S2.out S3.out S4.out ?_)
            go_simp
            go_roundw
            case rel =>
              (repeat apply Exists.intro)
              refine ⟨?_, rfl⟩
              exact ⟨i + 1, j, p', q' + 1, _, _, rfl, rfl, by rw [show i + 1 + j = i + j + 1 by omega], mst_A E1.out E2.out ra hPb hRr hBr hSr hD hI hlt sb (fun _ => rfl) (fun h => by cases h) _ _⟩
            case measure => simp [lenV]
        · have hgt : Tb j < Ta i := by omega
          go_wp2
          go_quiet (fail)
          go_wp2
          go_quiet (fail)
          go_wp2
          have S1 : Hid (∀ x u, ([.int .i64 (Tb j), .float .f64 (Vb j)] : List Value)[x]? = some u → (wr.alloc (.cells #[.int .i64 (Tb j), .float .f64 (Vb j)] 34)).cell? ((⟨wr.heap.size, 0, Option.none⟩ : Addr).add x) = some u) := one_cells wr _ _
          have S2 : Hid (∀ u ∈ ([.int .i64 (Tb j), .float .f64 (Vb j)] : List Value), u.oneCell' = true) := one_one _ _
          have S3 : Hid (i + j + 1 ≤ n1 + n2) := by have := E1.out; have := E2.out; show _ ≤ _; omega
          have S4 : Hid (∀ x, x < ([.int .i64 (Tb j), .float .f64 (Vb j)] : List Value).length → ((wr.alloc (.cells #[.int .i64 (Tb j), .float .f64 (Vb j)] 34)).cell? ⟨w.heap.size, 0 + (i + j) * 2 + x, Option.none⟩).isSome = true ∧ (wr.alloc (.cells #[.int .i64 (Tb j), .float .f64 (Vb j)] 34)).frozen? ⟨w.heap.size, 0 + (i + j) * 2 + x, Option.none⟩ = false) := room_one hRr hSr S3.out _ _ _
          have hq1 : (1 : Int) ≤ (q' : Int) + 1 := by omega
          by_cases hq0 : q' = 0
          · subst hq0
            go_region_law (refine step_append_room rfl (.tmp 47) (.tmp 51) 25 rfl 34 i0 2 Try.underlying25 hi hz1 w.heap.size 0 (i + j) (n1 + n2) (by simp [Act.eval]) ⟨wr.heap.size, 0, Option.none⟩ 1 1 [.int .i64 (Tb j), .float .f64 (Vb j)] (by simp [Act.eval]) rfl S1.out S2.out S3.out S4.out ?_)
            go_simp
            go_roundw
            case rel =>
              (repeat apply Exists.intro)
              refine ⟨?_, rfl⟩
              exact ⟨i, j + 1, p' + 1, 0, _, _, rfl, rfl, rfl, mst_B E1.out E2.out rb hPa hRr hBr hSr hD hI hgt sa (fun h => absurd h (by omega)) (fun _ => rfl) _ _⟩
            case measure => simp [lenV]
          · go_region_law (refine step_append_room rfl (.tmp 47) (.tmp 51) 25 rfl 34 i0 2 Try.underlying25 hi hz1 w.heap.size 0 (i + j) (n1 + n2) (by simp [Act.eval]) ⟨wr.heap.size, 0, Option.none⟩ 1 1 [.int .i64 (Tb j), .float .f64 (Vb j)] (by simp [Act.eval]) rfl S1.out S2.out S3.out S4.out ?_)
            go_simp
            go_roundw
            case rel =>
              (repeat apply Exists.intro)
              refine ⟨?_, rfl⟩
              exact ⟨i, j + 1, p' + 1, q', _, _, rfl, rfl, rfl, mst_B E1.out E2.out rb hPa hRr hBr hSr hD hI hgt sa (fun _ => rfl) (fun h => by cases h) _ _⟩
            case measure => simp [lenV]
    · obtain ⟨e1, e2, hPa, hPb, hRr, hBr, hSr, MT, MV, hD, hI⟩ := hM
      have E1 : Hid (i + p = n1) := e1
      have E2 : Hid (j + q = n2) := e2
      have HN : Hid (¬ (0 < p ∧ 0 < q)) := hpq
      clear e1 e2 hpq
      have F1 : Hid (Pts wr ad p (fun d => Ta (i + d)) (fun d => Va (i + d))) := pts_below' hPa hBr
      have F2 : Hid (Pts (wr.setCells w.heap.size ((i + j) * 2) (ptCells (fun d => Ta (i + d)) (fun d => Va (i + d)) p)) bd q (fun d => Tb (j + d)) (fun d => Vb (j + d))) := pts_below' hPb (below_setCells (Nat.le_refl _) _ _ _ hBr)
      have G1 : Hid (i + j + p ≤ n1 + n2) := by have := E1.out; have := E2.out; show _ ≤ _; omega
      have G2 : Hid (i + j + p + q ≤ n1 + n2) := by have := E1.out; have := E2.out; show _ ≤ _; omega
      have A1 := pts_app (T := fun d => Ta (i + d)) (V := fun d => Va (i + d)) (m := p) hRr hD G1.out
      rw [Nat.zero_add] at A1
      have A2 := pts_app (T := fun d => Tb (j + d)) (V := fun d => Vb (j + d)) (m := q) A1.1 A1.2 G2.out
      rw [Nat.zero_add] at A2
      have HR : Hid (Room wr w.heap.size ((n1 + n2) * 2)) := hRr
      have HR2 : Hid (Room (wr.setCells w.heap.size ((i + j) * 2) (ptCells (fun d => Ta (i + d)) (fun d => Va (i + d)) p)) w.heap.size ((n1 + n2) * 2)) := A1.1
      have HP : Hid (MergePost Ta Va n1 Tb Vb n2 w (.returned (.tuple #[.slice (some ⟨w.heap.size, 0, Option.none⟩) (i + j + p + q) (n1 + n2), .bool true])) ((wr.setCells w.heap.size ((i + j) * 2) (ptCells (fun d => Ta (i + d)) (fun d => Va (i + d)) p)).setCells w.heap.size ((i + j + p) * 2) (ptCells (fun d => Tb (j + d)) (fun d => Vb (j + d)) q))) := by
        have x1 := E1.out
        have x2 := E2.out
        have x3 := HN.out
        have hf := hI.finish (by omega)
        rw [show n1 - i = p by omega] at hf
        refine ⟨below_setCells (Nat.le_refl _) _ _ _ (below_setCells (Nat.le_refl _) _ _ _ hBr), .inr ⟨w.heap.size, _, _, ?_, ?_, ?_, hf⟩⟩
        · rw [show i + j + p + q = n1 + n2 by omega]
        · have h := A2.2
          rwa [show i + j + p + q = n1 + n2 by omega] at h
        · rw [size_setCells, size_setCells]; exact hSr
      clear A1 A2 hD hI hRr hPa hPb
      by_cases hp : 0 < p
      · have hq : ¬ 0 < q := by have := HN.out; omega
        have hqd : decide ((0 : Int) < (q : Int)) = false := decide_eq_false (by omega)
        have hpd : (0 : Int) < (p : Int) := by omega
        go_wp2_with (first | (at_builtin; refine wpList_app _ rfl (.tmp 55) (.tmp 56) rfl w.heap.size (i + j) (n1 + n2) rfl ad p p rfl (fun d => Ta (i + d)) (fun d => Va (i + d)) F1.out G1.out HR.out ?_) | (at_builtin; refine wpList_app _ rfl (.tmp 57) (.tmp 58) rfl w.heap.size (i + j + p) (n1 + n2) rfl bd q q rfl (fun d => Tb (j + d)) (fun d => Vb (j + d)) F2.out G2.out HR2.out ?_))
        go_ret2
        exact HP.out
      · have hpd : decide ((0 : Int) < (p : Int)) = false := decide_eq_false (by omega)
        go_wp2_with (first | (at_builtin; refine wpList_app _ rfl (.tmp 55) (.tmp 56) rfl w.heap.size (i + j) (n1 + n2) rfl ad p p rfl (fun d => Ta (i + d)) (fun d => Va (i + d)) F1.out G1.out HR.out ?_) | (at_builtin; refine wpList_app _ rfl (.tmp 57) (.tmp 58) rfl w.heap.size (i + j + p) (n1 + n2) rfl bd q q rfl (fun d => Tb (j + d)) (fun d => Vb (j + d)) F2.out G2.out HR2.out ?_))
        go_ret2
        exact HP.out
end Go.Proofs.Qxb6601754a
