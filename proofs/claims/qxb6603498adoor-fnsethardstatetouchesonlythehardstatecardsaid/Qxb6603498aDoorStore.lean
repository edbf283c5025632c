import Derived.Test.Qxb6603498aDoorTerm
import Derived.Deep.OwnRows
namespace Go.Proofs.Qxb6603498aDoor
open Go.RowKit

/-- The integers behind a slice value: for every index below the length its cell. -/
def Ints (w : World) (a : Option Addr) (n : Nat) (ts : List Int) : Prop :=
  ts.length = n ∧ (n = 0 ∨ ∃ bb off, a = some ⟨bb, off, none⟩ ∧ bb < w.heap.size ∧ ∀ k, k < n → w.cell? ⟨bb, off + k, none⟩ = some (.int .u64 (nth ts k)))

/-- It returned a bool. -/
def IsBool (e : Ending) : Prop := ∃ r, e = .returned (.bool r)

theorem sorted_any (ct : Int) (a : Option Addr) (n cap : Nat) (ts : List Int) (w : World) (hn : n ≤ 65536) (h : Ints w a n ts) :
    Calls Tryd.prog 6 #[.int .u64 ct, .slice a n cap] w fun e w' => IsBool e ∧ w' = w := by
  obtain ⟨hlen, h | ⟨bb, off, rfl, _, hc⟩⟩ := h
  · subst h
    go_enter Tryd.func6, Tryd.ntmps6
    go_wp2
    refine wp_loop_rounds 1 ?_
    rw [rounds_succ]
    go_wp2
    go_ret
    exact ⟨⟨_, rfl⟩, rfl⟩
  · go_enter Tryd.func6, Tryd.ntmps6
    go_wp2
    go_loop [5, 6] (fun p i => ∃ (k : Nat) (q : Int), k ≤ n ∧ i = .int .i64 k ∧ p = .int .u64 q) (fun _ i => n - (intOf i).toNat)
    case atStart => exact ⟨0, ct, Nat.zero_le _, rfl, rfl⟩
    case round =>
      obtain ⟨k, q, hk, rfl, rfl⟩ := hrel
      by_cases hlt : k < n
      · have hck := hc k hlt
        go_wp2
        · go_ret
          exact ⟨⟨_, rfl⟩, rfl⟩
        · go_round
          case rel => exact ⟨k + 1, _, by omega, by go_num, rfl⟩
          case measure => simp [intOf]; omega
      · go_wp2
        go_ret
        exact ⟨⟨_, rfl⟩, rfl⟩

theorem bytes4_any (c ct : Int) (a : Option Addr) (n cap : Nat) (w : World) (hn : n ≤ 65536) :
    Calls Tryd.prog 12 #[.int .u64 c, .int .u64 ct, .slice a n cap] w fun e w' => e = .returned (.bool true) ∧ w' = w := by
  go_enter Tryd.func12, Tryd.ntmps12
  go_wp2
  go_ret
  exact ⟨rfl, rfl⟩

theorem info22 : (Tryd.prog.info? 22).map (fun i => (i.zero, i.size, i.bytes)) = some (some (.int .u64 0), 1, 8) := by kernel_rfl
theorem info44 : (Tryd.prog.info? 44).map (fun i => (i.zero, i.size, i.bytes)) = some (some (.agg #[.int .u64 0, .int .u64 0, .slice none 0 0]), 3, 40) := by kernel_rfl
theorem info4 : (Tryd.prog.info? 4).map (fun i => (i.zero, i.size, i.bytes)) = some (some (.bool false), 1, 1) := by kernel_rfl

/-- What the loop of zzCloneU64 holds on to. -/
structure Cloned (w : World) (n : Nat) (ts : List Int) (k : Nat) (wr : World) : Prop where
  bel : Below w.heap.size w wr
  row : wr.rowIs w.heap.size 22 n (fun i => if i < k then .int .u64 (nth ts i) else .int .u64 0)

theorem Cloned.start (w : World) (n : Nat) (ts : List Int) : Cloned w n ts 0 (w.alloc (.cells (madeCells #[.int .u64 0] n) 22)) :=
  ⟨(Below.refl _ _).alloc (Nat.le_refl _) _, (World.rowIs_made w (.int .u64 0) n 22).congr (fun i _ => by simp)⟩

theorem Cloned.step {w : World} {n : Nat} {ts : List Int} {k : Nat} {wr : World} (h : Cloned w n ts k wr) : Cloned w n ts (k + 1) (wr.setCell ⟨w.heap.size, k, none⟩ (.int .u64 (nth ts k))) := by
  refine ⟨h.bel.setCell (Nat.le_refl _) _, (h.row.set k _).congr fun i _ => ?_⟩
  by_cases e : i = k
  · subst e; simp
  · rw [if_neg e]
    by_cases e2 : i < k
    · rw [if_pos e2, if_pos (by omega)]
    · rw [if_neg e2, if_neg (by omega)]

theorem clone_any (a : Option Addr) (n cap : Nat) (ts : List Int) (w : World) (hn : n ≤ 65536) (h : Ints w a n ts) :
    Calls Tryd.prog 7 #[.slice a n cap] w fun e w' => ∃ a', e = .returned (.slice a' n n) ∧ Below w.heap.size w w' ∧ Ints w' a' n ts := by
  have hmk := run_make_row' (P := Tryd.prog) 23 22 (.int .u64 0) 8 Tryd.underlying23 info22 rfl .i64 .i64 n (by omega) (by omega)
  have heq := fun (w : World) (a : Option Addr) (n c : Nat) => Lib.run_eql_slice_nil (P := Tryd.prog) w 23 22 a n c 0 0 Tryd.underlying23
  obtain ⟨hlen, h | ⟨bb, off, rfl, hbb, hc⟩⟩ := h
  · subst h
    replace hmk : ∀ w : World, (Instr.makeSlice 23 (.int .i64 0) (.int .i64 0)).run Tryd.prog w = .ok (.slice (some ⟨w.heap.size, 0, none⟩) 0 0) (w.alloc (.cells (madeCells #[.int .u64 0] 0) 22)) := fun w => by simpa using hmk w
    cases a with
    | none =>
      go_enter Tryd.func7, Tryd.ntmps7
      go_wp2
      go_ret
      exact ⟨_, rfl, Below.refl _ _, hlen, .inl rfl⟩
    | some ad =>
      go_enter Tryd.func7, Tryd.ntmps7
      go_wp2
      refine wp_loop_rounds 1 ?_
      rw [rounds_succ]
      go_wp2
      go_ret
      exact ⟨_, rfl, (Below.refl _ _).alloc (Nat.le_refl _) _, hlen, .inl rfl⟩
  · by_cases hn0 : n = 0
    · subst hn0
      replace hmk : ∀ w : World, (Instr.makeSlice 23 (.int .i64 0) (.int .i64 0)).run Tryd.prog w = .ok (.slice (some ⟨w.heap.size, 0, none⟩) 0 0) (w.alloc (.cells (madeCells #[.int .u64 0] 0) 22)) := fun w => by simpa using hmk w
      go_enter Tryd.func7, Tryd.ntmps7
      go_wp2
      refine wp_loop_rounds 1 ?_
      rw [rounds_succ]
      go_wp2
      go_ret
      exact ⟨_, rfl, (Below.refl _ _).alloc (Nat.le_refl _) _, hlen, .inl rfl⟩
    go_enter Tryd.func7, Tryd.ntmps7
    go_wp2
    go_loopw [4] (fun i wr => ∃ k : Nat, k ≤ n ∧ i = .int .i64 k ∧ Cloned w n ts k wr) (fun i _ => n - (intOf i).toNat)
    case atStart => exact ⟨0, Nat.zero_le _, rfl, Cloned.start w n ts⟩
    case round =>
      obtain ⟨k, hk, rfl, hcl⟩ := hrel
      by_cases hlt : k < n
      · have hck : wr.cell? ⟨bb, off + k, none⟩ = some (.int .u64 (nth ts k)) := (hcl.bel.cell (by exact hbb)).trans (hc k hlt)
        have hdk := hcl.row.cell hlt
        have hfk := hcl.row.frozen k
        have hst := hcl.step
        clear hcl hc
        go_wp2
        go_roundw
        case rel => exact ⟨k + 1, by omega, by go_num, hst⟩
        case measure => simp [intOf]; omega
      · go_wp2
        go_ret
        have e : k = n := by omega
        subst e
        refine ⟨_, rfl, hcl.bel, hlen, .inr ⟨w.heap.size, 0, rfl, hcl.row.lt, fun j hj => ?_⟩⟩
        rw [Nat.zero_add, hcl.row.cell hj, if_pos hj]

theorem new_any (h0 h1 h2 s0 s1 c ct : Int) (sa : Option Addr) (n cap : Nat) (w : World) :
    Calls Tryd.prog 15 #[.agg #[.int .u64 h0, .int .u64 h1, .int .u64 h2], .agg #[.int .u64 s0, .int .u64 s1, .slice none 0 0, .slice none 0 0], .int .u64 c, .int .u64 ct, .slice sa n cap] w fun e w' =>
      e = .returned (.pointer (some ⟨w.heap.size + 2, 0, none⟩)) ∧ w' = ((w.alloc (.cells #[.int .u64 h0, .int .u64 h1, .int .u64 h2] 30)).alloc (.cells #[.int .u64 s0, .int .u64 s1, .slice none 0 0, .slice none 0 0] 46)).alloc
        (.cells #[.int .i32 0, .int .u32 0, .int .u64 h0, .int .u64 h1, .int .u64 h2, .int .u64 s0, .int .u64 s1, .slice none 0 0, .slice none 0 0, .int .u64 c, .int .u64 ct, .slice sa n cap] 56) := by
  go_enter Tryd.func15, Tryd.ntmps15
  go_wp2
  go_ret
  exact ⟨rfl, rfl⟩

/-- The storage's twelve cells. -/
def stCells (h0 h1 h2 c ct : Int) (sl : Value) : Array Value := #[.int .i32 0, .int .u32 0, .int .u64 h0, .int .u64 h1, .int .u64 h2, .int .u64 c, .int .u64 ct, .slice none 0 0, .slice none 0 0, .int .u64 c, .int .u64 ct, sl]

/-- A storage in memory: its own block, and, where there are entries, their block. -/
structure Store (b : Nat) (h0 h1 h2 c ct : Int) (sa : Option Addr) (ts : List Int) (w : World) : Prop where
  two : 2 ≤ b
  row : w.rowIs b 56 12 (fun i => (stCells h0 h1 h2 c ct (.slice sa ts.length ts.length)).getD i .nilIface)
  ent : ts.length = 0 ∨ ∃ eb f, sa = some ⟨eb, 0, none⟩ ∧ eb ≠ b ∧ w.rowIs eb 44 (ts.length * 3) f ∧ ∀ j, j < ts.length → f (j * 3) = .int .u64 (nth ts j) ∧ f (j * 3 + 1) = .int .u64 (c + 1 + j)

theorem row_of (w : World) (c : Array Value) (t : TypeId) (b n : Nat) (hb : w.heap.size = b) (hn : c.size = n) : (w.alloc (.cells c t)).rowIs b t n (fun i => c.getD i .nilIface) := by
  subst hb; subst hn
  exact World.rowIs_alloc w c t _ (fun i hi => by rw [Array.getElem?_eq_getElem hi, Array.getD, dif_pos hi]; rfl)

theorem storage_none (h0 h1 h2 c ct : Int) (a : Option Addr) (cap : Nat) (ts : List Int) (w : World) (hw : 2 ≤ w.heap.size) (hl : ts.length = 0) :
    Calls Tryd.prog 8 #[.agg #[.int .u64 h0, .int .u64 h1, .int .u64 h2], .int .u64 c, .int .u64 ct, .slice a 0 cap] w fun e w' =>
      ∃ b sa, e = .returned (.pointer (some ⟨b, 0, none⟩)) ∧ w.heap.size ≤ b ∧ Below w.heap.size w w' ∧ Store b h0 h1 h2 c ct sa ts w' := by
  have hl' : ts = [] := List.eq_nil_of_length_eq_zero hl
  subst hl'
  clear hl
  go_enter Tryd.func8, Tryd.ntmps8
  go_wp2_with (go_at_call 15; refine (new_any _ _ _ _ _ _ _ _ _ _ _).mono ?_; rintro e w' ⟨rfl, rfl⟩)
  go_ret
  refine ⟨_, none, rfl, by omega, ?_, by omega, ?_, .inl rfl⟩
  · exact (((((Below.refl _ _).alloc (Nat.le_refl _) _).alloc (by simp) _).alloc (by simp; omega) _).alloc (by simp; omega) _).alloc (by simp; omega) _
  · exact row_of _ (stCells h0 h1 h2 c ct (.slice none 0 0)) 56 _ 12 (by simp) rfl

/-- What make lays for n entries. -/
def ents0 (n : Nat) : Array Value := madeCells #[.int .u64 0, .int .u64 0, .slice none 0 0] (n * 3)

theorem run_make_ents (n : Nat) (hn : n ≤ 65536) (w : World) : (Instr.makeSlice 40 (.int .i64 (n : Int)) (.int .i64 (n : Int))).run Tryd.prog w = .ok (.slice (some ⟨w.heap.size, 0, none⟩) n n) (w.alloc (.cells (ents0 n) 44)) := by
  obtain ⟨i, hi, hz⟩ := Option.map_eq_some_iff.1 info44
  simp only [Prod.mk.injEq] at hz
  obtain ⟨hz, hs, hb⟩ := hz
  have hr := run_make (P := Tryd.prog) w 40 44 i _ Tryd.underlying40 hi hz .i64 .i64 n n (by omega) (Int.le_refl _) (by rw [hb]; omega) (by omega)
  simp only [Int.toNat_natCast, hs] at hr
  exact hr

/-- What the loop of zzStorage holds on to. -/
structure Filled (w : World) (h0 h1 h2 c : Int) (n : Nat) (ts : List Int) (k : Nat) (wr : World) : Prop where
  bel : Below w.heap.size w wr
  size : wr.heap.size = w.heap.size + 2
  box : wr.rowIs w.heap.size 30 3 (fun i => (#[.int .u64 h0, .int .u64 h1, .int .u64 h2] : Array Value).getD i .nilIface)
  row : ∃ f, wr.rowIs (w.heap.size + 1) 44 (n * 3) f ∧ ∀ j, j < k → f (j * 3) = .int .u64 (nth ts j) ∧ f (j * 3 + 1) = .int .u64 (c + 1 + j)

theorem Filled.start (w : World) (h0 h1 h2 c : Int) (n : Nat) (ts : List Int) : Filled w h0 h1 h2 c n ts 0 ((w.alloc (.cells #[.int .u64 h0, .int .u64 h1, .int .u64 h2] 30)).alloc (.cells (ents0 n) 44)) := by
  refine ⟨((Below.refl _ _).alloc (Nat.le_refl _) _).alloc (by simp) _, by simp, ?_, fun i => (ents0 n).getD i .nilIface, ?_, fun j hj => absurd hj (by omega)⟩
  · exact (row_of w #[.int .u64 h0, .int .u64 h1, .int .u64 h2] 30 _ 3 rfl rfl).alloc _
  · exact row_of _ (ents0 n) 44 _ _ (by simp) (size_madeCells _ _)

theorem Filled.step {w : World} {h0 h1 h2 c : Int} {n : Nat} {ts : List Int} {k : Nat} {wr : World} (h : Filled w h0 h1 h2 c n ts k wr) :
    Filled w h0 h1 h2 c n ts (k + 1) (((wr.setCell ⟨w.heap.size + 1, k * 3, none⟩ (.int .u64 (nth ts k))).setCell ⟨w.heap.size + 1, k * 3 + 1, none⟩ (.int .u64 (c + 1 + k))).setCell ⟨w.heap.size + 1, k * 3 + 2, none⟩ (.slice none 0 0)) := by
  obtain ⟨f, hf, hj⟩ := h.row
  refine ⟨((h.bel.setCell (by simp) _).setCell (by simp) _).setCell (by simp) _, by simpa using h.size, ((h.box.setOther (by simp) _).setOther (by simp) _).setOther (by simp) _, _, ((hf.set (k * 3) _).set (k * 3 + 1) _).set (k * 3 + 2) _, fun j hjk => ?_⟩
  by_cases e : j = k
  · subst e
    simp
  · have h1 := hj j (by omega)
    simp only [show ¬ j * 3 = k * 3 + 2 by omega, show ¬ j * 3 = k * 3 + 1 by omega, show ¬ j * 3 = k * 3 by omega, show ¬ j * 3 + 1 = k * 3 + 2 by omega, show ¬ j * 3 + 1 = k * 3 + 1 by omega, show ¬ j * 3 + 1 = k * 3 by omega, if_false]
    exact h1

theorem filled_below {w wr : World} (hsz : wr.heap.size = w.heap.size + 2) (hbel : Below w.heap.size w wr) (o1 o2 o3 o4 : Obj) : Below w.heap.size w ((((wr.alloc o1).alloc o2).alloc o3).alloc o4) :=
  (((hbel.alloc (by omega) _).alloc (by simp; omega) _).alloc (by simp; omega) _).alloc (by simp; omega) _

theorem filled_store {w wr : World} {h0 h1 h2 c ct : Int} {k : Nat} {ts : List Int} {f : Nat → Value} (hw : 2 ≤ w.heap.size) (hsz : wr.heap.size = w.heap.size + 2) (hf : wr.rowIs (w.heap.size + 1) 44 (k * 3) f) (hl : ts.length = k)
    (hj : ∀ j, j < k → f (j * 3) = .int .u64 (nth ts j) ∧ f (j * 3 + 1) = .int .u64 (c + 1 + j)) (o1 o2 o3 : Obj) :
    Store (w.heap.size + 2 + 1 + 2) h0 h1 h2 c ct (some ⟨w.heap.size + 1, 0, none⟩) ts ((((wr.alloc o1).alloc o2).alloc o3).alloc
      (.cells #[.int .i32 0, .int .u32 0, .int .u64 h0, .int .u64 h1, .int .u64 h2, .int .u64 c, .int .u64 ct, .slice none 0 0, .slice none 0 0, .int .u64 c, .int .u64 ct, .slice (some ⟨w.heap.size + 1, 0, none⟩) k k] 56)) := by
  subst hl
  refine ⟨by omega, ?_, .inr ⟨w.heap.size + 1, f, rfl, by omega, (((hf.alloc _).alloc _).alloc _).alloc _, hj⟩⟩
  exact row_of _ (stCells h0 h1 h2 c ct (.slice (some ⟨w.heap.size + 1, 0, none⟩) ts.length ts.length)) 56 _ 12 (by simp [hsz]) rfl

set_option maxHeartbeats 400000 in
theorem storage_some (h0 h1 h2 c ct : Int) (bb off n cap : Nat) (ts : List Int) (w : World) (hw : 2 ≤ w.heap.size) (hl : ts.length = n) (hn0 : 0 < n) (hn : n ≤ 65536) (hc0 : 0 ≤ c) (hc1 : c ≤ 18446744073709420543) (hbb : bb < w.heap.size) (hc : ∀ k, k < n → w.cell? ⟨bb, off + k, none⟩ = some (.int .u64 (nth ts k))) :
    Calls Tryd.prog 8 #[.agg #[.int .u64 h0, .int .u64 h1, .int .u64 h2], .int .u64 c, .int .u64 ct, .slice (some ⟨bb, off, none⟩) n cap] w fun e w' =>
      ∃ b sa, e = .returned (.pointer (some ⟨b, 0, none⟩)) ∧ w.heap.size ≤ b ∧ Below w.heap.size w w' ∧ Store b h0 h1 h2 c ct sa ts w' := by
  have hmk := run_make_ents n hn
  go_enter Tryd.func8, Tryd.ntmps8
  go_wp2
  go_loopw [10] (fun i wr => ∃ k : Nat, k ≤ n ∧ i = .int .i64 k ∧ Filled w h0 h1 h2 c n ts k wr) (fun i _ => n - (intOf i).toNat)
  case atStart => exact ⟨0, Nat.zero_le _, rfl, Filled.start w h0 h1 h2 c n ts⟩
  case round =>
    obtain ⟨k, hk, rfl, hfl⟩ := hrel
    by_cases hlt : k < n
    · have hck : wr.cell? ⟨bb, off + k, none⟩ = some (.int .u64 (nth ts k)) := (hfl.bel.cell (by exact hbb)).trans (hc k hlt)
      obtain ⟨f, hf, _⟩ := hfl.row
      have d0 := hf.cell (i := k * 3) (by omega)
      have d1 := hf.cell (i := k * 3 + 1) (by omega)
      have d2 := hf.cell (i := k * 3 + 2) (by omega)
      have f0 := hf.frozen (k * 3)
      have f1 := hf.frozen (k * 3 + 1)
      have f2 := hf.frozen (k * 3 + 2)
      have hst := hfl.step
      clear hfl hc hf hl hmk
      go_wp2
      go_roundw
      case rel => exact ⟨k + 1, by omega, by go_num, hst⟩
      case measure => simp [intOf]; omega
    · have e : k = n := by omega
      subst e
      obtain ⟨f, hf, hj⟩ := hfl.row
      have b0 : wr.cell? ⟨w.heap.size, 0, none⟩ = some (.int .u64 h0) := hfl.box.cell (by omega)
      have b1 : wr.cell? ⟨w.heap.size, 1, none⟩ = some (.int .u64 h1) := hfl.box.cell (by omega)
      have b2 : wr.cell? ⟨w.heap.size, 2, none⟩ = some (.int .u64 h2) := hfl.box.cell (by omega)
      have hsz := hfl.size
      have hbel := hfl.bel
      have HJ : Hid (∀ j, j < k → f (j * 3) = .int .u64 (nth ts j) ∧ f (j * 3 + 1) = .int .u64 (c + 1 + j)) := hj
      have HL : Hid (ts.length = k) := hl
      clear hfl hj hc hmk hl
      go_wp2_with (go_at_call 15; refine (new_any _ _ _ _ _ _ _ _ _ _ _).mono ?_; rintro e w' ⟨rfl, rfl⟩)
      go_ret
      exact ⟨_, _, rfl, by omega, filled_below hsz hbel _ _ _ _, filled_store hw hsz hf HL.out HJ.out _ _ _⟩

theorem storage_any (h0 h1 h2 c ct : Int) (a : Option Addr) (n cap : Nat) (ts : List Int) (w : World) (hw : 2 ≤ w.heap.size) (hn : n ≤ 65536) (hc0 : 0 ≤ c) (hc1 : c ≤ 18446744073709420543) (hi : Ints w a n ts) :
    Calls Tryd.prog 8 #[.agg #[.int .u64 h0, .int .u64 h1, .int .u64 h2], .int .u64 c, .int .u64 ct, .slice a n cap] w fun e w' =>
      ∃ b sa, e = .returned (.pointer (some ⟨b, 0, none⟩)) ∧ w.heap.size ≤ b ∧ Below w.heap.size w w' ∧ Store b h0 h1 h2 c ct sa ts w' := by
  by_cases hn0 : n = 0
  · subst hn0
    exact storage_none h0 h1 h2 c ct a cap ts w hw hi.1
  · obtain ⟨hlen, h | ⟨bb, off, rfl, hbb, hc⟩⟩ := hi
    · exact absurd h hn0
    · exact storage_some h0 h1 h2 c ct bb off n cap ts w hw hlen (by omega) hn hc0 hc1 hbb hc
end Go.Proofs.Qxb6603498aDoor
