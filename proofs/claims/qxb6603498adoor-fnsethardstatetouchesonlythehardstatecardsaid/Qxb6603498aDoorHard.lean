import Derived.Test.Qxb6603498aDoorFirst
import Derived.Stop.LaidErr
import Derived.Laws.StructEq
namespace Go.Proofs.Qxb6603498aDoor
open Go.RowKit
open Go.MuLone

/-- Blocks other than b are as they were. -/
structure Aside1 (b : Nat) (w w' : World) : Prop where
  bel : Below b w w'
  oth : ∀ k, k < w.heap.size → k ≠ b → w'.heap[k]? = w.heap[k]?

theorem Aside1.alloc {b : Nat} {w w' : World} (h : Aside1 b w w') (hb : b ≤ w'.heap.size) (o : Obj) : Aside1 b w (w'.alloc o) :=
  ⟨h.bel.alloc hb o, fun k hk hne => by rw [Below.heap_alloc _ _ _ (Nat.lt_of_lt_of_le hk h.bel.size)]; exact h.oth k hk hne⟩
theorem Aside1.set {b : Nat} {w w' : World} (h : Aside1 b w w') (o : Nat) (v : Value) : Aside1 b w (w'.setCell ⟨b, o, none⟩ v) :=
  ⟨h.bel.setCell (Nat.le_refl _) v, fun k hk hne => by rw [Below.heap_setCell _ _ _ _ hne]; exact h.oth k hk hne⟩
theorem Aside1.refl (b : Nat) (w : World) : Aside1 b w w := ⟨Below.refl _ _, fun _ _ _ => rfl⟩

theorem set_any {b : Nat} {h0 h1 h2 c ct : Int} {sa : Option Addr} {ts : List Int} {w : World} (S : Store b h0 h1 h2 c ct sa ts w) (t v m : Int) :
    Calls Tryd.prog 10 #[.pointer (some ⟨b, 0, none⟩), .agg #[.int .u64 t, .int .u64 v, .int .u64 m]] w fun e w' => e = .returned (.tuple #[]) ∧ Store b t v m c ct sa ts w' ∧ Aside1 b w w' := by
  have hb := S.row.lt
  have c0 := S.c0
  have c2 : w.cell? ⟨b, 2, none⟩ = some (.int .u64 h0) := S.row.cell (i := 2) (by omega)
  have c3 : w.cell? ⟨b, 3, none⟩ = some (.int .u64 h1) := S.row.cell (i := 3) (by omega)
  have c4 : w.cell? ⟨b, 4, none⟩ = some (.int .u64 h2) := S.row.cell (i := 4) (by omega)
  have f0 := S.row.frozen 0
  have f2 := S.row.frozen 2
  have f3 := S.row.frozen 3
  have f4 := S.row.frozen 4
  have a0 : (w.alloc (.cells #[.int .u64 t, .int .u64 v, .int .u64 m] 30)).cell? ⟨b, 0, none⟩ = some (.int .i32 0) := (World.cell?_alloc_lt _ _ _ hb).trans c0
  have z0 : (w.alloc (.cells #[.int .u64 t, .int .u64 v, .int .u64 m] 30)).frozen? ⟨b, 0, none⟩ = false := (World.frozen?_alloc_old _ _ _ (by simp; omega)).trans f0
  have HS : Hid (Store b h0 h1 h2 c ct sa ts w) := S
  clear S
  go_enter_defers Tryd.func10, Tryd.ntmps10
  go_wp2_with (go_at_call 16; refine (lock_free Tryd.muLib ⟨b, 0, none⟩ _ a0 z0).mono ?_; rintro e w' ⟨rfl, rfl⟩)
  have S := HS.out
  refine leaves_cons (f := 17) (args := #[.pointer (some ⟨b, 0, none⟩)]) (by simp) (by simp [go_sem]) ?_
  have R := ((((S.row.set 0 (.int .i32 1)).set 2 (.int .u64 t)).set 3 (.int .u64 v)).set 4 (.int .u64 m)).alloc (.cells #[.int .u64 t, .int .u64 v, .int .u64 m] 30)
  refine (unlock_deferred Tryd.muLib ⟨b, 0, none⟩ .returning _ ?_ ?_).mono ?_
  · exact R.cell (i := 0) (by omega)
  · exact R.frozen 0
  rintro e u' w'' ⟨rfl, rfl, rfl⟩
  refine ⟨_, results_none rfl _ _ _, rfl, ⟨S.two, (R.set 0 (.int .i32 0)).congr fun i hi => ?_, ?_⟩, ?_⟩
  · have : i = 0 ∨ i = 1 ∨ i = 2 ∨ i = 3 ∨ i = 4 ∨ i = 5 ∨ i = 6 ∨ i = 7 ∨ i = 8 ∨ i = 9 ∨ i = 10 ∨ i = 11 := by omega
    rcases this with rfl | rfl | rfl | rfl | rfl | rfl | rfl | rfl | rfl | rfl | rfl | rfl <;> rfl
  · rcases S.ent with h | ⟨eb, f, hsa, hne, hf, hj⟩
    · exact .inl h
    · exact .inr ⟨eb, f, hsa, hne, (((((hf.setOther hne _).setOther hne _).setOther hne _).setOther hne _).alloc _).setOther hne _, hj⟩
  · exact ((((((Aside1.refl b w).set 0 _).set 2 _).set 3 _).set 4 _).alloc (by simp; omega) _).set 0 _

theorem zzhard_any (b : Nat) (h0 h1 h2 : Int) (w : World) (c2 : w.cell? ⟨b, 2, none⟩ = some (.int .u64 h0)) (c3 : w.cell? ⟨b, 3, none⟩ = some (.int .u64 h1)) (c4 : w.cell? ⟨b, 4, none⟩ = some (.int .u64 h2)) (hb : b < w.heap.size) :
    Calls Tryd.prog 11 #[.pointer (some ⟨b, 0, none⟩)] w fun e w' => e = .returned (.agg #[.int .u64 h0, .int .u64 h1, .int .u64 h2]) ∧ w' = w.alloc (.cells #[.int .u64 h0, .int .u64 h1, .int .u64 h2] 30) := by
  go_enter Tryd.func11, Tryd.ntmps11
  go_wp2
  exact bodyPost_ret (v := .agg #[.int .u64 h0, .int .u64 h1, .int .u64 h2]) (by simp [results, Tryd.results11, go_sem]) rfl ⟨rfl, rfl⟩

theorem bytes3_any (p0 p1 p2 t v m c ct : Int) (a : Option Addr) (n cap : Nat) (w : World) (hn : n ≤ 65536) :
    Calls Tryd.prog 5 #[.int .u64 p0, .int .u64 p1, .int .u64 p2, .int .u64 t, .int .u64 v, .int .u64 m, .int .u64 c, .int .u64 ct, .slice a n cap] w fun e w' => e = .returned (.bool true) ∧ w' = w := by
  go_enter Tryd.func5, Tryd.ntmps5
  go_wp2
  go_ret
  exact ⟨rfl, rfl⟩

theorem hard_long (p0 p1 p2 t v m c ct : Int) (a : Option Addr) (n cap : Nat) (w : World) (hn : 65536 < n) (hm : n ≤ 9223372036854775807) :
    Calls Tryd.prog 3 #[.int .u64 p0, .int .u64 p1, .int .u64 p2, .int .u64 t, .int .u64 v, .int .u64 m, .int .u64 c, .int .u64 ct, .slice a n cap] w fun e w' => e = .returned (.bool true) ∧ w' = w := by
  by_cases h : 1048576 < n
  · go_enter Tryd.func3, Tryd.ntmps3
    go_wp2
    go_ret
    exact ⟨rfl, rfl⟩
  · go_enter Tryd.func3, Tryd.ntmps3
    go_wp2
    go_ret
    exact ⟨rfl, rfl⟩

theorem hard_high (p0 p1 p2 t v m c ct : Int) (a : Option Addr) (n cap : Nat) (w : World) (hn : n ≤ 65536) (hc : 18446744073709420543 < c) :
    Calls Tryd.prog 3 #[.int .u64 p0, .int .u64 p1, .int .u64 p2, .int .u64 t, .int .u64 v, .int .u64 m, .int .u64 c, .int .u64 ct, .slice a n cap] w fun e w' => e = .returned (.bool true) ∧ w' = w := by
  go_enter Tryd.func3, Tryd.ntmps3
  go_wp2
  go_ret
  exact ⟨rfl, rfl⟩

theorem rows_apart {w : World} {b b' : Nat} {t t' : TypeId} {n n' : Nat} {f f' : Nat → Value} (h : w.rowIs b t n f) (h' : w.rowIs b' t' n' f') (ht : t ≠ t') : b ≠ b' := by
  rintro rfl
  obtain ⟨c, hb, _⟩ := h
  obtain ⟨c', hb', _⟩ := h'
  rw [hb] at hb'
  simp only [Option.some.injEq, Obj.cells.injEq] at hb'
  exact ht hb'.2.1

theorem Store.setOther {b : Nat} {h0 h1 h2 c ct : Int} {sa : Option Addr} {ts : List Int} {w : World} (S : Store b h0 h1 h2 c ct sa ts w) {k : Nat} {t : TypeId} {n : Nat} {f : Nat → Value} (h : w.rowIs k t n f) (h44 : t ≠ 44) (h56 : t ≠ 56) (o : Nat) (v : Value) :
    Store b h0 h1 h2 c ct sa ts (w.setCell ⟨k, o, none⟩ v) := by
  refine ⟨S.two, S.row.setOther (rows_apart S.row h (Ne.symm h56)) v, ?_⟩
  rcases S.ent with e | ⟨eb, g, hsa, hne, hf, hj⟩
  · exact .inl e
  · exact .inr ⟨eb, g, hsa, hne, hf.setOther (rows_apart hf h (Ne.symm h44)) v, hj⟩

theorem Store.alloc {b : Nat} {h0 h1 h2 c ct : Int} {sa : Option Addr} {ts : List Int} {w : World} (S : Store b h0 h1 h2 c ct sa ts w) (o : Obj) : Store b h0 h1 h2 c ct sa ts (w.alloc o) := by
  refine ⟨S.two, S.row.alloc o, ?_⟩
  rcases S.ent with e | ⟨eb, g, hsa, hne, hf, hj⟩
  · exact .inl e
  · exact .inr ⟨eb, g, hsa, hne, hf.alloc o, hj⟩

/-- What both loops of the law hold on to: the storage; the two rows of answers, filled up to k; the two variables; nothing old has turned. -/
structure Kept (W : World) (b B1 : Nat) (h0 h1 h2 c ct lo : Int) (sa : Option Addr) (ts : List Int) (cnt : Nat) (u0 u1 : TypeId) (x0 x1 : Value) (k : Nat) (wr : World) : Prop where
  bel : Below W.heap.size W wr
  st : Store b h0 h1 h2 c ct sa ts wr
  hW : W.heap.size ≤ b
  hB : b < B1
  rT : wr.rowIs B1 22 cnt (fun i => if i < k then .int .u64 (ansT c ct ts (lo + i)) else .int .u64 0)
  rE : wr.rowIs (B1 + 1) 4 cnt (fun i => if i < k then .bool (ansB c ts.length (lo + i)) else .bool false)
  g0 : wr.cell? ⟨0, 0, none⟩ = some (.iface u0 x0)
  g1 : wr.cell? ⟨1, 0, none⟩ = some (.iface u1 x1)

section
variable {W : World} {b B1 : Nat} {h0 h1 h2 c ct lo : Int} {sa : Option Addr} {ts : List Int} {cnt : Nat} {u0 u1 : TypeId} {x0 x1 : Value} {k : Nat} {wr : World}

theorem Kept.start {w2 : World} (hbel : Below W.heap.size W w2) (S : Store b h0 h1 h2 c ct sa ts w2) (hW : W.heap.size ≤ b) (g0 : w2.cell? ⟨0, 0, none⟩ = some (.iface u0 x0)) (g1 : w2.cell? ⟨1, 0, none⟩ = some (.iface u1 x1)) :
    Kept W b w2.heap.size h0 h1 h2 c ct lo sa ts cnt u0 u1 x0 x1 0 ((w2.alloc (.cells (madeCells #[.int .u64 0] cnt) 22)).alloc (.cells (madeCells #[.bool false] cnt) 4)) := by
  have hb := S.row.lt
  refine ⟨(hbel.alloc (by omega) _).alloc (by simp; omega) _, (S.alloc _).alloc _, hW, hb, ((World.rowIs_made w2 (.int .u64 0) cnt 22).alloc _).congr (fun i _ => by simp), ?_, ?_, ?_⟩
  · have := World.rowIs_made (w2.alloc (.cells (madeCells #[.int .u64 0] cnt) 22)) (.bool false) cnt 4
    rw [World.size_alloc] at this
    exact this.congr (fun i _ => by simp)
  · exact cell?_alloc_old _ (cell?_alloc_old _ g0)
  · exact cell?_alloc_old _ (cell?_alloc_old _ g1)

theorem Kept.drewN (h : Kept W b B1 h0 h1 h2 c ct lo sa ts cnt u0 u1 x0 x1 k wr) (q : Nat) : Kept W b B1 h0 h1 h2 c ct lo sa ts cnt u0 u1 x0 x1 k (wr.drewN q) :=
  ⟨Below.of_drewN h.bel q, h.st.drewN q, h.hW, h.hB, h.rT, h.rE, h.g0, h.g1⟩

theorem Kept.step (h : Kept W b B1 h0 h1 h2 c ct lo sa ts cnt u0 u1 x0 x1 k wr) (r : Bool) (hr : ansB c ts.length (lo + k) = r) :
    Kept W b B1 h0 h1 h2 c ct lo sa ts cnt u0 u1 x0 x1 (k + 1) ((wr.setCell ⟨B1, k, none⟩ (.int .u64 (ansT c ct ts (lo + k)))).setCell ⟨B1 + 1, k, none⟩ (.bool r)) := by
  have hb2 := h.st.two
  have hW := h.hW
  have hB := h.hB
  have e := (h.rE.setOther (a := ⟨B1, k, none⟩) (by simp) (.int .u64 (ansT c ct ts (lo + k))))
  have s1 := h.st.setOther h.rT (by decide) (by decide) k (.int .u64 (ansT c ct ts (lo + k)))
  refine ⟨(h.bel.setCell (by simp; omega) _).setCell (by simp; omega) _, s1.setOther e (by decide) (by decide) k _, hW, hB, ((h.rT.set k _).setOther (by simp) _).congr fun i _ => ?_, (e.set k _).congr fun i _ => ?_, ?_, ?_⟩
  · by_cases e1 : i = k
    · subst e1; simp
    · rw [if_neg e1]
      by_cases e2 : i < k
      · rw [if_pos e2, if_pos (by omega)]
      · rw [if_neg e2, if_neg (by omega)]
  · by_cases e1 : i = k
    · subst e1; simp [hr]
    · rw [if_neg e1]
      by_cases e2 : i < k
      · rw [if_pos e2, if_pos (by omega)]
      · rw [if_neg e2, if_neg (by omega)]
  · rw [World.cell?_setCell_other _ ⟨B1 + 1, k, none⟩ ⟨0, 0, none⟩ _ (by simp), World.cell?_setCell_other _ ⟨B1, k, none⟩ ⟨0, 0, none⟩ _ (by simp)]
    exact h.g0
  · rw [World.cell?_setCell_other _ ⟨B1 + 1, k, none⟩ ⟨1, 0, none⟩ _ (by simp), World.cell?_setCell_other _ ⟨B1, k, none⟩ ⟨1, 0, none⟩ _ (by simp)]
    exact h.g1

/-- Behind SetHardState: the same, with the new hard state. -/
theorem Kept.turned (h : Kept W b B1 h0 h1 h2 c ct lo sa ts cnt u0 u1 x0 x1 k wr) {t v m : Int} {w' : World} (S : Store b t v m c ct sa ts w') (A : Aside1 b wr w') : Kept W b B1 t v m c ct lo sa ts cnt u0 u1 x0 x1 k w' := by
  have hb2 := h.st.two
  have hW := h.hW
  have hB := h.hB
  refine ⟨h.bel.trans (A.bel.mono hW), S, hW, hB, h.rT.of_block (A.oth B1 h.rT.lt (by omega)), h.rE.of_block (A.oth (B1 + 1) h.rE.lt (by omega)), ?_, ?_⟩
  · exact (A.bel.cell (p := ⟨0, 0, none⟩) (by simp; omega)).trans h.g0
  · exact (A.bel.cell (p := ⟨1, 0, none⟩) (by simp; omega)).trans h.g1

theorem Kept.alloc (h : Kept W b B1 h0 h1 h2 c ct lo sa ts cnt u0 u1 x0 x1 k wr) (o : Obj) : Kept W b B1 h0 h1 h2 c ct lo sa ts cnt u0 u1 x0 x1 k (wr.alloc o) := by
  have hW := h.hW
  have hlt := h.st.row.lt
  exact ⟨h.bel.alloc (by omega) o, h.st.alloc o, hW, h.hB, h.rT.alloc o, h.rE.alloc o, cell?_alloc_old _ h.g0, cell?_alloc_old _ h.g1⟩
end

theorem make_u64 (L : Int) (n : Nat) (h : L = (n : Int)) (hn : n ≤ 65539) (w : World) : (Instr.makeSlice 23 (.int .i64 L) (.int .i64 L)).run Tryd.prog w = .ok (.slice (some ⟨w.heap.size, 0, none⟩) n n) (w.alloc (.cells (madeCells #[.int .u64 0] n) 22)) := by
  subst h
  exact run_make_row' (P := Tryd.prog) 23 22 (.int .u64 0) 8 Tryd.underlying23 info22 rfl .i64 .i64 n (by omega) (by omega) w
theorem make_bool (L : Int) (n : Nat) (h : L = (n : Int)) (hn : n ≤ 65539) (w : World) : (Instr.makeSlice 31 (.int .i64 L) (.int .i64 L)).run Tryd.prog w = .ok (.slice (some ⟨w.heap.size, 0, none⟩) n n) (w.alloc (.cells (madeCells #[.bool false] n) 4)) := by
  subst h
  exact run_make_row' (P := Tryd.prog) 31 4 (.bool false) 1 Tryd.underlying31 info4 rfl .i64 .i64 n (by omega) (by omega) w

theorem fields30 : (Tryd.prog.fieldsOf 30).toList = [{ name := "Term", type := 22, offset := 0, embedded := false, tag := "", pkgPath := "", byteOffset := 0 }, { name := "Vote", type := 22, offset := 1, embedded := false, tag := "", pkgPath := "", byteOffset := 8 }, { name := "Commit", type := 22, offset := 2, embedded := false, tag := "", pkgPath := "", byteOffset := 16 }] := by kernel_rfl
/-- '!=' of a hard state with itself. -/
theorem neq30 (t v m : Int) (w : World) : (binOp .neq 30 (.agg #[.int .u64 t, .int .u64 v, .int .u64 m]) (.agg #[.int .u64 t, .int .u64 v, .int .u64 m])).run Tryd.prog w = .ok (.bool false) w := by
  rw [run_neq_struct, run_equalIn_struct w 9999 30 _ _ (by kernel_rfl) (by kernel_rfl), fields30]
  simp [Op.eqFields, go_sem]
end Go.Proofs.Qxb6603498aDoor
