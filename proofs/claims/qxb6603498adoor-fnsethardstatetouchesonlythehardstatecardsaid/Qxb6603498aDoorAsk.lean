import Derived.Test.Qxb6603498aDoorStore
namespace Go.Proofs.Qxb6603498aDoor
open Go.RowKit

/-- What a slice of integers that came in gives: its elements. -/
theorem ints_of {w : World} {x : Addr} {len cap : Nat} {zs : List Int} (hl : len ≤ cap) (hz : zs.length = cap) (hc : ∀ i, i < zs.length → w.cell? (x.add i) = some (.int .u64 (zs.getD i 0))) : Ints w (some x) len (zs.take len) := by
  refine ⟨by simp; omega, ?_⟩
  by_cases h0 : len = 0
  · exact .inl h0
  right
  obtain ⟨b, off, spot⟩ := x
  have hspot : spot = none := by simpa [Addr.add] using World.cell?_spot (hc 0 (by omega))
  subst hspot
  have hc' : ∀ i, i < zs.length → w.cell? ⟨b, off + i, none⟩ = some (.int .u64 (zs.getD i 0)) := fun i hi => by rw [← Go.WideShapes.add_plain]; exact hc i hi
  refine ⟨b, off, rfl, World.block_lt_of_cell? _ _ (hc' 0 (by omega)), fun k hk => ?_⟩
  rw [hc' k (by omega)]
  simp [nth, hk]

section
variable {b : Nat} {h0 h1 h2 c ct : Int} {sa : Option Addr} {ts : List Int} {w : World}

theorem Store.c0 (S : Store b h0 h1 h2 c ct sa ts w) : w.cell? ⟨b, 0, none⟩ = some (.int .i32 0) := S.row.cell (i := 0) (by omega)
theorem Store.c9 (S : Store b h0 h1 h2 c ct sa ts w) : w.cell? ⟨b, 9, none⟩ = some (.int .u64 c) := S.row.cell (i := 9) (by omega)
theorem Store.c10 (S : Store b h0 h1 h2 c ct sa ts w) : w.cell? ⟨b, 10, none⟩ = some (.int .u64 ct) := S.row.cell (i := 10) (by omega)
theorem Store.c11 (S : Store b h0 h1 h2 c ct sa ts w) : w.cell? ⟨b, 11, none⟩ = some (.slice sa ts.length ts.length) := S.row.cell (i := 11) (by omega)

/-- The locked world holds what the free one held, but for the lock's own cell. -/
theorem locked (w : World) (b : Nat) (q : Addr) (h : (⟨b, 0, none⟩ : Addr) ≠ q) : (w.setCell ⟨b, 0, none⟩ (.int .i32 1)).cell? q = w.cell? q :=
  World.cell?_setCell_other w ⟨b, 0, none⟩ q _ h

theorem Store.drewN (S : Store b h0 h1 h2 c ct sa ts w) (k : Nat) : Store b h0 h1 h2 c ct sa ts (w.drewN k) := ⟨S.two, S.row, S.ent⟩

/-- 'Term' below the compaction point: the first variable's value. -/
theorem ask_below (S : Store b h0 h1 h2 c ct sa ts w) (i : Int) (e0 : Value) (hg : w.cell? ⟨0, 0, none⟩ = some e0) (hi : i < c) :
    Calls Tryd.prog 9 #[.pointer (some ⟨b, 0, none⟩), .int .u64 i] w fun e w' => e = .returned (.tuple #[.int .u64 0, e0]) ∧ ∃ k, w' = w.drewN k := by
  have hb := S.two
  exact Term_of b i 0 e0 w S.c0 (S.row.frozen 0) (term_below b c i e0 _ ((locked w b _ (by simp)).trans S.c9) ((locked w b _ (by simp)).trans hg) hi)

/-- 'Term' at the compaction point. -/
theorem ask_at (S : Store b h0 h1 h2 c ct sa ts w) :
    Calls Tryd.prog 9 #[.pointer (some ⟨b, 0, none⟩), .int .u64 c] w fun e w' => e = .returned (.tuple #[.int .u64 ct, .nilIface]) ∧ ∃ k, w' = w.drewN k :=
  Term_of b c ct .nilIface w S.c0 (S.row.frozen 0) (term_at b c ct _ ((locked w b _ (by simp)).trans S.c9) ((locked w b _ (by simp)).trans S.c10))

/-- 'Term' past the last entry: the second variable's value. -/
theorem ask_past (S : Store b h0 h1 h2 c ct sa ts w) (i : Int) (e1 : Value) (hg : w.cell? ⟨1, 0, none⟩ = some e1) (hc0 : 0 ≤ c) (hc1 : c ≤ 18446744073709420543) (hn : ts.length ≤ 65536) (hi : c + ts.length < i) :
    Calls Tryd.prog 9 #[.pointer (some ⟨b, 0, none⟩), .int .u64 i] w fun e w' => e = .returned (.tuple #[.int .u64 0, e1]) ∧ ∃ k, w' = w.drewN k := by
  have hb := S.two
  exact Term_of b i 0 e1 w S.c0 (S.row.frozen 0) (term_past b c i sa _ _ e1 _ ((locked w b _ (by simp)).trans S.c9) ((locked w b _ (by simp)).trans S.c11) ((locked w b _ (by simp)).trans hg) hc0 hc1 hn hi)

/-- 'Term' at an entry. -/
theorem ask_in (S : Store b h0 h1 h2 c ct sa ts w) (i : Int) (hc0 : 0 ≤ c) (hc1 : c ≤ 18446744073709420543) (hn : ts.length ≤ 65536) (hi : c < i) (hi2 : i ≤ c + ts.length) :
    Calls Tryd.prog 9 #[.pointer (some ⟨b, 0, none⟩), .int .u64 i] w fun e w' => e = .returned (.tuple #[.int .u64 (nth ts (i - (c + 1)).toNat), .nilIface]) ∧ ∃ k, w' = w.drewN k := by
  rcases S.ent with h | ⟨eb, f, hsa, hne, hf, hj⟩
  · omega
  · have hlt : (i - (c + 1)).toNat < ts.length := by omega
    have he : w.cell? ⟨eb, (i - (c + 1)).toNat * 3, none⟩ = some (.int .u64 (nth ts (i - (c + 1)).toNat)) := by rw [hf.cell (by omega), (hj _ hlt).1]
    refine Term_of b i _ .nilIface w S.c0 (S.row.frozen 0) (term_in b eb c i _ _ _ _ ((locked w b _ (by simp)).trans S.c9) ((locked w b _ (by simp)).trans (by rw [← hsa]; exact S.c11)) hc0 hc1 hn hi hi2 ((locked w b _ ?_).trans he))
    simp
end

/-! ### The whole answer, as plain functions of the index -/

/-- The term that 'Term' answers. -/
def ansT (c ct : Int) (ts : List Int) (i : Int) : Int := if i < c then 0 else if i = c then ct else if c + ts.length < i then 0 else nth ts (i - (c + 1)).toNat
/-- Whether 'Term' refuses. -/
def ansB (c : Int) (n : Nat) (i : Int) : Bool := decide (i < c ∨ c + n < i)

theorem ask_any {b : Nat} {h0 h1 h2 c ct : Int} {sa : Option Addr} {ts : List Int} {w : World} (S : Store b h0 h1 h2 c ct sa ts w) (i : Int) (u0 u1 : TypeId) (x0 x1 : Value) (g0 : w.cell? ⟨0, 0, none⟩ = some (.iface u0 x0)) (g1 : w.cell? ⟨1, 0, none⟩ = some (.iface u1 x1))
    (hc0 : 0 ≤ c) (hc1 : c ≤ 18446744073709420543) (hn : ts.length ≤ 65536) :
    Calls Tryd.prog 9 #[.pointer (some ⟨b, 0, none⟩), .int .u64 i] w fun e w' =>
      ((ansB c ts.length i = false ∧ e = .returned (.tuple #[.int .u64 (ansT c ct ts i), .nilIface])) ∨ ∃ u x, ansB c ts.length i = true ∧ e = .returned (.tuple #[.int .u64 (ansT c ct ts i), .iface u x])) ∧ ∃ k, w' = w.drewN k := by
  by_cases c1 : i < c
  · refine (ask_below S i _ g0 c1).mono fun e w' ⟨he, hw⟩ => ⟨.inr ⟨u0, x0, by simp [ansB, c1], ?_⟩, hw⟩
    rw [he, ansT, if_pos c1]
  by_cases c2 : i = c
  · subst c2
    refine (ask_at S).mono fun e w' ⟨he, hw⟩ => ⟨.inl ⟨by simp [ansB]; omega, ?_⟩, hw⟩
    rw [he, ansT, if_neg c1, if_pos rfl]
  by_cases c3 : c + ts.length < i
  · refine (ask_past S i _ g1 hc0 hc1 hn c3).mono fun e w' ⟨he, hw⟩ => ⟨.inr ⟨u1, x1, by simp [ansB, c3], ?_⟩, hw⟩
    rw [he, ansT, if_neg c1, if_neg c2, if_pos c3]
  · refine (ask_in S i hc0 hc1 hn (by omega) (by omega)).mono fun e w' ⟨he, hw⟩ => ⟨.inl ⟨by simp [ansB]; omega, ?_⟩, hw⟩
    rw [he, ansT, if_neg c1, if_neg c2, if_neg c3]
end Go.Proofs.Qxb6603498aDoor
