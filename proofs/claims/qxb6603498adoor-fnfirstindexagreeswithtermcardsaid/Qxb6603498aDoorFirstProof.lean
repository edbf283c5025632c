/-
  'Rows.FnFirstIndexAgreesWithTermCardSaid': the row out of the walk (Qxb6603498aDoorFirst), and the tied card. The frame after the guide's skeleton and its worked Sent6, Mapy and Toyas texts.
-/
import Derived.Test.Qxb6603498aDoorRows
import Derived.Test.Qxb6603498aDoorTie
import Derived.Test.Qxb6603498aDoorCards
import Derived.Test.Qxb6603498aDoorFirst
import Derived.Test.Qxb6603498aDoorLaid
import Derived.ChangeOld
namespace Go.Proofs.Qxb6603498aDoor.firstIndex
open Go.ChangeShapes Go.WideShapes Go.ChangeAt Go.RowKit

/-- The law's walk, whatever the input. -/
theorem walk (a0 a1 : Int) (a2 : Option Addr) (len2 cap2 : Nat) (ts : List Int) (w : World) (u0 u1 : TypeId) (x0 x1 : Value) (g0 : w.cell? ⟨0, 0, none⟩ = some (.iface u0 x0)) (g1 : w.cell? ⟨1, 0, none⟩ = some (.iface u1 x1))
    (w0 : (Lit.int .u64 a0).wf = true) (hm : len2 ≤ maxLen) (hi : Ints w a2 len2 ts) :
    Calls Tryd.prog 4 #[.int .u64 a0, .int .u64 a1, .slice a2 len2 cap2] w fun e w' => e = .returned (.bool true) ∧ Below w.heap.size w w' := by
  unfold maxLen at hm
  have hb := bounds_u64 w0
  have hw : 2 ≤ w.heap.size := World.block_lt_of_cell? _ _ g1
  by_cases h1 : 65536 < len2
  · refine (first_long a0 a1 a2 len2 cap2 w h1 (by omega)).mono fun e w' ⟨he, hw'⟩ => ⟨he, ?_⟩
    rw [hw']; exact Below.refl _ _
  by_cases h2 : 18446744073709420543 < a0
  · refine (first_high a0 a1 a2 len2 cap2 w (by omega) h2).mono fun e w' ⟨he, hw'⟩ => ⟨he, ?_⟩
    rw [hw']; exact Below.refl _ _
  exact first_main a0 a1 a2 len2 cap2 ts w u0 u1 x0 x1 g0 g1 hw (by omega) (by omega) (by omega) hi

set_option maxRecDepth 100000 in
theorem lifted (os : Os) (started : os.Started) (H : Type) (enc : TypeId × Value → H) :
    ReturnsInHanded {} Tryd.checked os 4 .any (fun w args => (Rows.fnFirstIndexAgreesWithTermSpec.pre enc Tryd.prog Tryd.f4 [] false w args ∧ laidMetH Tryd.prog laidList w) ∧ sizedMet enc Tryd.prog Tryd.f4 (OpenSpec.ofChange Rows.fnFirstIndexAgreesWithTermSpec) false w args)
      (Rows.fnFirstIndexAgreesWithTermSpec.post enc Tryd.prog Tryd.f4 false true false false) := by
  refine returnsInHanded_of_change_and (C := Tryd.checked) (X := fun w _ => laidMetH Tryd.prog laidList w) (fun _ _ _ hh h => h.of_heap hh) own started (by kernel_rfl) Tryd.func4
    (ChangeSpec.witness_shaped (enc := enc) (C := Tryd.checked) (os := os) (X := fun w _ => laidMetH Tryd.prog laidList w) false (World.doorLaid Tryd.prog 47 os) #[.int .u64 0, .int .u64 0, .slice none 0 0] 8 rfl (World.shaped_of_RefB (by kernel_rfl) (by kernel_rfl)) (by kernel_rfl) (by kernel_rfl) (by kernel_rfl) (door_met os _)) ?_
  intro W base args ds gs before hval0 hW _ _ hL _
  have hval : ∀ (j : Nat) t v, Tryd.f4.params[j]? = some t → args[j]? = some v → Value.okWide Tryd.prog W .any base t v := hval0
  have hW' := hW
  obtain ⟨p, q, hA0, hV0, rfl, hfz, hnd⟩ := hW
  have hA : DataW.TrodAll enc Tryd.prog W 0 (fun _ => true) true Tryd.f4.params.toList args.toList ds p := hA0
  have hV : DataW.TrodVars enc Tryd.prog W (fun _ => true) [nmC, nmU] gs q := hV0
  rw [Tryd.params4] at hA hval
  obtain ⟨v0, vs0, d0, ds0, p0, q0, hargs, rfl, rfl, h0, r0⟩ := trodAll_cons hA
  obtain ⟨v1, vs1, d1, ds1, p1, q1, rfl, rfl, rfl, h1, r1⟩ := trodAll_cons r0
  obtain ⟨v2, vs2, d2, ds2, p2, q2, rfl, rfl, rfl, h2, r2⟩ := trodAll_cons r1
  obtain ⟨rfl, rfl, rfl⟩ := trodAll_nil r2
  obtain rfl : args = #[v0, v1, v2] := by cases args; simp_all
  obtain ⟨b0, b1, hv0, hv1⟩ := of_laid hL
  have vread : ∀ {W' : World} (sp : Nat → Bool), W'.var? Tryd.prog nmC = some #[.iface 72 (.pointer (some b0))] → W'.var? Tryd.prog nmU = some #[.iface 72 (.pointer (some b1))] →
      DataW.TrodVars enc Tryd.prog W' sp [nmC, nmU] [tok enc (.iface 72 (.pointer (some b0))), tok enc (.iface 72 (.pointer (some b1)))] [.cell 0 0, .cell 1 0] := fun sp e0 e1 =>
    vars_read2 enc gC tC Tryd.underlying33 e0 trivial gU tU Tryd.underlying33 e1 trivial sp
  obtain ⟨rfl, rfl⟩ := hV.unique (vread _ hv0 hv1)
  have g0 : W.cell? ⟨0, 0, none⟩ = some (.iface 72 (.pointer (some b0))) := by simpa using World.var?_cell gC hv0 0
  have g1 : W.cell? ⟨1, 0, none⟩ = some (.iface 72 (.pointer (some b1))) := by simpa using World.var?_cell gU hv1 0
  have hw2 : 2 ≤ W.heap.size := World.block_lt_of_cell? _ _ g1
  obtain ⟨a0, rfl, rfl, rfl, w0⟩ := open_int Tryd.underlying22 (hval 0 22 v0 rfl rfl) h0
  obtain ⟨a1, rfl, rfl, rfl, w1⟩ := open_int Tryd.underlying22 (hval 1 22 v1 rfl rfl) h1
  obtain ⟨a2, len2, cap2, rfl⟩ := okWide_slice Tryd.underlying23 (hval 2 23 v2 rfl rfl)
  have k2 := h2
  have lt2 : ∀ x ∈ p2, x.block < W.heap.size := by obtain ⟨m, hm⟩ := k2; exact DataW.trod_lt m _ _ _ hm
  obtain ⟨ts, hm, hi⟩ : ∃ ts, len2 ≤ maxLen ∧ Ints W a2 len2 ts := by
    obtain ⟨fuel, hf⟩ := h2
    rcases open_ints Tryd.underlying23 Tryd.underlying22 (by kernel_rfl) hf with ⟨hcs, _⟩ | ⟨x, l, c, zs, hcs, _, hl, hm, hz, _, hcell, hwz⟩
    · simp [Value.cells] at hcs
      obtain ⟨rfl, rfl, rfl⟩ := hcs
      exact ⟨[], Nat.zero_le _, rfl, .inl rfl⟩
    · simp [Value.cells] at hcs
      obtain ⟨rfl, rfl, rfl⟩ := hcs
      simp only [if_true] at hz
      exact ⟨zs.take len2, Nat.le_trans hl hm, ints_of hl hz hcell⟩
  clear hA0 hval0 hV0 hV
  refine (walk a0 a1 a2 len2 cap2 ts W _ _ _ _ g0 g1 w0 hm hi).mono fun e W' ⟨he, bel⟩ => ?_
  subst he
  exact ⟨_, rfl, _, _, _, [], _, [.cell 0 0, .cell 1 0], hW', trodAll_mk1 (shut_bool Tryd.underlying4 _), (trodAll_cons_mk (shut_int Tryd.underlying22 w0) (trodAll_cons_mk (shut_int Tryd.underlying22 w1) (trodAll_cons_mk (Below.trod laidOut (by kernel_rfl) (of_decide_eq_true (by kernel_rfl)) k2 bel lt2) trodAll_mk0))),
    vread _ (var?_below bel gC (by omega) hv0) (var?_below bel gU (by omega) hv1), bel.frame _, fun h => by cases h⟩

theorem over : Rows.FnFirstIndexAgreesWithTermSaid :=
  OpenClaim.holds_of_wide 4 Tryd.f4 rfl rfl rfl rfl rfl rfl rfl ⟨rfl, rfl, rfl, rfl, rfl⟩ rfl rfl rfl rfl rfl (by kernel_rfl) Tryd.func4 (by kernel_rfl)
    (of_decide_eq_true (by kernel_rfl)) (by unfold Func.isWrapper; first | (rw [if_pos (by decide +kernel)]; kernel_rfl) | (rw [if_neg (by decide +kernel)]; exact ⟨rfl, rfl⟩))
    (fun os started H enc _ => lifted os started H enc)

/-- THE STATEMENT: the tied card. -/
theorem proved : Rows.FnFirstIndexAgreesWithTermCardSaid :=
  Claim7.holds_tied_plain_at .later [] [.sentinel, .sentinel] true Rows.fnFirstIndexAgreesWithTermCard.stood.harness false
    over (fun _ h => by cases h) (by kernel_rfl) (fun _ h => by cases h) fnFirstIndexAgreesWithTerm_row_tie rfl ⟨rfl, rfl⟩ (by kernel_rfl) rfl
    (fun f fn hf hfn => by
      obtain rfl : f = 4 := Option.some.inj ((show Tryd.prog.funcNamed Rows.fnFirstIndexAgreesWithTermRow.func = some 4 by kernel_rfl).symm.trans hf) |>.symm
      obtain rfl : fn = Tryd.f4 := (Option.some.inj (Tryd.func4.symm.trans hfn)).symm
      exact ⟨by kernel_rfl, fun j t ht => by
        rw [Tryd.params4] at ht
        have hm : t ∈ [22, 22, 23] := by simpa using Array.mem_of_getElem? ht
        have hall : ([22, 22, 23].all fun u => !Tryd.prog.wantsStandIn u) = true := by kernel_rfl
        exact (show Tryd.prog.wantsStandIn t = false by simpa using List.all_eq_true.1 hall t hm)⟩)
    (by kernel_rfl)
#print axioms proved
end Go.Proofs.Qxb6603498aDoor.firstIndex
