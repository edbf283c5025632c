/-
  'Rows.FnSetHardStateTouchesOnlyTheHardStateCardSaid': the row out of the walk (Qxb6603498aDoorHardWalk), and the tied card. The frame after the guide's skeleton and its worked Sent6, Mapy and Toyas texts.
-/
import Derived.Test.Qxb6603498aDoorRows
import Derived.Test.Qxb6603498aDoorTie
import Derived.Test.Qxb6603498aDoorCards
import Derived.Test.Qxb6603498aDoorHardWalk
import Derived.Test.Qxb6603498aDoorLaid
import Derived.ChangeOld
namespace Go.Proofs.Qxb6603498aDoor.hardState
open Go.ChangeShapes Go.WideShapes Go.ChangeAt Go.RowKit

/-- The law's walk, whatever the input. -/
theorem walk (a0 a1 a2 a3 a4 a5 a6 a7 : Int) (a8 : Option Addr) (len8 cap8 : Nat) (ts : List Int) (w : World) (u0 u1 : TypeId) (x0 x1 : Value) (g0 : w.cell? ⟨0, 0, none⟩ = some (.iface u0 x0)) (g1 : w.cell? ⟨1, 0, none⟩ = some (.iface u1 x1))
    (w6 : (Lit.int .u64 a6).wf = true) (hm : len8 ≤ maxLen) (hi : Ints w a8 len8 ts) :
    Calls Tryd.prog 3 #[.int .u64 a0, .int .u64 a1, .int .u64 a2, .int .u64 a3, .int .u64 a4, .int .u64 a5, .int .u64 a6, .int .u64 a7, .slice a8 len8 cap8] w fun e w' => e = .returned (.bool true) ∧ Below w.heap.size w w' := by
  unfold maxLen at hm
  have hb := bounds_u64 w6
  have hw : 2 ≤ w.heap.size := World.block_lt_of_cell? _ _ g1
  by_cases h1 : 65536 < len8
  · refine (hard_long a0 a1 a2 a3 a4 a5 a6 a7 a8 len8 cap8 w h1 (by omega)).mono fun e w' ⟨he, hw'⟩ => ⟨he, ?_⟩
    rw [hw']; exact Below.refl _ _
  by_cases h2 : 18446744073709420543 < a6
  · refine (hard_high a0 a1 a2 a3 a4 a5 a6 a7 a8 len8 cap8 w (by omega) h2).mono fun e w' ⟨he, hw'⟩ => ⟨he, ?_⟩
    rw [hw']; exact Below.refl _ _
  by_cases h3 : 0 < a6
  · exact hard_pos a0 a1 a2 a3 a4 a5 a6 a7 a8 len8 cap8 ts w u0 u1 x0 x1 g0 g1 hw h3 (by omega) (by omega) hi
  · exact hard_zero a0 a1 a2 a3 a4 a5 a6 a7 a8 len8 cap8 ts w u0 u1 x0 x1 g0 g1 hw (by omega) h3 (by omega) (by omega) hi

set_option maxRecDepth 100000 in
theorem lifted (os : Os) (started : os.Started) (H : Type) (enc : TypeId × Value → H) :
    ReturnsInHanded {} Tryd.checked os 3 .any (fun w args => (Rows.fnSetHardStateTouchesOnlyTheHardStateSpec.pre enc Tryd.prog Tryd.f3 [] false w args ∧ laidMetH Tryd.prog laidList w) ∧ sizedMet enc Tryd.prog Tryd.f3 (OpenSpec.ofChange Rows.fnSetHardStateTouchesOnlyTheHardStateSpec) false w args)
      (Rows.fnSetHardStateTouchesOnlyTheHardStateSpec.post enc Tryd.prog Tryd.f3 false true false false) := by
  refine returnsInHanded_of_change_and (C := Tryd.checked) (X := fun w _ => laidMetH Tryd.prog laidList w) (fun _ _ _ hh h => h.of_heap hh) own started (by kernel_rfl) Tryd.func3
    (ChangeSpec.witness_shaped (enc := enc) (C := Tryd.checked) (os := os) (X := fun w _ => laidMetH Tryd.prog laidList w) false (World.doorLaid Tryd.prog 47 os) #[.int .u64 0, .int .u64 0, .int .u64 0, .int .u64 0, .int .u64 0, .int .u64 0, .int .u64 0, .int .u64 0, .slice none 0 0] 8 rfl (World.shaped_of_RefB (by kernel_rfl) (by kernel_rfl)) (by kernel_rfl) (by kernel_rfl) (by kernel_rfl) (door_met os _)) ?_
  intro W base args ds gs before hval0 hW _ _ hL _
  have hval : ∀ (j : Nat) t v, Tryd.f3.params[j]? = some t → args[j]? = some v → Value.okWide Tryd.prog W .any base t v := hval0
  have hW' := hW
  obtain ⟨p, q, hA0, hV0, rfl, hfz, hnd⟩ := hW
  have hA : DataW.TrodAll enc Tryd.prog W 0 (fun _ => true) true Tryd.f3.params.toList args.toList ds p := hA0
  have hV : DataW.TrodVars enc Tryd.prog W (fun _ => true) [nmC, nmU] gs q := hV0
  rw [Tryd.params3] at hA hval
  obtain ⟨v0, vs0, d0, ds0, p0, q0, hargs, rfl, rfl, h0, r0⟩ := trodAll_cons hA
  obtain ⟨v1, vs1, d1, ds1, p1, q1, rfl, rfl, rfl, h1, r1⟩ := trodAll_cons r0
  obtain ⟨v2, vs2, d2, ds2, p2, q2, rfl, rfl, rfl, h2, r2⟩ := trodAll_cons r1
  obtain ⟨v3, vs3, d3, ds3, p3, q3, rfl, rfl, rfl, h3, r3⟩ := trodAll_cons r2
  obtain ⟨v4, vs4, d4, ds4, p4, q4, rfl, rfl, rfl, h4, r4⟩ := trodAll_cons r3
  obtain ⟨v5, vs5, d5, ds5, p5, q5, rfl, rfl, rfl, h5, r5⟩ := trodAll_cons r4
  obtain ⟨v6, vs6, d6, ds6, p6, q6, rfl, rfl, rfl, h6, r6⟩ := trodAll_cons r5
  obtain ⟨v7, vs7, d7, ds7, p7, q7, rfl, rfl, rfl, h7, r7⟩ := trodAll_cons r6
  obtain ⟨v8, vs8, d8, ds8, p8, q8, rfl, rfl, rfl, h8, r8⟩ := trodAll_cons r7
  obtain ⟨rfl, rfl, rfl⟩ := trodAll_nil r8
  obtain rfl : args = #[v0, v1, v2, v3, v4, v5, v6, v7, v8] := by cases args; simp_all
  obtain ⟨b0, b1, hv0, hv1⟩ := of_laid hL
  have vread : ∀ {W' : World} (sp : Nat → Bool), W'.var? Tryd.prog nmC = some #[.iface 72 (.pointer (some b0))] → W'.var? Tryd.prog nmU = some #[.iface 72 (.pointer (some b1))] →
      DataW.TrodVars enc Tryd.prog W' sp [nmC, nmU] [tok enc (.iface 72 (.pointer (some b0))), tok enc (.iface 72 (.pointer (some b1)))] [.cell 0 0, .cell 1 0] := fun sp e0 e1 =>
    vars_read2 enc gC tC Tryd.underlying33 e0 trivial gU tU Tryd.underlying33 e1 trivial sp
  obtain ⟨rfl, rfl⟩ := hV.unique (vread _ hv0 hv1)
  have g0 : W.cell? ⟨0, 0, none⟩ = some (.iface 72 (.pointer (some b0))) := by simpa using World.var?_cell gC hv0 0
  have g1 : W.cell? ⟨1, 0, none⟩ = some (.iface 72 (.pointer (some b1))) := by simpa using World.var?_cell gU hv1 0
  have hw2 : 2 ≤ W.heap.size := World.block_lt_of_cell? _ _ g1
  obtain ⟨a0, rfl, rfl, rfl, w0⟩ := open_int Tryd.underlying22 (hval 0 22 v0 rfl rfl) h0
  obtain ⟨a1, rfl, rfl, rfl, w1⟩ := open_int Tryd.underlying22 (hval 1 22 v1 rfl rfl) h1
  obtain ⟨a2, rfl, rfl, rfl, w2⟩ := open_int Tryd.underlying22 (hval 2 22 v2 rfl rfl) h2
  obtain ⟨a3, rfl, rfl, rfl, w3⟩ := open_int Tryd.underlying22 (hval 3 22 v3 rfl rfl) h3
  obtain ⟨a4, rfl, rfl, rfl, w4⟩ := open_int Tryd.underlying22 (hval 4 22 v4 rfl rfl) h4
  obtain ⟨a5, rfl, rfl, rfl, w5⟩ := open_int Tryd.underlying22 (hval 5 22 v5 rfl rfl) h5
  obtain ⟨a6, rfl, rfl, rfl, w6⟩ := open_int Tryd.underlying22 (hval 6 22 v6 rfl rfl) h6
  obtain ⟨a7, rfl, rfl, rfl, w7⟩ := open_int Tryd.underlying22 (hval 7 22 v7 rfl rfl) h7
  obtain ⟨a8, len8, cap8, rfl⟩ := okWide_slice Tryd.underlying23 (hval 8 23 v8 rfl rfl)
  have k8 := h8
  have lt8 : ∀ x ∈ p8, x.block < W.heap.size := by obtain ⟨m, hm⟩ := k8; exact DataW.trod_lt m _ _ _ hm
  obtain ⟨ts, hm, hi⟩ : ∃ ts, len8 ≤ maxLen ∧ Ints W a8 len8 ts := by
    obtain ⟨fuel, hf⟩ := h8
    rcases open_ints Tryd.underlying23 Tryd.underlying22 (by kernel_rfl) hf with ⟨hcs, _⟩ | ⟨x, l, c, zs, hcs, _, hl, hm, hz, _, hcell, hwz⟩
    · simp [Value.cells] at hcs
      obtain ⟨rfl, rfl, rfl⟩ := hcs
      exact ⟨[], Nat.zero_le _, rfl, .inl rfl⟩
    · simp [Value.cells] at hcs
      obtain ⟨rfl, rfl, rfl⟩ := hcs
      simp only [if_true] at hz
      exact ⟨zs.take len8, Nat.le_trans hl hm, ints_of hl hz hcell⟩
  clear hA0 hval0 hV0 hV
  refine (walk a0 a1 a2 a3 a4 a5 a6 a7 a8 len8 cap8 ts W _ _ _ _ g0 g1 w6 hm hi).mono fun e W' ⟨he, bel⟩ => ?_
  subst he
  exact ⟨_, rfl, _, _, _, [], _, [.cell 0 0, .cell 1 0], hW', trodAll_mk1 (shut_bool Tryd.underlying4 _), (trodAll_cons_mk (shut_int Tryd.underlying22 w0) (trodAll_cons_mk (shut_int Tryd.underlying22 w1) (trodAll_cons_mk (shut_int Tryd.underlying22 w2) (trodAll_cons_mk (shut_int Tryd.underlying22 w3) (trodAll_cons_mk (shut_int Tryd.underlying22 w4) (trodAll_cons_mk (shut_int Tryd.underlying22 w5) (trodAll_cons_mk (shut_int Tryd.underlying22 w6) (trodAll_cons_mk (shut_int Tryd.underlying22 w7) (trodAll_cons_mk (Below.trod laidOut (by kernel_rfl) (of_decide_eq_true (by kernel_rfl)) k8 bel lt8) trodAll_mk0))))))))),
    vread _ (var?_below bel gC (by omega) hv0) (var?_below bel gU (by omega) hv1), bel.frame _, fun h => by cases h⟩

theorem over : Rows.FnSetHardStateTouchesOnlyTheHardStateSaid :=
  OpenClaim.holds_of_wide 3 Tryd.f3 rfl rfl rfl rfl rfl rfl rfl ⟨rfl, rfl, rfl, rfl, rfl⟩ rfl rfl rfl rfl rfl (by kernel_rfl) Tryd.func3 (by kernel_rfl)
    (of_decide_eq_true (by kernel_rfl)) (by unfold Func.isWrapper; first | (rw [if_pos (by decide +kernel)]; kernel_rfl) | (rw [if_neg (by decide +kernel)]; exact ⟨rfl, rfl⟩))
    (fun os started H enc _ => lifted os started H enc)

/-- THE STATEMENT: the tied card. -/
theorem proved : Rows.FnSetHardStateTouchesOnlyTheHardStateCardSaid :=
  Claim7.holds_tied_plain_at .later [] [.sentinel, .sentinel] true Rows.fnSetHardStateTouchesOnlyTheHardStateCard.stood.harness false
    over (fun _ h => by cases h) (by kernel_rfl) (fun _ h => by cases h) fnSetHardStateTouchesOnlyTheHardState_row_tie rfl ⟨rfl, rfl⟩ (by kernel_rfl) rfl
    (fun f fn hf hfn => by
      obtain rfl : f = 3 := Option.some.inj ((show Tryd.prog.funcNamed Rows.fnSetHardStateTouchesOnlyTheHardStateRow.func = some 3 by kernel_rfl).symm.trans hf) |>.symm
      obtain rfl : fn = Tryd.f3 := (Option.some.inj (Tryd.func3.symm.trans hfn)).symm
      exact ⟨by kernel_rfl, fun j t ht => by
        rw [Tryd.params3] at ht
        have hm : t ∈ [22, 22, 22, 22, 22, 22, 22, 22, 23] := by simpa using Array.mem_of_getElem? ht
        have hall : ([22, 22, 22, 22, 22, 22, 22, 22, 23].all fun u => !Tryd.prog.wantsStandIn u) = true := by kernel_rfl
        exact (show Tryd.prog.wantsStandIn t = false by simpa using List.all_eq_true.1 hall t hm)⟩)
    (by kernel_rfl)
#print axioms proved
end Go.Proofs.Qxb6603498aDoor.hardState
