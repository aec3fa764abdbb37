/-
  Proved here: the given statement FnCharstringCardSaid: called with any arguments that can be read, FnCharstring returns true and leaves every argument as it was. No condition beyond the given statement's own; the given card ties the listed package variables to the program's text.
-/
import Derived.Test.YtoanpkfekhkaoaaGreatDoorOutH
import Derived.Test.YtoanpkfekhkaoaaGreatDoorCards
import Derived.Test.YtoanpkfekhkaoaaGreatDoorTie
import Derived.ProofKit
import Derived.OpenShut
import Derived.OpenVars
import Derived.LaidMore
import Derived.Lay
import Derived.SevenTiedAt
import Derived.Stop.Joined
namespace Go.Proofs.YtoanpkfekhkaoaaGreatDoor
open Go Go.ChangeShapes Go.WideShapes Go.ChangeAt Go.RowKit
theorem rowOwn : ownKnob Tryz.prog.godebug = none := by kernel_rfl
theorem rowLaidOut : laidOutB Tryz.prog = true := by kernel_rfl
theorem rowC5 : Tryz.prog.cellsOf 5 = 1 := by kernel_rfl
theorem rowU5 : Tryz.prog.underlying 5 = some (.int .u8) := by kernel_rfl
theorem rowU22 : Tryz.prog.underlying 22 = some (.slice 5) := by kernel_rfl
theorem rowU4 : Tryz.prog.underlying 4 = some .bool := by kernel_rfl
/-- The slice of numbers' element type. -/
theorem rowU23 : ∃ e, Tryz.prog.underlying 23 = some (.slice e) ∧ Tryz.prog.underlying e = some (.int .i16) ∧ Tryz.prog.cellsOf e = 1 := by
  refine ⟨Tryz.prog.elem 23, by kernel_rfl, by kernel_rfl, by kernel_rfl⟩
theorem vars_len {H : Type} {enc : TypeId × Value → H} {P : Program} {W : World} {sp : Nat → Bool} : ∀ {ns : List String} {gs : List (DataW H)} {ps : List MemPlace}, DataW.TrodVars enc P W sp ns gs ps → gs.length = ns.length
  | [], [], _, _ => rfl
  | [], _ :: _, _, h => h.elim
  | _ :: _, [], _, h => h.elim
  | _ :: ns, _ :: ds, _, h => by
    obtain ⟨_, _, _, _, _, q, _, _, _, _, hs, _⟩ := h
    simp only [List.length_cons, vars_len hs]
theorem list8 {α : Type} {l : List α} (h : l.length = 8) : ∃ a b c d e f g i, l = [a, b, c, d, e, f, g, i] := by
  match l, h with
  | [a, b, c, d, e, f, g, i], _ => exact ⟨a, b, c, d, e, f, g, i, rfl⟩
set_option maxRecDepth 100000 in
theorem lifted (os : Os) (started : os.Started) (H : Type) (enc : TypeId × Value → H) :
    ReturnsInHanded {} Tryz.checked os 3 .any (fun w args => (Rows.fnCharstringSpec.pre enc Tryz.prog Tryz.f3 Rows.fnCharstringRow.domain false w args ∧ laidMetH Tryz.prog Rows.fnCharstringRow.laid w) ∧ sizedMet enc Tryz.prog Tryz.f3 (OpenSpec.ofChange Rows.fnCharstringSpec) false w args)
      (Rows.fnCharstringSpec.post enc Tryz.prog Tryz.f3 false true false false) := by
  refine returnsInHanded_of_change_and (C := Tryz.checked) (X := fun w _ => laidMetH Tryz.prog Rows.fnCharstringRow.laid w) (fun _ _ _ hh h => h.of_heap hh) rowOwn started (by kernel_rfl) Tryz.func3
    (ChangeSpec.witness_shaped (enc := enc) (C := Tryz.checked) (os := os) (X := fun w _ => laidMetH Tryz.prog Rows.fnCharstringRow.laid w) false (World.laidAll Tryz.prog os Rows.fnCharstringRow.laid) #[.slice none 0 0, .slice none 0 0, .bool false, .int .u8 0] 8 (World.laidAll_os _ _ _)
      (World.shaped_of_ZipB (by kernel_rfl) (by kernel_rfl)) (by kernel_rfl) (by kernel_rfl) (by kernel_rfl)
      (by rw [MakeChecks.laidMetH_plain _ _ _ (by kernel_rfl)]; exact laidMet_laidAll _ (by kernel_rfl) (by kernel_rfl))) ?_
  intro W base args ds gs before hval0 hW hc _ hL _
  have hval : ∀ (j : Nat) t v, Tryz.f3.params[j]? = some t → args[j]? = some v → Value.okWide Tryz.prog W .any base t v := hval0
  have hW' := hW
  obtain ⟨p, q, hA0, hV, rfl, _, _⟩ := hW
  have hA : DataW.TrodAll enc Tryz.prog W 0 (fun _ => true) true Tryz.f3.params.toList args.toList ds p := hA0
  rw [Tryz.params3] at hA hval
  obtain ⟨v0, v1, v2, v3, d0, d1, d2, d3, p0, p1, p2, p3, rfl, rfl, rfl, h0, h1, h2, h3⟩ := trodAll_four hA
  obtain ⟨b, rfl, rfl, rfl⟩ := open_bool rowU4 (hval 2 4 v2 rfl rfl) h2
  obtain ⟨x, rfl, rfl, rfl, wx⟩ := open_int rowU5 (hval 3 5 v3 rfl rfl) h3
  obtain ⟨ao, ol, oc, rfl⟩ := okWide_slice rowU22 (hval 0 22 v0 rfl rfl)
  obtain ⟨e23, u23, ue23, ce23⟩ := rowU23
  obtain ⟨bo, nl, nc, rfl⟩ := okWide_slice u23 (hval 1 23 v1 rfl rfl)
  have lt : ∀ y ∈ (p0 ++ p1 ++ [] ++ [] ++ q), y.block < W.heap.size := fun y hy => by simpa using hW'.lt y hy
  have k0 := h0
  have k1 := h1
  have k2 := h2
  have k3 := h3
  obtain ⟨f0, hf0⟩ := h0
  obtain ⟨f1, hf1⟩ := h1
  have fin : Calls Tryz.prog 3 #[.slice ao ol oc, .slice bo nl nc, .bool b, .int .u8 x] W (fun e w' => e = .returned (.bool true) ∧ Below W.heap.size W w') := by
    by_cases hr : ol > 40 ∨ nl = 0 ∨ nl > 1000
    · exact (fn_out hr).mono fun e w' ⟨he, hw⟩ => ⟨he, hw ▸ Below.refl _ _⟩
    · rcases open_ints u23 ue23 ce23 hf1 with ⟨hcs, hx⟩ | ⟨a1, l1, cp1, zs, hcs, _, hl1, hm1, hz1, hx1, hc1, hw1⟩
      · simp [Value.cells] at hcs
        omega
      · simp [Value.cells] at hcs
        obtain ⟨rfl, rfl, rfl⟩ := hcs
        simp only [if_true] at hz1
        obtain ⟨nb, no, sp1⟩ := a1
        obtain rfl : sp1 = none := by simpa [Addr.add] using World.cell?_spot (hc1 0 (by omega))
        have hnb : nb < W.heap.size := block_lt_of_cell (hc1 0 (by omega))
        have wz : ∀ i, -32768 ≤ (zs.take nl).getD i 0 ∧ (zs.take nl).getD i 0 ≤ 32767 := fun i => by
          by_cases hi : i < (zs.take nl).length
          · have hm : (zs.take nl).getD i 0 ∈ zs := by
              rw [List.getD_eq_getElem?_getD, List.getElem?_eq_getElem hi]
              exact List.mem_of_mem_take (List.getElem_mem hi)
            have := hw1 _ hm
            simpa [Lit.wf, IntKind.min, IntKind.max, IntKind.bits, IntKind.signed] using this
          · rw [List.getD_eq_getElem?_getD, List.getElem?_eq_none (by omega)]; simp
        have cz : ∀ i, i < nl → W.cell? ⟨nb, no + i, none⟩ = some (.int .i16 ((zs.take nl).getD i 0)) := fun i hi => by
          rw [← add_plain, hc1 i (by omega)]
          simp [List.getD_eq_getElem?_getD, List.getElem?_take, hi]
        have wx' : 0 ≤ x ∧ x ≤ 255 := by simpa [Lit.wf, IntKind.min, IntKind.max, IntKind.bits, IntKind.signed] using wx
        rcases open_ints rowU22 rowU5 rowC5 hf0 with ⟨hcs, hx⟩ | ⟨a0, l0, cp0, zo, hcs, _, hl0, hm0, hz0, hx0, hc0, hw0⟩
        · simp [Value.cells] at hcs
          obtain ⟨rfl, rfl, rfl⟩ := hcs
          exact fn_main (ob := 0) (oo := 0) (os := []) (zs := zs.take nl) ⟨by omega, rfl, fun h => absurd h (by omega), fun i hi => absurd hi (by omega), fun i => by simp, by simp; omega, by omega, by omega, cz, wz, hnb⟩ wx' (fun h => absurd h (by omega))
        · simp [Value.cells] at hcs
          obtain ⟨rfl, rfl, rfl⟩ := hcs
          simp only [if_true] at hz0
          by_cases h0 : ol = 0
          · subst h0
            exact fn_main (ob := 0) (oo := 0) (os := []) (zs := zs.take nl) ⟨by omega, rfl, fun h => absurd h (by omega), fun i hi => absurd hi (by omega), fun i => by simp, by simp; omega, by omega, by omega, cz, wz, hnb⟩ wx' (fun h => absurd h (by omega))
          · obtain ⟨ob, oo, sp0⟩ := a0
            obtain rfl : sp0 = none := by simpa [Addr.add] using World.cell?_spot (hc0 0 (by omega))
            have hob : ob < W.heap.size := block_lt_of_cell (hc0 0 (by omega))
            have wo : ∀ i, 0 ≤ (zo.take ol).getD i 0 ∧ (zo.take ol).getD i 0 ≤ 255 := fun i => by
              by_cases hi : i < (zo.take ol).length
              · have hm : (zo.take ol).getD i 0 ∈ zo := by
                  rw [List.getD_eq_getElem?_getD, List.getElem?_eq_getElem hi]
                  exact List.mem_of_mem_take (List.getElem_mem hi)
                have := hw0 _ hm
                simpa [Lit.wf, IntKind.min, IntKind.max, IntKind.bits, IntKind.signed] using this
              · rw [List.getD_eq_getElem?_getD, List.getElem?_eq_none (by omega)]; simp
            have co : ∀ i, i < ol → W.cell? ⟨ob, oo + i, none⟩ = some (.int .u8 ((zo.take ol).getD i 0)) := fun i hi => by
              rw [← add_plain, hc0 i (by omega)]
              simp [List.getD_eq_getElem?_getD, List.getElem?_take, hi]
            exact fn_main (os := zo.take ol) (zs := zs.take nl) ⟨by omega, by simp; omega, fun _ => hob, co, wo, by simp; omega, by omega, by omega, cz, wz, hnb⟩ wx' (fun _ => rfl)
  refine fin.mono fun e W' ⟨he, hb⟩ => ?_
  subst he
  have t0 := Below.trod rowLaidOut (by kernel_rfl) (of_decide_eq_true (by kernel_rfl)) k0 hb (fun y hy => lt y (by simp [hy]))
  have t1 := Below.trod rowLaidOut (by kernel_rfl) (of_decide_eq_true (by kernel_rfl)) k1 hb (fun y hy => lt y (by simp [hy]))
  have t2 := Below.trod rowLaidOut (by kernel_rfl) (of_decide_eq_true (by kernel_rfl)) k2 hb (fun y hy => by simp at hy)
  have t3 := Below.trod rowLaidOut (by kernel_rfl) (of_decide_eq_true (by kernel_rfl)) k3 hb (fun y hy => by simp at hy)
  have tv := Below.trodVars rowLaidOut hb (by kernel_rfl) hV
  obtain ⟨g1, g2, g3, g4, g5, g6, g7, g8, rfl⟩ := list8 (vars_len hV)
  refine ⟨_, rfl, _, _, _, [], p0 ++ (p1 ++ ([] ++ [])), q, hW', ?_, ?_, ?_, ?_, fun h => by cases h⟩
  · exact trodAll_mk1 (shut_bool rowU4 true)
  · exact trodAll_mk4 t0 t1 t2 t3
  · exact tv
  · exact World.keptBut_mono (fun y hy => hy.elim) (hb.frame (fun _ => False))

theorem holds : Rows.FnCharstringSaid :=
  OpenClaim.holds_of_wide 3 Tryz.f3 rfl rfl rfl rfl rfl rfl rfl ⟨rfl, rfl, rfl, rfl, rfl⟩ rfl rfl rfl rfl rfl (by kernel_rfl) Tryz.func3 (by kernel_rfl)
    (of_decide_eq_true (by kernel_rfl)) (by unfold Func.isWrapper; first | (rw [if_pos (by decide +kernel)]; kernel_rfl) | (rw [if_neg (by decide +kernel)]; exact ⟨rfl, rfl⟩))
    (fun os started H enc _ => lifted os started H enc)
theorem card_holds : Rows.FnCharstringCardSaid :=
  Claim7.holds_tied_plain_at .later [] [.data, .data, .widerDeep, .widerDeep, .data, .data, .data, .data, .data, .sentinel, .sentinel, .data, .sentinel, .sentinel, .sentinel, .sentinel, .sentinel, .sentinel, .sentinel, .pinned, .pinned] true (true, "c975c8d32a9f5454e99f5f70ad2acd480899bb6aa1beb689a75f299185a043b0") true holds (fun _ h => by cases h) (by kernel_rfl) (fun _ h => by cases h) fnCharstring_row_tie rfl ⟨rfl, rfl⟩ (by kernel_rfl) rfl
    (fun f fn hf hfn => by
      obtain rfl : f = 3 := Option.some.inj ((show Tryz.prog.funcNamed "loop.example/pub-g03433/laws.FnCharstring" = some 3 by kernel_rfl).symm.trans hf) |>.symm
      obtain rfl : fn = Tryz.f3 := (Option.some.inj (Tryz.func3.symm.trans hfn)).symm
      exact ⟨by kernel_rfl, fun j t ht => by
        rw [Tryz.params3] at ht
        have hm : t ∈ [22, 23, 4, 5] := by simpa using Array.mem_of_getElem? ht
        have hall : ([22, 23, 4, 5].all fun u => !Tryz.prog.wantsStandIn u) = true := by kernel_rfl
        exact (show Tryz.prog.wantsStandIn t = false by simpa using List.all_eq_true.1 hall t hm)⟩)
    (by kernel_rfl)
#print axioms holds
#print axioms card_holds
end Go.Proofs.YtoanpkfekhkaoaaGreatDoor
