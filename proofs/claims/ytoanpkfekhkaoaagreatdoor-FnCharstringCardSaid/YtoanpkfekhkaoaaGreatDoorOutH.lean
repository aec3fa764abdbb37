/-
  FnCharstring's own walk: it answers true. Conditions: the arguments lie in memory, or their lengths are out of the statement's range.
-/
import Derived.Test.YtoanpkfekhkaoaaGreatDoorOutG
import Derived.Test.YtoanpkfekhkaoaaGreatDoorOutF
import Derived.Test.YtoanpkfekhkaoaaGreatDoorOutD
import Derived.Test.YtoanpkfekhkaoaaGreatDoorIntS
import Derived.Test.YtoanpkfekhkaoaaGreatDoorSpecI
namespace Go.Proofs.YtoanpkfekhkaoaaGreatDoor
open Go Go.RowKit
section
variable {ob oo ol oc nb no nl nc : Nat} {ao bo : Option Addr} {u : Int} {os zs : List Int} {w : World} {wd : Bool}
theorem char_any {ov : Value} (hI : In4 w.heap.size ob oo ol nb no nl os zs w) (hov0 : ov = .slice ao ol oc) (hov : 0 < ol → ov = .slice (some ⟨ob, oo, none⟩) ol oc) :
    Calls Tryz.prog 4 #[ov, .slice (some ⟨nb, no, none⟩) nl nc, .bool wd, .int .i64 u] w
      (CharPost w (wideOf u) ((runS zs (twoOf u) os (initS wd)).toks ++ [.op 14]) (closeS (runS zs (twoOf u) os (initS wd))).path) := by
  cases wd with
  | true => exact char_t hI hov0 hov
  | false => exact char_f hI hov0 hov
attribute [local go_sem ↓] Go.wp_at_zero Go.wp_at_succ
set_option maxRecDepth 100000 in
theorem fn_out (h : ol > 40 ∨ nl = 0 ∨ nl > 1000) : Calls Tryz.prog 3 #[.slice ao ol oc, .slice bo nl nc, .bool wd, .int .u8 u] w (fun e w' => e = .returned (.bool true) ∧ w' = w) := by
  by_cases h1 : ol > 2147483647
  · go_enter Tryz.func3, Tryz.ntmps3
    go_wp2_with fail
    go_ret
    exact ⟨rfl, rfl⟩
  · by_cases h2 : nl > 2147483647
    · go_enter Tryz.func3, Tryz.ntmps3
      go_wp2_with fail
      go_ret
      exact ⟨rfl, rfl⟩
    · by_cases h3 : ol > 40
      · go_enter Tryz.func3, Tryz.ntmps3
        go_wp2_with fail
        go_ret
        exact ⟨rfl, rfl⟩
      · by_cases h4 : nl = 0
        · subst h4
          go_enter Tryz.func3, Tryz.ntmps3
          go_wp2_with fail
          go_ret
          exact ⟨rfl, rfl⟩
        · have h5 : nl > 1000 := by omega
          clear h
          go_enter Tryz.func3, Tryz.ntmps3
          go_wp2_with fail
          go_ret
          exact ⟨rfl, rfl⟩
set_option maxRecDepth 100000 in
set_option maxHeartbeats 1000000 in
theorem fn_main (hI : In4 w.heap.size ob oo ol nb no nl os zs w) (hu : 0 ≤ u ∧ u ≤ 255) (hov : 0 < ol → ao = some ⟨ob, oo, none⟩) :
    Calls Tryz.prog 3 #[.slice ao ol oc, .slice (some ⟨nb, no, none⟩) nl nc, .bool wd, .int .u8 u] w (fun e w' => e = .returned (.bool true) ∧ Below w.heap.size w w') := by
  obtain ⟨u0, u1⟩ := hu
  have h40 := hI.hol
  have hn1 := hI.h1
  have hn2 := hI.h2
  have HC := Lib.hid (char_any (wd := wd) (u := u) (ao := ao) (oc := oc) (nc := nc) (ov := .slice ao ol oc) hI rfl (fun h => by rw [hov h]))
  have HP := Lib.hid (pok_all (wideOf u) wd zs (twoOf u) os (by rw [hI.hos]; exact hI.hol))
  have HA := Lib.hid (all_sim wd (wideOf u) zs (twoOf u) os (by rw [hI.hos]; exact hI.hol))
  have g1 : ¬ ol > 2147483647 := by omega
  have g2 : ¬ nl > 2147483647 := by omega
  have g3 : ¬ ol > 40 := by omega
  have g4 : ¬ nl = 0 := by omega
  have g5 : ¬ nl > 1000 := by omega
  have e1 : ¬ (2147483647 : Int) < (ol : Int) := by omega
  have e2 : ¬ (2147483647 : Int) < (nl : Int) := by omega
  have e3 : ¬ (40 : Int) < (ol : Int) := by omega
  have e4 : ¬ (nl : Int) = 0 := by omega
  have e5 : ¬ (1000 : Int) < (nl : Int) := by omega
  clear hov
  have HI := Lib.hid hI
  clear hI h40 hn1 hn2
  go_enter Tryz.func3, Tryz.ntmps3
  go_wp2_with fail
  refine HC.out.mono ?_
  rintro e w1 ⟨g, c, vp, xs, rfl, ho1, ho2, hsc, hb1⟩
  obtain ⟨p1, p2, p3, p4⟩ := HP.out
  obtain ⟨fin, r1, r2, r3⟩ := HA.out
  generalize (runS zs (twoOf u) os (initS wd)).toks ++ [Tok.op 14] = toks at *
  generalize hpa : closeS (runS zs (twoOf u) os (initS wd)) = cs at *
  obtain ⟨g', c', hgc, _, hlt, _, _, hby⟩ := ByteBlk.of_own ho1 p4 rfl
  obtain ⟨rfl, rfl⟩ : g' = g ∧ c' = c := by simp only [Value.slice.injEq, Option.some.injEq, Addr.mk.injEq] at hgc; omega
  have HM := Lib.hid (imp_c (c := c') hby rfl p4 p3 r1 r3 (by rw [r2]; exact p2) (by rw [r2]; exact p1))
  clear hby ho1 p3 p4
  go_wp2_with fail
  refine HM.out.mono ?_
  rintro e w2 ⟨B, v, ys, hB, rfl, hown, hG, hb2⟩
  rw [r2] at hown hG
  have hv2 := own_of ho2 (w' := w2) fun k _ hk => hb2.block k (by obtain ⟨_, _, hx⟩ := hk; exact blk_lt hx)
  have hs2 := hsc.of (w' := w2) fun k _ hk => hb2.block k (by obtain ⟨_, _, hx⟩ := hk; exact blk_lt hx)
  have HQ := Lib.hid (pathIs_c hown hG hv2 hs2 rfl p2 (fun sg hsg => by
    rcases (p1 sg hsg).2 with ⟨_, h⟩ | ⟨_, h⟩
    · exact .inl h
    · exact .inr h))
  have hbel := hb1.trans (hb2.mono hb1.size)
  clear hown hG hv2 hs2 ho2 hsc hb1 hb2
  go_wp2_with fail
  refine HQ.out.mono ?_
  rintro e w3 ⟨rfl, hb3⟩
  go_wp2_with fail
  go_ret
  exact ⟨rfl, hbel.trans (hb3.mono hbel.size)⟩
end
end Go.Proofs.YtoanpkfekhkaoaaGreatDoor
