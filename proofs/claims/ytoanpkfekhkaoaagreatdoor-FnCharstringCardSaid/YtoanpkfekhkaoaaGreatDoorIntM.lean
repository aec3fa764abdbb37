/-
  The interpreter's whole loop over a list of tokens. Conditions: the loop's frame.
-/
import Derived.Test.YtoanpkfekhkaoaaGreatDoorIntH
import Derived.Test.YtoanpkfekhkaoaaGreatDoorIntL0
import Derived.Test.YtoanpkfekhkaoaaGreatDoorIntL1
import Derived.Test.YtoanpkfekhkaoaaGreatDoorIntL2
import Derived.Test.YtoanpkfekhkaoaaGreatDoorIntJ
import Derived.WalkMore
namespace Go.Proofs.YtoanpkfekhkaoaaGreatDoor
open Go Go.RowKit

section
variable {Bb lo g o n c : Nat} {s : PS} {w : World} {u : Nat → Value} {Q : Exit → Act → World → Prop} {wd : Bool} {L : List Int}
theorem wrap16_of (v : Int) (h0 : -499 ≤ v) (h1 : v ≤ 499) : IntKind.i16.wrap (v / 256 % 256 * 256 + v % 256) = v := by
  have e : ∃ k : Int, v / 256 % 256 * 256 + v % 256 = v + 65536 * k := by
    rcases Int.lt_or_le v 0 with h | h
    · exact ⟨1, by omega⟩
    · exact ⟨0, by omega⟩
  obtain ⟨k, hk⟩ := e
  have hw : ∀ m : Int, IntKind.i16.wrap m = if m % 65536 ≥ 32768 then m % 65536 - 65536 else m % 65536 := fun m => by simp [IntKind.wrap, IntKind.bits, IntKind.signed]
  rw [hk, hw]
  split <;> omega

theorem num_c (hS : PSt Bb lo (.slice (some ⟨g, o, none⟩) n c) s w) {v : Int} (hn : (enc wd v).length ≤ n) (hnc : n ≤ c) (hcb : c ≤ 9223372036854775807) (hv : -499 ≤ v ∧ v ≤ 499) (hl : s.stk.length < 48)
    (hby : ∀ i x, (enc wd v)[i]? = some x → w.cell? ⟨g, o + i, none⟩ = some (.int .u8 x)) :
    Calls Tryz.prog 20 #[.pointer (some ⟨Bb, 514, none⟩)] w (NumTo Bb lo g (o + (enc wd v).length) (n - (enc wd v).length) s v w) := by
  cases wd with
  | true =>
    have e : enc true v = [28, v / 256 % 256, v % 256] := rfl
    rw [e] at hn hby ⊢
    exact pn_28 hS hn hnc hcb s.stk.length rfl hl (v / 256 % 256) (v % 256) v (by omega) (by omega) (wrap16_of v (by omega) (by omega)) (by omega) (hby 0 28 rfl) (hby 1 _ rfl) (hby 2 _ rfl)
  | false =>
    by_cases h1 : -107 ≤ v ∧ v ≤ 107
    · have e : enc false v = [139 + v] := by unfold enc; rw [if_neg (by decide), if_pos h1]
      rw [e] at hn hby ⊢
      have := pn_small hS hn hnc hcb s.stk.length rfl hl (139 + v) (by omega) (hby 0 _ rfl)
      rwa [show 139 + v - 139 = v by omega] at this
    · by_cases h2 : 108 ≤ v
      · have e : enc false v = [247 + (v - 108) / 256, (v - 108) % 256] := by unfold enc; rw [if_neg (by decide), if_neg h1, if_pos h2]
        rw [e] at hn hby ⊢
        have := pn_pos hS hn hnc hcb s.stk.length rfl hl (247 + (v - 108) / 256) ((v - 108) % 256) (by omega) (by omega) (hby 0 _ rfl) (hby 1 _ rfl)
        rwa [show (247 + (v - 108) / 256 - 247) * 256 + (v - 108) % 256 + 108 = v by omega] at this
      · have e : enc false v = [251 + (-v - 108) / 256, (-v - 108) % 256] := by unfold enc; rw [if_neg (by decide), if_neg h1, if_neg h2]
        rw [e] at hn hby ⊢
        have := pn_neg hS hn hnc hcb s.stk.length rfl hl (251 + (-v - 108) / 256) ((-v - 108) % 256) (by omega) (by omega) (hby 0 _ rfl) (hby 1 _ rfl)
        rwa [show -(251 + (-v - 108) / 256 - 251) * 256 - (-v - 108) % 256 - 108 = v by omega] at this

def muR (Bb : Nat) (_ : Act) (w : World) : Nat := match w.cell? ⟨Bb, 515, none⟩ with
  | some (.slice _ n _) => n
  | _ => 0
theorem muR_of {ins : Value} {a : Act} (hS : PSt Bb lo ins s w) (hI : InsAt g o n ins) : muR Bb a w = n := by
  obtain ⟨ao, c, rfl, _⟩ := hI
  unfold muR
  rw [hS.cell.2.1]

def WR (Bb lo g : Nat) (wd : Bool) (L : List Int) (fin : PS) (w0 : World) (a : Act) (w : World) : Prop :=
  ∃ t pre rest s ins, a = ⟨t, []⟩ ∧ FxR Bb t ∧ PSt Bb lo ins s w ∧ InsAt g pre.length (encs wd rest).length ins ∧ L = pre ++ encs wd rest ∧ ByteBlk g L w ∧ Runs wd rest s fin ∧ PFrm Bb lo w0 w

theorem enc_pos (wd : Bool) (v : Int) : 0 < (enc wd v).length := by unfold enc; split <;> (try split) <;> (try split) <;> simp


theorem tabF_cases {b : Int} {F : Nat} (h : tabF b = some F) : (b = 4 ∧ F = 34) ∨ (b = 5 ∧ F = 35) ∨ (b = 6 ∧ F = 36) ∨ (b = 7 ∧ F = 37) ∨ (b = 8 ∧ F = 38) ∨ (b = 14 ∧ F = 41) ∨ (b = 21 ∧ F = 43) ∨ (b = 22 ∧ F = 44) ∨ (b = 24 ∧ F = 45) ∨ (b = 25 ∧ F = 46) ∨ (b = 26 ∧ F = 47) ∨ (b = 27 ∧ F = 48) ∨ (b = 30 ∧ F = 50) ∨ (b = 31 ∧ F = 51) := by
  unfold tabF at h
  by_cases hb : b = 4
  · rw [if_pos hb] at h; exact (.inl ⟨hb, (Option.some.inj h).symm⟩)
  rw [if_neg hb] at h
  clear hb
  by_cases hb : b = 5
  · rw [if_pos hb] at h; exact (.inr (.inl ⟨hb, (Option.some.inj h).symm⟩))
  rw [if_neg hb] at h
  clear hb
  by_cases hb : b = 6
  · rw [if_pos hb] at h; exact (.inr (.inr (.inl ⟨hb, (Option.some.inj h).symm⟩)))
  rw [if_neg hb] at h
  clear hb
  by_cases hb : b = 7
  · rw [if_pos hb] at h; exact (.inr (.inr (.inr (.inl ⟨hb, (Option.some.inj h).symm⟩))))
  rw [if_neg hb] at h
  clear hb
  by_cases hb : b = 8
  · rw [if_pos hb] at h; exact (.inr (.inr (.inr (.inr (.inl ⟨hb, (Option.some.inj h).symm⟩)))))
  rw [if_neg hb] at h
  clear hb
  by_cases hb : b = 14
  · rw [if_pos hb] at h; exact (.inr (.inr (.inr (.inr (.inr (.inl ⟨hb, (Option.some.inj h).symm⟩))))))
  rw [if_neg hb] at h
  clear hb
  by_cases hb : b = 21
  · rw [if_pos hb] at h; exact (.inr (.inr (.inr (.inr (.inr (.inr (.inl ⟨hb, (Option.some.inj h).symm⟩)))))))
  rw [if_neg hb] at h
  clear hb
  by_cases hb : b = 22
  · rw [if_pos hb] at h; exact (.inr (.inr (.inr (.inr (.inr (.inr (.inr (.inl ⟨hb, (Option.some.inj h).symm⟩))))))))
  rw [if_neg hb] at h
  clear hb
  by_cases hb : b = 24
  · rw [if_pos hb] at h; exact (.inr (.inr (.inr (.inr (.inr (.inr (.inr (.inr (.inl ⟨hb, (Option.some.inj h).symm⟩)))))))))
  rw [if_neg hb] at h
  clear hb
  by_cases hb : b = 25
  · rw [if_pos hb] at h; exact (.inr (.inr (.inr (.inr (.inr (.inr (.inr (.inr (.inr (.inl ⟨hb, (Option.some.inj h).symm⟩))))))))))
  rw [if_neg hb] at h
  clear hb
  by_cases hb : b = 26
  · rw [if_pos hb] at h; exact (.inr (.inr (.inr (.inr (.inr (.inr (.inr (.inr (.inr (.inr (.inl ⟨hb, (Option.some.inj h).symm⟩)))))))))))
  rw [if_neg hb] at h
  clear hb
  by_cases hb : b = 27
  · rw [if_pos hb] at h; exact (.inr (.inr (.inr (.inr (.inr (.inr (.inr (.inr (.inr (.inr (.inr (.inl ⟨hb, (Option.some.inj h).symm⟩))))))))))))
  rw [if_neg hb] at h
  clear hb
  by_cases hb : b = 30
  · rw [if_pos hb] at h; exact (.inr (.inr (.inr (.inr (.inr (.inr (.inr (.inr (.inr (.inr (.inr (.inr (.inl ⟨hb, (Option.some.inj h).symm⟩)))))))))))))
  rw [if_neg hb] at h
  clear hb
  by_cases hb : b = 31
  · rw [if_pos hb] at h; exact (.inr (.inr (.inr (.inr (.inr (.inr (.inr (.inr (.inr (.inr (.inr (.inr (.inr ⟨hb, (Option.some.inj h).symm⟩)))))))))))))
  rw [if_neg hb] at h
  clear hb
  cases h

set_option maxHeartbeats 1000000 in
theorem roundR {fin : PS} {w0 : World} (hg : g ≠ Bb) (hQ : ∀ t ins w, FxR Bb t → PSt Bb lo ins fin w → PFrm Bb lo w0 w → Q (.exit 0) ⟨t, []⟩ w) (a : Act) (w : World) (hW : WR Bb lo g wd L fin w0 a w) :
    Code.wp Tryz.prog bodyR (Exit.then (fun a' w' => WR Bb lo g wd L fin w0 a' w' ∧ muR Bb a' w' < muR Bb a w) Q) a w := by
  obtain ⟨t, pre, rest, s, ins, rfl, hF, hS, hI, hL, hby, hR, hfr⟩ := hW
  rw [muR_of hS hI]
  cases hR with
  | nil =>
    obtain ⟨ao, c, rfl, -⟩ := hI
    rw [hF.lit]
    exact round_end hS fun t' hF' => hQ _ _ _ hF' hS hfr
  | cons tk ts _ s1 _ hst hR =>
    cases hst with
    | num v _ hv hl =>
      have hlen : (encs wd (Tok.num v :: ts)).length = (enc wd v).length + (encs wd ts).length := by simp [encs, encT]
      have hpos := enc_pos wd v
      obtain ⟨c, rfl, hc1, hc2⟩ := hI.pos (by omega)
      have hC := num_c (wd := wd) (v := v) hS (by omega) hc1 hc2 hv hl (fun i x hx => hby.cell (by
        have hi := (List.getElem?_eq_some_iff.1 hx).1
        rw [hL, List.getElem?_append_right (by omega), show pre.length + i - pre.length = i by omega]
        simp only [encs, encT, List.flatMap_cons]
        rw [List.getElem?_append_left hi]; exact hx))
      rw [hF.lit]
      refine round_num hS (by omega) hC fun t' ins' w' hF' hI' hS' hfr' => ?_
      refine ⟨⟨t', pre ++ enc wd v, ts, _, ins', rfl, hF', hS', ?_, ?_, hby.frm hfr' hg, hR, hfr.trans hfr'⟩, ?_⟩
      · rw [List.length_append, show (encs wd ts).length = (encs wd (Tok.num v :: ts)).length - (enc wd v).length by omega]; exact hI'
      · rw [hL, List.append_assoc]; rfl
      · rw [muR_of hS' hI']; omega
    | op b F _ s' hF' ho =>
      have hlen : (encs wd (Tok.op b :: ts)).length = 1 + (encs wd ts).length := by simp [encs, encT]; omega
      obtain ⟨c, rfl, hc1, hc2⟩ := hI.pos (by omega)
      have hb0 : w.cell? ⟨g, pre.length, none⟩ = some (.int .u8 b) := hby.cell (by
        rw [hL, List.getElem?_append_right (Nat.le_refl _), Nat.sub_self]
        simp [encs, encT])
      have ho' : OpOk F ((encs wd (Tok.op b :: ts)).length - 1) s s' := by rw [show (encs wd (Tok.op b :: ts)).length - 1 = (encs wd ts).length by omega]; exact ho
      have fin' : ∀ t ins w', FxR Bb t → InsAt g (pre.length + 1) ((encs wd (Tok.op b :: ts)).length - 1) ins → PSt Bb lo ins { s' with stk := [] } w' → PFrm Bb lo w w' →
          Exit.then (fun a' w' => WR Bb lo g wd L fin w0 a' w' ∧ muR Bb a' w' < (encs wd (Tok.op b :: ts)).length) Q .normal ⟨t, []⟩ w' := by
        intro t' ins' w' hF' hI' hS' hfr'
        refine ⟨⟨t', pre ++ [b], ts, _, ins', rfl, hF', hS', ?_, ?_, hby.frm hfr' hg, hR, hfr.trans hfr'⟩, ?_⟩
        · rw [List.length_append, List.length_singleton, show (encs wd ts).length = (encs wd (Tok.op b :: ts)).length - 1 by omega]; exact hI'
        · rw [hL, List.append_assoc]; rfl
        · rw [muR_of hS' hI']; omega
      rw [hF.lit]
      have h1 : 1 ≤ (encs wd (Tok.op b :: ts)).length := by omega
      generalize (encs wd (Tok.op b :: ts)).length = n at *
      rcases tabF_cases hF' with ⟨rfl, rfl⟩ | ⟨rfl, rfl⟩ | ⟨rfl, rfl⟩ | ⟨rfl, rfl⟩ | ⟨rfl, rfl⟩ | ⟨rfl, rfl⟩ | ⟨rfl, rfl⟩ | ⟨rfl, rfl⟩ | ⟨rfl, rfl⟩ | ⟨rfl, rfl⟩ | ⟨rfl, rfl⟩ | ⟨rfl, rfl⟩ | ⟨rfl, rfl⟩ | ⟨rfl, rfl⟩
      · exact round_op4 hS h1 hc1 hc2 hb0 ho' fin'
      · exact round_op5 hS h1 hc1 hc2 hb0 ho' fin'
      · exact round_op6 hS h1 hc1 hc2 hb0 ho' fin'
      · exact round_op7 hS h1 hc1 hc2 hb0 ho' fin'
      · exact round_op8 hS h1 hc1 hc2 hb0 ho' fin'
      · exact round_op14 hS h1 hc1 hc2 hb0 ho' fin'
      · exact round_op21 hS h1 hc1 hc2 hb0 ho' fin'
      · exact round_op22 hS h1 hc1 hc2 hb0 ho' fin'
      · exact round_op24 hS h1 hc1 hc2 hb0 ho' fin'
      · exact round_op25 hS h1 hc1 hc2 hb0 ho' fin'
      · exact round_op26 hS h1 hc1 hc2 hb0 ho' fin'
      · exact round_op27 hS h1 hc1 hc2 hb0 ho' fin'
      · exact round_op30 hS h1 hc1 hc2 hb0 ho' fin'
      · exact round_op31 hS h1 hc1 hc2 hb0 ho' fin'

theorem loopR {fin : PS} {w0 : World} {t : Array Value} {ins : Value} {rest : List Tok} (hg : g ≠ Bb) (hF : FxR Bb t) (hS : PSt Bb lo ins s w) (hI : InsAt g 0 (encs wd rest).length ins) (hby : ByteBlk g (encs wd rest) w) (hR : Runs wd rest s fin) (hfr : PFrm Bb lo w0 w)
    (hQ : ∀ t ins w, FxR Bb t → PSt Bb lo ins fin w → PFrm Bb lo w0 w → Q (.exit 0) ⟨t, []⟩ w) : Code.wp Tryz.prog (Code.loop bodyR) Q ⟨t, []⟩ w := by
  refine wp_loop (WR Bb lo g wd (encs wd rest) fin w0) (muR Bb) ?_ (fun a w' hW => roundR hg hQ a w' hW)
  exact ⟨t, [], rest, s, ins, rfl, hF, hS, hI, rfl, hby, hR, hfr⟩

end
end Go.Proofs.YtoanpkfekhkaoaaGreatDoor
