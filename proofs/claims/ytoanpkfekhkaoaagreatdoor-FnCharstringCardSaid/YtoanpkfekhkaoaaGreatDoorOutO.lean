/-
  An own law for a drawn region of eleven operations. Conditions: as the theorem names them.
-/
import Derived.Test.YtoanpkfekhkaoaaGreatDoorIntO
namespace Go.Proofs.YtoanpkfekhkaoaaGreatDoor
open Go Go.RowKit
section
variable {P : Program} {Q : Exit → Act → World → Prop} {S : World → Prop}
theorem wp_region_11 {id : Nat} {o0 o1 o2 o3 o4 o5 o6 o7 o8 o9 o10 : Oper} {a : Act} {w : World} (hm : P.follows .mixedOrders = true)
    (hsel : Region.noSelect [o0, o1, o2, o3, o4, o5, o6, o7, o8, o9, o10].toArray = true)
    (hB : takesB .any [o0, o1, o2, o3, o4, o5, o6, o7, o8, o9, o10].toArray 10 (List.range 6) (Array.replicate 11 false) = true)
    (hr0 : Region.ready .any [o0, o1, o2, o3, o4, o5, o6, o7, o8, o9, o10].toArray (setAll (List.range 6) (Array.replicate 11 false)) = [6])
    (hr1 : Region.ready .any [o0, o1, o2, o3, o4, o5, o6, o7, o8, o9, o10].toArray ((setAll (List.range 6) (Array.replicate 11 false)).setIfInBounds 6 true) = [7])
    (hr2 : Region.ready .any [o0, o1, o2, o3, o4, o5, o6, o7, o8, o9, o10].toArray (((setAll (List.range 6) (Array.replicate 11 false)).setIfInBounds 6 true).setIfInBounds 7 true) = [8])
    (hr3 : Region.ready .any [o0, o1, o2, o3, o4, o5, o6, o7, o8, o9, o10].toArray ((((setAll (List.range 6) (Array.replicate 11 false)).setIfInBounds 6 true).setIfInBounds 7 true).setIfInBounds 8 true) = [9])
    (hr4 : Region.ready .any [o0, o1, o2, o3, o4, o5, o6, o7, o8, o9, o10].toArray (((((setAll (List.range 6) (Array.replicate 11 false)).setIfInBounds 6 true).setIfInBounds 7 true).setIfInBounds 8 true).setIfInBounds 9 true) = [10])
    (hr5 : Region.ready .any [o0, o1, o2, o3, o4, o5, o6, o7, o8, o9, o10].toArray ((((((setAll (List.range 6) (Array.replicate 11 false)).setIfInBounds 6 true).setIfInBounds 7 true).setIfInBounds 8 true).setIfInBounds 9 true).setIfInBounds 10 true) = [])
    (hQ : ∀ c a d v w, Q (.panic c) (Act.put a d v) w → Q (.panic c) a w) (hS : S w.drew)
    (h : wpQuiet P [o0, o1, o2, o3, o4, o5, o6, o7, o8, o9, o10].toArray S (fun a0 => (∀ K0 : Act → World → Prop, (∀ a1 w1, S w1 → (∀ K1 : Act → World → Prop, (∀ a2 w2, S w2 → (∀ K2 : Act → World → Prop, (∀ a3 w3, S w3 → (∀ K3 : Act → World → Prop, (∀ a4 w4, S w4 → (∀ K4 : Act → World → Prop, (∀ a w, Q .normal a w → K4 a w) → (if Region.wanted o10 (yielded [o0, o1, o2, o3, o4, o5, o6, o7, o8, o9, o10].toArray a4.tmps) = true then Oper.wp P o10 a4 w4 K4 Q else K4 (a4.put o10.dst undef) w4)) → K3 a4 w4) → (if Region.wanted o9 (yielded [o0, o1, o2, o3, o4, o5, o6, o7, o8, o9, o10].toArray a3.tmps) = true then Oper.wp P o9 a3 w3 K3 Q else K3 (a3.put o9.dst undef) w3)) → K2 a3 w3) → (if Region.wanted o8 (yielded [o0, o1, o2, o3, o4, o5, o6, o7, o8, o9, o10].toArray a2.tmps) = true then Oper.wp P o8 a2 w2 K2 Q else K2 (a2.put o8.dst undef) w2)) → K1 a2 w2) → (if Region.wanted o7 (yielded [o0, o1, o2, o3, o4, o5, o6, o7, o8, o9, o10].toArray a1.tmps) = true then Oper.wp P o7 a1 w1 K1 Q else K1 (a1.put o7.dst undef) w1)) → K0 a1 w1) → (if Region.wanted o6 (yielded [o0, o1, o2, o3, o4, o5, o6, o7, o8, o9, o10].toArray a0.tmps) = true then Oper.wp P o6 a0 w.drew K0 Q else K0 (a0.put o6.dst undef) w.drew))) [o0, o1, o2, o3, o4, o5] a) :
    (Code.region id [o0, o1, o2, o3, o4, o5, o6, o7, o8, o9, o10].toArray true).wp P Q a w := by
  refine wp_region_till (S := S) (List.range 6) [o0, o1, o2, o3, o4, o5] 10 5 hm hsel rfl hB (show (Array.replicate 11 false).getD 10 true = false from by decide) rfl hQ hS ?_
  refine wpQuiet_mono (fun a0 h0 => ?_) _ a h
  refine wpTill_step hr0 rfl fun K0 hK0 => ?_
  refine h0 K0 fun a1 w1 hS1 h1 => hK0 a1 w1 hS1 ?_
  refine wpTill_step hr1 rfl fun K1 hK1 => ?_
  refine h1 K1 fun a2 w2 hS2 h2 => hK1 a2 w2 hS2 ?_
  refine wpTill_step hr2 rfl fun K2 hK2 => ?_
  refine h2 K2 fun a3 w3 hS3 h3 => hK2 a3 w3 hS3 ?_
  refine wpTill_step hr3 rfl fun K3 hK3 => ?_
  refine h3 K3 fun a4 w4 hS4 h4 => hK3 a4 w4 hS4 ?_
  exact wpTill_last hr4 rfl (show ((((((setAll (List.range 6) (Array.replicate 11 false)).setIfInBounds 6 true).setIfInBounds 7 true).setIfInBounds 8 true).setIfInBounds 9 true).setIfInBounds 10 true).getD 10 true = true from by decide) hr5 h4
end
end Go.Proofs.YtoanpkfekhkaoaaGreatDoor
