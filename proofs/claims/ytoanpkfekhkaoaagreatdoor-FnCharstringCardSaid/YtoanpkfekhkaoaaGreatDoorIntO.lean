/-
  A law for a drawn region that reads, then makes a block, appends and stores into a cell that it has read: the reads are taken first; the condition on the world
  need not hold any more behind the last operation (number z, for which all others are waited).
-/
import Derived.Test.YtoanpkfekhkaoaaGreatDoorBase
import Derived.OrdersHeld
import Derived.Deep.Quiet
import Derived.StillTail
namespace Go.Proofs.YtoanpkfekhkaoaaGreatDoor
open Go Go.RowKit

section
variable {P : Program} {ops : Array Oper} {Q : Exit → Act → World → Prop} {md : Region.Mode} {S : World → Prop} {z : Nat}

/-- Whatever order is picked; S holds as long as number z is not listed. -/
def wpTill (P : Program) (md : Region.Mode) (ops : Array Oper) (Q : Exit → Act → World → Prop) (S : World → Prop) (z : Nat) : Nat → Array Bool → Act → World → Prop
  | 0, listed, a, w => Region.ready md ops listed = [] ∧ Q .normal a w
  | fuel + 1, listed, a, w =>
    (Region.ready md ops listed = [] → Q .normal a w) ∧
    ∀ i ∈ Region.ready md ops listed, wpOp P ops Q i (fun a' w' => ((listed.setIfInBounds i true).getD z true = false → S w') ∧ wpTill P md ops Q S z fuel (listed.setIfInBounds i true) a' w') a w

theorem wpAny_of_till : ∀ (fuel : Nat) (listed : Array Bool) (a : Act) (w : World), wpTill P md ops Q S z fuel listed a w → wpAny P md ops Q fuel listed a w
  | 0, _, _, _, h => h
  | fuel + 1, _, _, _, h => ⟨h.1, fun i hi => wpOp_mono (fun a' w' h' => wpAny_of_till fuel _ a' w' h'.2) (h.2 i hi)⟩

theorem wpTill_first {i : Nat} {oi oz : Oper} {v : Value} (hi : ops[i]? = some oi) (hsel : ∀ (j : Nat) (o : Oper) cs b, ops[j]? = some o → o.op ≠ .select cs b)
    (hQ : ∀ c a w, Q (.panic c) (a.put oi.dst v) w → Q (.panic c) a w) (hz : ops[z]? = some oz) (hzw : ∃ e ∈ oz.after, Region.binds md e = true ∧ e.on = i)
    (fuel : Nat) : ∀ (listed : Array Bool) (a : Act) (w : World),
      (∀ j oj, ops[j]? = some oj → j ≠ i → listed.getD j true = false → (∀ e ∈ oj.after, Region.binds md e = true → e.on ≠ i) → oi.apart ops oj = true) →
      i ∈ Region.ready md ops listed → listed.getD z true = false → YieldsIf P ops S oi v a → S w →
      wpTill P md ops Q S z fuel (listed.setIfInBounds i true) (a.put oi.dst v) w → wpTill P md ops Q S z (fuel + 1) listed a w := by
  induction fuel with
  | zero =>
    intro listed a w _ hr _ hy hS H
    refine ⟨fun h => absurd (h ▸ hr) (List.not_mem_nil), fun j hj => ?_⟩
    rcases Nat.decEq j i with hne | heq
    · have hm := ready_mono hj hne
      rw [H.1] at hm
      exact absurd hm (List.not_mem_nil)
    · subst heq
      exact hy.wpOp hi hS ⟨fun _ => hS, H⟩
  | succ fuel ih =>
    intro listed a w hfree hr hzl hy hS H
    refine ⟨fun h => absurd (h ▸ hr) (List.not_mem_nil), fun j hj => ?_⟩
    rcases Nat.decEq j i with hne | heq
    · have hun := (mem_ready.1 hr).1
      obtain ⟨hjl, oj, hoj, hall⟩ := mem_ready.1 hj
      -- an operation that may come up does not wait for one that has not come up
      have wait : ∀ {k : Nat} {ok : Oper}, ops[k]? = some ok → (∀ e ∈ ok.after, Region.binds md e = true → listed.getD e.on false = true) → ∀ e ∈ ok.after, Region.binds md e = true → e.on ≠ i := by
        intro k ok _ hk e he hb heq
        have h1 := hk e he hb
        rw [heq] at h1
        simp only [Array.getD_eq_getD_getElem?] at h1 hun
        cases hx : listed[i]? with
        | none => rw [hx] at h1; simp at h1
        | some b => rw [hx] at h1 hun; simp at h1 hun; rw [h1] at hun; cases hun
      have hjz : j ≠ z := by
        rintro rfl
        obtain ⟨e, he, hb, hon⟩ := hzw
        obtain rfl : oj = oz := Option.some.inj (hoj.symm.trans hz)
        exact wait hoj hall e he hb hon
      have hiz : i ≠ z := by
        rintro rfl
        obtain ⟨_, o2, ho2, hall2⟩ := mem_ready.1 hr
        obtain ⟨e, he, hb, hon⟩ := hzw
        obtain rfl : o2 = oz := Option.some.inj (ho2.symm.trans hz)
        exact wait ho2 hall2 e he hb hon
      have hstep := wpOp_putIf hoj (hfree j oj hoj hne hjl (wait hoj hall)) (fun cs b => hsel i oi cs b hi) (fun cs b => hsel j oj cs b hoj) hQ hy (H.2 j (ready_mono hj hne))
      refine wpOp_mono (fun a' w' hh => ?_) hstep
      obtain ⟨hy', hS', hT⟩ := hh
      have hzl' : (listed.setIfInBounds j true).getD z true = false := by rw [getD_set_ne true hjz]; exact hzl
      have hSw : S w' := hS' (by rw [getD_set_ne true hjz, getD_set_ne true hiz]; exact hzl)
      refine ⟨fun _ => hSw, ih (listed.setIfInBounds j true) a' w' ?_ (ready_mono hr (Ne.symm hne)) hzl' hy' hSw ?_⟩
      · intro k ok hk hki hul hno
        refine hfree k ok hk hki ?_ hno
        rcases Nat.decEq j k with hjk | hjk
        · rw [getD_set_ne true hjk] at hul; exact hul
        · subst hjk; exact hjl
      · rw [Array.setIfInBounds_comm _ _ hne]; exact hT
    · subst heq
      exact hy.wpOp hi hS ⟨fun _ => hS, H⟩

/-! ### Many takes at once -/
def plainOp : Op → Bool
  | .move _ | .assign _ | .load .. | .build .. | .fieldAddr .. | .nilCheck _ | .indexAddr .. | .binOp .. | .unOp .. | .convert .. | .slice .. | .extract .. => true
  | _ => false

theorem plain_value {o : Oper} {a : Act} {w : World} {v : Value} {C : World → Prop} (s : Sem Value) (he : execOp a.eval o = (do pure (Next.value (← s)))) (h : o.quietAt P a C w v) :
    (execOp a.eval o).run P w = .ok (.value v) w := by
  unfold Oper.quietAt at h
  rw [he] at h ⊢
  simp only [Sem.run_bind, Sem.run_pure] at h ⊢
  cases hs : s.run P w with
  | ok u w' =>
    rw [hs] at h
    simp only [Result.andThen_ok, Oper.quietUpon] at h ⊢
    obtain ⟨rfl, rfl⟩ := h
    rfl
  | halt x w' =>
    rw [hs] at h
    simp [Result.andThen, Oper.quietUpon] at h

theorem plain_run {o : Oper} {a : Act} {w : World} {v : Value} {C : World → Prop} (hp : plainOp o.op = true) (h : o.quietAt P a C w v) : (execOp a.eval o).run P w = .ok (.value v) w := by
  cases ho : o.op <;> rw [ho] at hp <;> simp only [plainOp, Bool.false_eq_true] at hp
  case move x =>
    have e : execOp a.eval o = pure (Next.value (a.eval x)) := by unfold execOp; rw [ho]
    unfold Oper.quietAt at h
    rw [e] at h ⊢
    simp only [Sem.run_pure, Oper.quietUpon] at h ⊢
    obtain ⟨_, rfl⟩ := h; rfl
  case assign x =>
    have e : execOp a.eval o = pure (Next.value (a.eval x)) := by unfold execOp; rw [ho]
    unfold Oper.quietAt at h
    rw [e] at h ⊢
    simp only [Sem.run_pure, Oper.quietUpon] at h ⊢
    obtain ⟨_, rfl⟩ := h; rfl
  case nilCheck x =>
    unfold Oper.quietAt at h
    generalize hx : a.eval x = u at *
    have key : ∀ r : Result Next, (∀ f l, r ≠ .ok (.enter f l) w) → (r ≠ .ok .skip w) → (∀ f l w', r = .ok (.enter f l) w' → False) → (∀ w', r = .ok .skip w' → False) → Oper.quietUpon P C w v r → r = .ok (.value v) w := by
      intro r _ _ h3 h4 hq
      cases r with
      | ok n w' =>
        cases n with
        | value u => simp only [Oper.quietUpon] at hq; obtain ⟨rfl, rfl⟩ := hq; rfl
        | skip => exact (h4 w' rfl).elim
        | enter f l => exact (h3 f l w' rfl).elim
        | _ => simp [Oper.quietUpon] at hq
      | halt _ _ => simp [Oper.quietUpon] at hq
    have hnv : ∀ n w', (execOp a.eval o).run P w = .ok n w' → ∃ u, n = .value u := by
      intro n w' hr
      unfold execOp at hr
      rw [ho] at hr
      simp only [hx] at hr
      split at hr
      · simp [runtimePanic, goPanic] at hr
      · simp [runtimePanic, goPanic] at hr
      · simp [runtimePanic, goPanic] at hr
      · split at hr
        · simp [runtimePanic, goPanic] at hr
        · simp only [Sem.run_bind] at hr
          cases hp : (program : Sem Program).run P w with
          | halt _ _ => rw [hp] at hr; simp [Result.andThen] at hr
          | ok p w1 =>
            rw [hp] at hr
            simp only [Result.andThen_ok] at hr
            rename_i t x _
            cases hn : (nilAhead (p.types.size + Made.depth) t x (by assumption)).run P w1 with
            | halt _ _ => rw [hn] at hr; simp [Result.andThen] at hr
            | ok b w2 =>
              rw [hn] at hr
              simp only [Result.andThen_ok] at hr
              split at hr
              · simp [unsupported] at hr
              · simp at hr; exact ⟨_, hr.1.symm⟩
        · simp at hr; exact ⟨_, hr.1.symm⟩
      · simp at hr; exact ⟨_, hr.1.symm⟩
    exact key _ (fun f l e => by obtain ⟨u, hu⟩ := hnv _ _ e; cases hu) (fun e => by obtain ⟨u, hu⟩ := hnv _ _ e; cases hu) (fun f l w' e => by obtain ⟨u, hu⟩ := hnv _ _ e; cases hu) (fun w' e => by obtain ⟨u, hu⟩ := hnv _ _ e; cases hu) h
  all_goals exact plain_value _ (by unfold execOp; rw [ho]) h

theorem wpQuiet_mono {R R' : Act → Prop} (h : ∀ a, R a → R' a) : ∀ (l : List Oper) (a : Act), wpQuiet P ops S R l a → wpQuiet P ops S R' l a
  | [], a, hq => h a hq
  | o :: l, a, hq => by
    unfold wpQuiet at hq ⊢
    split
    · rename_i hw
      rw [if_pos hw] at hq
      obtain ⟨v, h1, h2⟩ := hq
      exact ⟨v, h1, wpQuiet_mono h l _ h2⟩
    · rename_i hw
      rw [if_neg hw] at hq
      exact wpQuiet_mono h l _ hq

def takesB (md : Region.Mode) (ops : Array Oper) (z : Nat) : List Nat → Array Bool → Bool
  | [], _ => true
  | i :: r, listed => Region.free md ops listed i && (Region.ready md ops listed).contains i && Region.waitsFor md ops z i && ((ops[i]?).map fun o => plainOp o.op).getD false && takesB md ops z r (listed.setIfInBounds i true)
def setAll : List Nat → Array Bool → Array Bool
  | [], listed => listed
  | i :: r, listed => setAll r (listed.setIfInBounds i true)

theorem wpTill_takes (hsel : Region.noSelect ops = true) (hQ : ∀ c a d v w, Q (.panic c) (Act.put a d v) w → Q (.panic c) a w) {fuel : Nat} {w : World} (hS : S w) :
    ∀ (is : List Nat) (lst : List Oper) (listed : Array Bool) (a : Act), is.map (fun i => ops[i]?) = lst.map some → takesB md ops z is listed = true → listed.getD z true = false →
      wpQuiet P ops S (fun a' => wpTill P md ops Q S z fuel (setAll is listed) a' w) lst a → wpTill P md ops Q S z (fuel + is.length) listed a w
  | [], lst, listed, a, hl, _, _, h => by
    cases lst with
    | nil => exact h
    | cons _ _ => simp at hl
  | i :: is, lst, listed, a, hl, hB, hz, h => by
    cases lst with
    | nil => simp at hl
    | cons o lst =>
      simp only [List.map_cons, List.cons.injEq] at hl
      obtain ⟨hi, hl⟩ := hl
      simp only [takesB, Bool.and_eq_true] at hB
      obtain ⟨⟨⟨⟨hf, hr⟩, hw⟩, hp⟩, hB⟩ := hB
      rw [hi] at hp
      simp only [Option.map_some, Option.getD_some] at hp
      obtain ⟨oz, hoz, hwz⟩ := Region.waitsFor_spec hw
      have hrm : i ∈ Region.ready md ops listed := by simpa using hr
      have hiz : i ≠ z := by
        rintro rfl
        obtain ⟨hun, o2, ho2, hall⟩ := mem_ready.1 hrm
        obtain rfl : o2 = oz := Option.some.inj (ho2.symm.trans hoz)
        obtain ⟨e, he, hb, hon⟩ := hwz
        have h1 := hall e he hb
        rw [hon] at h1
        simp only [Array.getD_eq_getD_getElem?] at h1 hun
        cases hx : listed[i]? with
        | none => rw [hx] at h1; simp at h1
        | some b => rw [hx] at h1 hun; simp at h1 hun; rw [h1] at hun; cases hun
      have hz' : (listed.setIfInBounds i true).getD z true = false := by rw [getD_set_ne true hiz]; exact hz
      have next : ∀ v, YieldsIf P ops S o v a → wpQuiet P ops S (fun a' => wpTill P md ops Q S z fuel (setAll is (listed.setIfInBounds i true)) a' w) lst (a.put o.dst v) →
          wpTill P md ops Q S z (fuel + (i :: is).length) listed a w := by
        intro v hy hq
        exact wpTill_first hi (Region.noSelect_spec hsel) (fun c a w => hQ c a o.dst v w) hoz hwz (fuel + is.length) listed a w (Region.free_spec hi hf) hrm hz hy hS
          (wpTill_takes hsel hQ hS is lst _ _ hl hB hz' hq)
      simp only [wpQuiet] at h
      split at h
      · rename_i hwant
        obtain ⟨v, h1, h2⟩ := h
        exact next v (Or.inl ⟨hwant, fun w' hw' => plain_run hp (h1 w' hw')⟩) h2
      · rename_i hwant
        exact next undef (Or.inr ⟨by simpa using hwant, rfl⟩) h

theorem wp_region_till {id : Nat} {l : List Oper} {a : Act} {w : World} (is : List Nat) (lst : List Oper) (z fuel : Nat) (hm : P.follows .mixedOrders = true) (hsel : Region.noSelect l.toArray = true)
    (hl : is.map (fun i => l.toArray[i]?) = lst.map some) (hB : takesB .any l.toArray z is (Array.replicate l.toArray.size false) = true) (hz : (Array.replicate l.toArray.size false).getD z true = false)
    (hn : l.toArray.size = fuel + is.length) (hQ : ∀ c a d v w, Q (.panic c) (Act.put a d v) w → Q (.panic c) a w) (hS : S w.drew)
    (h : wpQuiet P l.toArray S (fun a' => wpTill P .any l.toArray Q S z fuel (setAll is (Array.replicate l.toArray.size false)) a' w.drew) lst a) : (Code.region id l.toArray true).wp P Q a w := by
  refine wp_region_any hm (wpAny_of_till _ _ _ _ (S := S) (z := z) ?_)
  have := wpTill_takes (md := .any) hsel hQ hS is lst _ a hl hB hz h
  rw [← hn] at this
  exact this

/-- One read of the walk. -/
theorem wpQ_one {o : Oper} {rest : List Oper} {R : Act → Prop} {a : Act} {v : Value} (hw : Region.wanted o (yielded ops a.tmps) = true) (hr : ∀ w, S w → (execOp a.eval o).run P w = .ok (.value v) w)
    (h : wpQuiet P ops S R rest (a.put o.dst v)) : wpQuiet P ops S R (o :: rest) a := by
  unfold wpQuiet
  rw [if_pos hw]
  refine ⟨v, fun w hS => ?_, h⟩
  unfold Oper.quietAt
  rw [hr w hS]
  exact ⟨rfl, rfl⟩
theorem wpQ_skip {o : Oper} {rest : List Oper} {R : Act → Prop} {a : Act} (hw : Region.wanted o (yielded ops a.tmps) = false) (h : wpQuiet P ops S R rest (a.put o.dst undef)) : wpQuiet P ops S R (o :: rest) a := by
  unfold wpQuiet
  rw [if_neg (by rw [hw]; decide)]
  exact h

/-- Behind the reads: one operation comes up, no other. -/
theorem wpTill_step {i : Nat} {o : Oper} {fuel : Nat} {listed : Array Bool} {a : Act} {w : World} (hr : Region.ready md ops listed = [i]) (ho : ops[i]? = some o)
    (h : ∀ K : Act → World → Prop, (∀ a w, S w → wpTill P md ops Q S z fuel (listed.setIfInBounds i true) a w → K a w) → if Region.wanted o (yielded ops a.tmps) = true then Oper.wp P o a w K Q else K (a.put o.dst undef) w) :
    wpTill P md ops Q S z (fuel + 1) listed a w := by
  refine ⟨fun h0 => (by rw [h0] at hr; cases hr), fun j hj => ?_⟩
  rw [hr] at hj
  obtain rfl := List.mem_singleton.1 hj
  have h1 := h (fun a' w' => ((listed.setIfInBounds j true).getD z true = false → S w') ∧ wpTill P md ops Q S z fuel (listed.setIfInBounds j true) a' w') (fun a w hS hT => ⟨fun _ => hS, hT⟩)
  unfold wpOp
  simp only [ho]
  split
  · rename_i hw; rw [if_pos hw] at h1; exact .inl h1
  · rename_i hw; rw [if_neg hw] at h1; exact h1
/-- The last operation, number z. -/
theorem wpTill_last {o : Oper} {listed : Array Bool} {a : Act} {w : World} (hr : Region.ready md ops listed = [z]) (ho : ops[z]? = some o) (hl : (listed.setIfInBounds z true).getD z true = true)
    (hd : Region.ready md ops (listed.setIfInBounds z true) = [])
    (h : ∀ K : Act → World → Prop, (∀ a w, Q .normal a w → K a w) → if Region.wanted o (yielded ops a.tmps) = true then Oper.wp P o a w K Q else K (a.put o.dst undef) w) :
    wpTill P md ops Q S z 1 listed a w := by
  refine ⟨fun h0 => (by rw [h0] at hr; cases hr), fun j hj => ?_⟩
  rw [hr] at hj
  obtain rfl := List.mem_singleton.1 hj
  have h1 := h (fun a' w' => ((listed.setIfInBounds j true).getD j true = false → S w') ∧ wpTill P md ops Q S j 0 (listed.setIfInBounds j true) a' w') (fun a w hT => ⟨fun e => (by rw [hl] at e; cases e), hd, hT⟩)
  unfold wpOp
  simp only [ho]
  split
  · rename_i hw; rw [if_pos hw] at h1; exact .inl h1
  · rename_i hw; rw [if_neg hw] at h1; exact h1

/-- The region of 27 operations: number 22 makes a block, 23 appends, 26 stores; the others read. -/
theorem wp_region_27 {id : Nat} {o0 o1 o2 o3 o4 o5 o6 o7 o8 o9 o10 o11 o12 o13 o14 o15 o16 o17 o18 o19 o20 o21 o22 o23 o24 o25 o26 : Oper} {a : Act} {w : World} (hm : P.follows .mixedOrders = true)
    (hsel : Region.noSelect [o0, o1, o2, o3, o4, o5, o6, o7, o8, o9, o10, o11, o12, o13, o14, o15, o16, o17, o18, o19, o20, o21, o22, o23, o24, o25, o26].toArray = true)
    (hB : takesB .any [o0, o1, o2, o3, o4, o5, o6, o7, o8, o9, o10, o11, o12, o13, o14, o15, o16, o17, o18, o19, o20, o21, o22, o23, o24, o25, o26].toArray 26 (List.range 22) (Array.replicate 27 false) = true)
    (hr0 : Region.ready .any [o0, o1, o2, o3, o4, o5, o6, o7, o8, o9, o10, o11, o12, o13, o14, o15, o16, o17, o18, o19, o20, o21, o22, o23, o24, o25, o26].toArray (setAll (List.range 22) (Array.replicate 27 false)) = [22])
    (hr1 : Region.ready .any [o0, o1, o2, o3, o4, o5, o6, o7, o8, o9, o10, o11, o12, o13, o14, o15, o16, o17, o18, o19, o20, o21, o22, o23, o24, o25, o26].toArray ((setAll (List.range 22) (Array.replicate 27 false)).setIfInBounds 22 true) = [23])
    (hr2 : Region.ready .any [o0, o1, o2, o3, o4, o5, o6, o7, o8, o9, o10, o11, o12, o13, o14, o15, o16, o17, o18, o19, o20, o21, o22, o23, o24, o25, o26].toArray (((setAll (List.range 22) (Array.replicate 27 false)).setIfInBounds 22 true).setIfInBounds 23 true) = [24])
    (hr3 : Region.ready .any [o0, o1, o2, o3, o4, o5, o6, o7, o8, o9, o10, o11, o12, o13, o14, o15, o16, o17, o18, o19, o20, o21, o22, o23, o24, o25, o26].toArray ((((setAll (List.range 22) (Array.replicate 27 false)).setIfInBounds 22 true).setIfInBounds 23 true).setIfInBounds 24 true) = [25])
    (hr4 : Region.ready .any [o0, o1, o2, o3, o4, o5, o6, o7, o8, o9, o10, o11, o12, o13, o14, o15, o16, o17, o18, o19, o20, o21, o22, o23, o24, o25, o26].toArray (((((setAll (List.range 22) (Array.replicate 27 false)).setIfInBounds 22 true).setIfInBounds 23 true).setIfInBounds 24 true).setIfInBounds 25 true) = [26])
    (hr5 : Region.ready .any [o0, o1, o2, o3, o4, o5, o6, o7, o8, o9, o10, o11, o12, o13, o14, o15, o16, o17, o18, o19, o20, o21, o22, o23, o24, o25, o26].toArray ((((((setAll (List.range 22) (Array.replicate 27 false)).setIfInBounds 22 true).setIfInBounds 23 true).setIfInBounds 24 true).setIfInBounds 25 true).setIfInBounds 26 true) = [])
    (hQ : ∀ c a d v w, Q (.panic c) (Act.put a d v) w → Q (.panic c) a w) (hS : S w.drew)
    (h : wpQuiet P [o0, o1, o2, o3, o4, o5, o6, o7, o8, o9, o10, o11, o12, o13, o14, o15, o16, o17, o18, o19, o20, o21, o22, o23, o24, o25, o26].toArray S (fun a0 => (∀ K0 : Act → World → Prop, (∀ a1 w1, S w1 → (∀ K1 : Act → World → Prop, (∀ a2 w2, S w2 → (∀ K2 : Act → World → Prop, (∀ a3 w3, S w3 → (∀ K3 : Act → World → Prop, (∀ a4 w4, S w4 → (∀ K4 : Act → World → Prop, (∀ a w, Q .normal a w → K4 a w) → (if Region.wanted o26 (yielded [o0, o1, o2, o3, o4, o5, o6, o7, o8, o9, o10, o11, o12, o13, o14, o15, o16, o17, o18, o19, o20, o21, o22, o23, o24, o25, o26].toArray a4.tmps) = true then Oper.wp P o26 a4 w4 K4 Q else K4 (a4.put o26.dst undef) w4)) → K3 a4 w4) → (if Region.wanted o25 (yielded [o0, o1, o2, o3, o4, o5, o6, o7, o8, o9, o10, o11, o12, o13, o14, o15, o16, o17, o18, o19, o20, o21, o22, o23, o24, o25, o26].toArray a3.tmps) = true then Oper.wp P o25 a3 w3 K3 Q else K3 (a3.put o25.dst undef) w3)) → K2 a3 w3) → (if Region.wanted o24 (yielded [o0, o1, o2, o3, o4, o5, o6, o7, o8, o9, o10, o11, o12, o13, o14, o15, o16, o17, o18, o19, o20, o21, o22, o23, o24, o25, o26].toArray a2.tmps) = true then Oper.wp P o24 a2 w2 K2 Q else K2 (a2.put o24.dst undef) w2)) → K1 a2 w2) → (if Region.wanted o23 (yielded [o0, o1, o2, o3, o4, o5, o6, o7, o8, o9, o10, o11, o12, o13, o14, o15, o16, o17, o18, o19, o20, o21, o22, o23, o24, o25, o26].toArray a1.tmps) = true then Oper.wp P o23 a1 w1 K1 Q else K1 (a1.put o23.dst undef) w1)) → K0 a1 w1) → (if Region.wanted o22 (yielded [o0, o1, o2, o3, o4, o5, o6, o7, o8, o9, o10, o11, o12, o13, o14, o15, o16, o17, o18, o19, o20, o21, o22, o23, o24, o25, o26].toArray a0.tmps) = true then Oper.wp P o22 a0 w.drew K0 Q else K0 (a0.put o22.dst undef) w.drew))) [o0, o1, o2, o3, o4, o5, o6, o7, o8, o9, o10, o11, o12, o13, o14, o15, o16, o17, o18, o19, o20, o21] a) :
    (Code.region id [o0, o1, o2, o3, o4, o5, o6, o7, o8, o9, o10, o11, o12, o13, o14, o15, o16, o17, o18, o19, o20, o21, o22, o23, o24, o25, o26].toArray true).wp P Q a w := by
  refine wp_region_till (S := S) (List.range 22) [o0, o1, o2, o3, o4, o5, o6, o7, o8, o9, o10, o11, o12, o13, o14, o15, o16, o17, o18, o19, o20, o21] 26 5 hm hsel rfl hB (show (Array.replicate 27 false).getD 26 true = false from by decide) rfl hQ hS ?_
  refine wpQuiet_mono (fun a0 h0 => ?_) _ a h
  refine wpTill_step hr0 rfl fun K0 hK0 => ?_
  refine h0 K0 fun a1 w1 hS1 h1 => hK0 a1 w1 hS1 ?_
  refine wpTill_step hr1 rfl fun K1 hK1 => ?_
  refine h1 K1 fun a2 w2 hS2 h2 => hK1 a2 w2 hS2 ?_
  refine wpTill_step hr2 rfl fun K2 hK2 => ?_
  refine h2 K2 fun a3 w3 hS3 h3 => hK2 a3 w3 hS3 ?_
  refine wpTill_step hr3 rfl fun K3 hK3 => ?_
  refine h3 K3 fun a4 w4 hS4 h4 => hK3 a4 w4 hS4 ?_
  exact wpTill_last hr4 rfl (show ((((((setAll (List.range 22) (Array.replicate 27 false)).setIfInBounds 22 true).setIfInBounds 23 true).setIfInBounds 24 true).setIfInBounds 25 true).setIfInBounds 26 true).getD 26 true = true from by decide) hr5 h4
end
end Go.Proofs.YtoanpkfekhkaoaaGreatDoor
