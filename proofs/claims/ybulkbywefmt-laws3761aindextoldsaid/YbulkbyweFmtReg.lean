import Derived.OrdersHeld
import Derived.Deep.Quiet
import Derived.Shelf.SlSortCmp.QuietGrown
namespace Go.Proofs.YbulkbyweFmt
open Go

section
variable {P : Program} {md : Region.Mode} {S : World → Prop} {Q : Exit → Act → World → Prop}

/-- What is asked ahead of a region's last operation. -/
def Behind (P : Program) (ops : Array Oper) (Q : Exit → Act → World → Prop) (o : Oper) : Exit → Act → World → Prop
  | .normal, a, w => wpList P ops Q [o] a w
  | e, a, w => Q e a w

theorem upon_behind {ops : Array Oper} {o o' : Oper} {a : Act} {K K' : Act → World → Prop} (hK : ∀ a w, K a w → K' a w) {r : Result Next} (h : o'.upon P a K (Behind P ops Q o) r) : o'.upon P a K' Q r := by
  cases r with
  | ok n w' =>
    cases n <;> simp only [Oper.upon] at h ⊢ <;>
      first
        | exact hK _ _ h
        | exact Calls.mono h (fun e w'' he => by cases e <;> first | exact hK _ _ he | exact he)
        | exact Rows.mono h (fun _ _ he => hK _ _ he)
  | halt x w' => cases x <;> simp only [Oper.upon] at h ⊢ <;> exact h

/-- The last operation waits, one through the other, for all the others, and nobody waits for what comes later. -/
def snocB (md : Region.Mode) (lh : List Oper) (o : Oper) : Bool :=
  ((List.range lh.length).all fun i => (o.after.any fun e => Region.binds md e && e.on == i) ||
    ((List.range lh.length).any fun j => decide (i < j) && (match lh[j]? with | some oj => oj.after.any fun e => Region.binds md e && e.on == i | none => false))) &&
  (o.after.all fun e => !Region.binds md e || decide (e.on < lh.length)) &&
  ((List.range lh.length).all fun i => match lh[i]? with
    | some oi => (oi.after.all fun e => !Region.binds md e || decide (e.on < i)) && (match oi.guard with | some (g, _) => decide (g < lh.length) | none => true)
    | none => true)

/-- What has come up has had all come up that it waits for. -/
def Closed (md : Region.Mode) (ops : Array Oper) (listed : Array Bool) : Prop :=
  ∀ j oj, ops[j]? = some oj → listed.getD j false = true → ∀ e ∈ oj.after, Region.binds md e = true → listed.getD e.on false = true

theorem Closed.set {ops : Array Oper} {listed : Array Bool} {i : Nat} (h : Closed md ops listed) (hi : i ∈ Region.ready md ops listed) : Closed md ops (listed.setIfInBounds i true) := by
  obtain ⟨_, oi, hoi, hall⟩ := mem_ready.1 hi
  intro j oj hj hl e he hb
  by_cases hij : i = j
  · subst hij
    have : oj = oi := Option.some.inj (hj.symm.trans hoi)
    subst this
    exact getD_set_true (hall e he hb)
  · rw [getD_set_ne false hij] at hl
    exact getD_set_true (h j oj hj hl e he hb)

theorem Closed.none (md : Region.Mode) (ops : Array Oper) (n : Nat) : Closed md ops (Array.replicate n false) := by
  intro j oj _ hl
  exfalso
  rcases Nat.lt_or_ge j n with h | h
  · simp [h] at hl
  · simp [h] at hl

theorem yielded_snoc {lh : List Oper} {o : Oper} {tmps : Array Value} {g : Nat} (hg : g < lh.length) : yielded (lh ++ [o]).toArray tmps g = yielded lh.toArray tmps g := by
  unfold yielded
  have : (lh ++ [o]).toArray[g]? = lh.toArray[g]? := by simp [List.getElem?_append_left hg]
  rw [this]

theorem any_snoc {lh : List Oper} {o : Oper} (hB : snocB md lh o = true) : ∀ (f : Nat) (listed : Array Bool) (a : Act) (w : World), listed.size = lh.length → Closed md lh.toArray listed →
    wpAny P md lh.toArray (Behind P (lh ++ [o]).toArray Q o) f listed a w → wpAny P md (lh ++ [o]).toArray Q (f + 1) (listed.push false) a w := by
  simp only [snocB, Bool.and_eq_true, List.all_eq_true, List.mem_range, Array.any_eq_true', Array.all_eq_true', Bool.or_eq_true, Bool.not_eq_true', decide_eq_true_eq, beq_iff_eq] at hB
  obtain ⟨⟨hlast0, hlb⟩, hhead⟩ := hB
  have hlast : ∀ listed : Array Bool, Closed md lh.toArray listed → (∀ e ∈ o.after, Region.binds md e = true → e.on < lh.length → listed.getD e.on false = true) → ∀ d i, lh.length - i = d → i < lh.length → listed.getD i false = true := by
    intro listed hcl hd d
    induction d using Nat.strongRecOn with
    | _ d ih =>
      intro i hdi hi
      rcases hlast0 i hi with ⟨e, he, hb, rfl⟩ | h2
      · exact hd e he hb hi
      · obtain ⟨j, hj, hj2⟩ := List.any_eq_true.1 h2
        simp only [Bool.and_eq_true, decide_eq_true_eq] at hj2
        have hjl : j < lh.length := List.mem_range.1 hj
        have hoj : lh[j]? = some lh[j] := List.getElem?_eq_getElem hjl
        rw [hoj] at hj2
        simp only [Array.any_eq_true', Bool.and_eq_true, beq_iff_eq] at hj2
        obtain ⟨hij, e, he, hb, hon⟩ := hj2
        have := hcl j lh[j] (by simp [hjl]) (ih (lh.length - j) (by omega) j rfl hjl) e he hb
        rwa [hon] at this
  have hat : ∀ i, i < lh.length → (lh ++ [o]).toArray[i]? = lh.toArray[i]? := fun i hi => by simp [List.getElem?_append_left hi]
  have hN : (lh ++ [o]).toArray[lh.length]? = some o := by simp
  have hback : ∀ (i : Nat) (oi : Oper), lh.toArray[i]? = some oi → ∀ e ∈ oi.after, Region.binds md e = true → e.on < i := by
    intro i oi hi e he hb
    have hi' : lh[i]? = some oi := by simpa using hi
    have hlt : i < lh.length := (List.getElem?_eq_some_iff.1 hi').1
    have := hhead i hlt
    rw [hi'] at this
    simp only [Bool.and_eq_true, Array.all_eq_true', Bool.or_eq_true, Bool.not_eq_true', decide_eq_true_eq] at this
    rcases this.1 e he with h | h
    · rw [hb] at h; cases h
    · exact h
  have hgd : ∀ (i : Nat) (oi : Oper), lh.toArray[i]? = some oi → ∀ (g : Nat) (b : Bool), oi.guard = some (g, b) → g < lh.length := by
    intro i oi hi g b hg
    have hi' : lh[i]? = some oi := by simpa using hi
    have hlt : i < lh.length := (List.getElem?_eq_some_iff.1 hi').1
    have := hhead i hlt
    rw [hi'] at this
    simp only [Bool.and_eq_true, hg, decide_eq_true_eq] at this
    exact this.2
  have hlb' : ∀ e ∈ o.after, Region.binds md e = true → e.on < lh.length := fun e he hb => by
    rcases hlb e he with h | h
    · rw [hb] at h; cases h
    · exact h
  have pushD : ∀ (listed : Array Bool) (i : Nat) (d : Bool), listed.size = lh.length → i < lh.length → (listed.push false).getD i d = listed.getD i d := fun listed i d hs hi => by
    simp [Array.getElem?_push, show i ≠ listed.size by omega]
  have pushN : ∀ (listed : Array Bool) (d : Bool), listed.size = lh.length → (listed.push false).getD lh.length d = false := fun listed d hs => by
    rw [← hs]; simp
  have rdy : ∀ (listed : Array Bool) (i : Nat), listed.size = lh.length → i < lh.length → i ∈ Region.ready md (lh ++ [o]).toArray (listed.push false) → i ∈ Region.ready md lh.toArray listed := fun listed i hs hi hr => by
    obtain ⟨h0, oi, hoi, hall⟩ := mem_ready.1 hr
    rw [hat i hi] at hoi
    rw [pushD listed i true hs hi] at h0
    refine mem_ready.2 ⟨h0, oi, hoi, fun e he hb => ?_⟩
    have := hall e he hb
    rwa [pushD listed e.on false hs (by have := hback i oi hoi e he hb; omega)] at this
  have rdy' : ∀ (listed : Array Bool) (i : Nat), listed.size = lh.length → i ∈ Region.ready md lh.toArray listed → i ∈ Region.ready md (lh ++ [o]).toArray (listed.push false) := fun listed i hs hr => by
    obtain ⟨h0, oi, hoi, hall⟩ := mem_ready.1 hr
    have hi : i < lh.length := by have := (Array.getElem?_eq_some_iff.1 hoi).1; simpa using this
    refine mem_ready.2 ⟨by rw [pushD listed i true hs hi]; exact h0, oi, by rw [hat i hi]; exact hoi, fun e he hb => ?_⟩
    rw [pushD listed e.on false hs (by have := hback i oi hoi e he hb; omega)]
    exact hall e he hb
  have least : ∀ (listed : Array Bool), listed.size = lh.length → Region.ready md lh.toArray listed = [] → ∀ i, i < lh.length → listed.getD i false = true := fun listed hs hr i => by
    induction i using Nat.strongRecOn with
    | _ i ih =>
      intro hi
      cases hl : listed.getD i false with
      | true => rfl
      | false =>
        obtain ⟨oi, hoi⟩ : ∃ oi, lh.toArray[i]? = some oi := ⟨lh[i], by simp [hi]⟩
        have : i ∈ Region.ready md lh.toArray listed := mem_ready.2 ⟨by
          have h' : i < listed.size := by omega
          simp [h'] at hl ⊢; exact hl, oi, hoi, fun e he hb => ih e.on (hback i oi hoi e he hb) (by have := hback i oi hoi e he hb; omega)⟩
        rw [hr] at this; cases this
  have core : ∀ (f : Nat) (listed : Array Bool) (a : Act) (w : World), listed.size = lh.length → Closed md lh.toArray listed → (Region.ready md lh.toArray listed = [] → Behind P (lh ++ [o]).toArray Q o .normal a w) →
      (∀ i ∈ Region.ready md lh.toArray listed, wpOp P (lh ++ [o]).toArray Q i (wpAny P md (lh ++ [o]).toArray Q f ((listed.push false).setIfInBounds i true)) a w) →
      wpAny P md (lh ++ [o]).toArray Q (f + 1) (listed.push false) a w := by
    intro f listed a w hs hcl h1 h2
    refine ⟨fun h0 => ?_, fun i hi => ?_⟩
    · exfalso
      by_cases hr : Region.ready md lh.toArray listed = []
      · have hall := least listed hs hr
        have : lh.length ∈ Region.ready md (lh ++ [o]).toArray (listed.push false) := mem_ready.2 ⟨pushN listed true hs, o, hN, fun e he hb => by
          rw [pushD listed e.on false hs (hlb' e he hb)]; exact hall _ (hlb' e he hb)⟩
        rw [h0] at this; cases this
      · obtain ⟨i, hi⟩ := List.exists_mem_of_ne_nil _ hr
        have := rdy' listed i hs hi
        rw [h0] at this; cases this
    · obtain ⟨h0, oi, hoi, hall⟩ := mem_ready.1 hi
      have hlt : i < lh.length + 1 := by have := (Array.getElem?_eq_some_iff.1 hoi).1; simpa using this
      by_cases c : i < lh.length
      · exact h2 i (rdy listed i hs c hi)
      · obtain rfl : i = lh.length := by omega
        rw [hN] at hoi
        cases hoi
        have all : ∀ i, i < lh.length → listed.getD i false = true := fun i hi => hlast listed hcl (fun e he hb hl => by
          have := hall e he hb
          rwa [pushD listed e.on false hs hl] at this) _ i rfl hi
        have hr : Region.ready md lh.toArray listed = [] := List.eq_nil_iff_forall_not_mem.2 fun i hi => by
          obtain ⟨g0, oi, goi, -⟩ := mem_ready.1 hi
          have hi' : i < lh.length := by have := (Array.getElem?_eq_some_iff.1 goi).1; simpa using this
          have g1 := all i hi'
          have h' : i < listed.size := by omega
          simp [h'] at g0 g1
          rw [g0] at g1; cases g1
        have hw := h1 hr
        have hr2 : Region.ready md (lh ++ [o]).toArray ((listed.push false).setIfInBounds lh.length true) = [] := List.eq_nil_iff_forall_not_mem.2 fun i hi => by
          obtain ⟨g0, oi, goi, -⟩ := mem_ready.1 hi
          have hi' : i < lh.length + 1 := by have := (Array.getElem?_eq_some_iff.1 goi).1; simpa using this
          by_cases c2 : i = lh.length
          · subst c2
            rw [Array.getD_eq_getD_getElem?, Array.getElem?_setIfInBounds_self_of_lt (by simp; omega)] at g0
            cases g0
          · rw [getD_set_ne true (Ne.symm c2), pushD listed i true hs (by omega)] at g0
            have g1 := all i (by omega)
            have h' : i < listed.size := by omega
            simp [h'] at g0 g1
            rw [g0] at g1; cases g1
        unfold wpOp
        simp only [hN]
        simp only [Behind, wpList] at hw
        split at hw
        · rename_i hwd
          simp only [hwd, if_true]
          exact hw.imp (Oper.wp_mono fun a' w' h => wpAny_done hr2 h _) id
        · rename_i hwd
          simp only [hwd]
          exact wpAny_done hr2 hw _
  intro f
  induction f with
  | zero =>
    intro listed a w hs hcl h
    exact core 0 listed a w hs hcl (fun _ => h.2) fun i hi => by rw [h.1] at hi; cases hi
  | succ f ih =>
    intro listed a w hs hcl h
    refine core (f + 1) listed a w hs hcl h.1 fun i hi => ?_
    have h2 := h.2 i hi
    obtain ⟨h0, oi, hoi, hall⟩ := mem_ready.1 hi
    have hlt : i < lh.length := by have := (Array.getElem?_eq_some_iff.1 hoi).1; simpa using this
    have hcomm : (listed.push false).setIfInBounds i true = (listed.setIfInBounds i true).push false := by
      apply Array.ext_getElem?
      intro j
      simp only [Array.getElem?_setIfInBounds, Array.getElem?_push, Array.size_push, Array.size_setIfInBounds]
      by_cases c1 : i = j
      · subst c1; simp [show i < listed.size by omega, show i ≠ listed.size by omega, show i < listed.size + 1 by omega]
      · simp [c1]
    rw [hcomm]
    unfold wpOp at h2 ⊢
    have hoi2 := hat i hlt
    rw [hoi] at hoi2
    simp only [hoi, hoi2] at h2 ⊢
    have hwd : Region.wanted oi (yielded (lh ++ [o]).toArray a.tmps) = Region.wanted oi (yielded lh.toArray a.tmps) := by
      unfold Region.wanted
      cases hg : oi.guard with
      | none => rfl
      | some gb =>
        obtain ⟨g, b⟩ := gb
        simp only []
        rw [yielded_snoc (hgd i oi hoi g b hg)]
    rw [hwd]
    split at h2
    · rename_i hw'
      simp only [hw', if_true]
      rcases h2 with h2 | ⟨h3, h4⟩
      · left
        exact upon_behind (fun a' w' h => ih (listed.setIfInBounds i true) a' w' (by simpa using hs) (hcl.set hi) h) h2
      · right
        obtain ⟨a', w', h5⟩ := h4
        exact ⟨h3, a', w', h5⟩
    · rename_i hw'
      simp only [hw']
      exact ih (listed.setIfInBounds i true) _ w (by simpa using hs) (hcl.set hi) h2

/-- A region whose last operation waits for all the others: the others first. -/
theorem wp_region_snoc {id : Nat} {a : Act} {w : World} {lh : List Oper} {o : Oper} (hm : P.follows .mixedOrders = true) (hB : snocB .any lh o = true)
    (h : wpAny P .any lh.toArray (Behind P (lh ++ [o]).toArray Q o) lh.length (Array.replicate lh.length false) a { w with drawn := w.drawn + 1 }) : (Code.region id (lh ++ [o]).toArray true).wp P Q a w := by
  refine wp_region_any hm ?_
  have := any_snoc hB _ _ a _ (by simp) (Closed.none _ _ _) h
  rw [show (Array.replicate lh.length false).push false = Array.replicate (lh ++ [o]).toArray.size false by simp [Array.replicate_succ]] at this
  simpa using this

/-- The operations that yield a value and call nobody. -/
def plainB (o : Oper) : Bool :=
  match o.op with
  | .move _ | .assign _ | .pick .. | .load .. | .binOp .. | .unOp .. | .convert .. | .slice .. | .fieldAddr .. | .indexAddr .. | .extract .. | .nilCheck _ | .build .. => true
  | .call c => (match c.callee with | .builtin .len | .builtin .cap => true | _ => false)
  | _ => false

theorem run_v {m : Sem Value} {w w' : World} {n : Next} (h : (do pure (Next.value (← m)) : Sem Next).run P w = .ok n w') : ∃ u, n = .value u := by
  rw [Sem.run_bind] at h
  cases hm : m.run P w with
  | ok u w1 => rw [hm] at h; simp at h; exact ⟨u, h.1.symm⟩
  | halt x w1 => rw [hm] at h; simp at h

theorem plain_value {o : Oper} {ρ : Operand → Value} {w w' : World} {n : Next} (hp : plainB o = true) (h : (execOp ρ o).run P w = .ok n w') : ∃ u, n = .value u := by
  unfold execOp at h
  unfold plainB at hp
  cases ho : o.op <;> rw [ho] at h hp <;> simp only [Bool.false_eq_true] at hp h
  case move x => simp at h; exact ⟨_, h.1.symm⟩
  case assign x => simp at h; exact ⟨_, h.1.symm⟩
  case pick c a b =>
    rw [Sem.run_bind] at h
    cases hm : (asBool (ρ c)).run P w with
    | ok u w1 => rw [hm] at h; simp at h; exact ⟨_, h.1.symm⟩
    | halt x w1 => rw [hm] at h; simp at h
  case load => exact run_v h
  case binOp => exact run_v h
  case unOp => exact run_v h
  case convert => exact run_v h
  case slice => exact run_v h
  case fieldAddr => exact run_v h
  case indexAddr => exact run_v h
  case extract => exact run_v h
  case build => exact run_v h
  case nilCheck x =>
    have hr : (runtimePanic .nilDeref : Sem Next).run P w = .ok n w' → False := fun hc => by
      unfold runtimePanic at hc
      rw [Sem.run_bind] at hc
      cases hq : (program).run P w with
      | ok p w1 => rw [hq] at hc; simp [goPanic] at hc
      | halt x w1 => rw [hq] at hc; simp at hc
    generalize ρ x = y at h
    split at h
    · exact (hr h).elim
    · exact (hr h).elim
    · exact (hr h).elim
    · split at h
      · exact (hr h).elim
      · rw [Sem.run_bind] at h
        cases hm : (program).run P w with
        | halt x w1 => rw [hm] at h; simp at h
        | ok p w1 =>
          rw [hm] at h
          simp only [Result.andThen_ok] at h
          rw [Sem.run_bind] at h
          generalize nilAhead _ _ _ _ = m at h
          cases hm2 : m.run P w1 with
          | halt x w2 => rw [hm2] at h; simp at h
          | ok b w2 =>
            rw [hm2] at h
            simp only [Result.andThen_ok] at h
            split at h
            · rw [Sem.run_bind] at h; simp [unsupported] at h
            · simp at h; exact ⟨_, h.1.symm⟩
      · simp at h; exact ⟨_, h.1.symm⟩
    · simp at h; exact ⟨_, h.1.symm⟩
  case call c =>
    obtain ⟨callee, args, ats⟩ := c
    cases callee with
    | builtin b =>
      cases b <;> simp only [Bool.false_eq_true] at hp
      · simp only [resolve, Sem.run_bind, Sem.run_pure, Result.andThen_ok, invoke, builtin] at h
        exact run_v (by rw [Sem.run_bind]; exact h)
      · simp only [resolve, Sem.run_bind, Sem.run_pure, Result.andThen_ok, invoke, builtin] at h
        exact run_v (by rw [Sem.run_bind]; exact h)
    | _ => simp at hp

theorem upon_turn {o : Oper} {a : Act} {K K' : Act → World → Prop} {Q1 Q2 : Exit → Act → World → Prop} (hQ : ∀ e a w, e ≠ .normal → Q1 e a w → Q2 e a w) (hK : ∀ a w, K a w → K' a w) {r : Result Next} (h : o.upon P a K Q1 r) : o.upon P a K' Q2 r := by
  have hL : LetsOut Q1 → LetsOut Q2 := fun ⟨a, w, h⟩ => ⟨a, w, hQ _ _ _ (by simp) h⟩
  cases r with
  | ok n w' =>
    cases n <;> simp only [Oper.upon] at h ⊢ <;>
      first
        | exact hK _ _ h
        | exact Calls.mono h (fun e w'' he => by cases e <;> first | exact hK _ _ he | exact hL he | exact hQ _ _ _ (by simp) he)
        | exact Rows.mono h (fun _ _ he => hK _ _ he)
  | halt x w' => cases x <;> simp only [Oper.upon] at h ⊢ <;> first | exact hQ _ _ _ (by simp) h | exact h

/-- These may be taken, one behind the other. -/
def takeB (md : Region.Mode) (ops : Array Oper) : List Nat → Array Bool → Bool
  | [], _ => true
  | i :: r, listed => Region.free md ops listed i && (Region.ready md ops listed).contains i && takeB md ops r (listed.setIfInBounds i true)

def takenL : List Nat → Array Bool → Array Bool
  | [], listed => listed
  | i :: r, listed => takenL r (listed.setIfInBounds i true)

theorem takes {ops : Array Oper} {C : World → Prop} {K : Act → Prop} (hsel : Region.noSelect ops = true) (hQ : ∀ c (a : Act) d v w, Q (.panic c) (a.put d v) w → Q (.panic c) a w) {w : World} (hC : C w) {f : Nat} :
    ∀ (is : List Nat) (L : List Oper) (listed : Array Bool) (a : Act), is.map (fun i => ops[i]?) = L.map some → L.all plainB = true → takeB md ops is listed = true → wpQuiet P ops C K L a →
      (∀ a', K a' → wpAnyH P md ops Q C f (takenL is listed) a' w) → wpAnyH P md ops Q C (is.length + f) listed a w
  | [], [], listed, a, _, _, _, h, hK => by rw [List.length_nil, Nat.zero_add]; exact hK a h
  | [], _ :: _, _, _, h0, _, _, _, _ => by simp at h0
  | _ :: _, [], _, _, h0, _, _, _, _ => by simp at h0
  | i :: r, o :: L, listed, a, h0, hp, ht, h, hK => by
    simp only [List.map_cons, List.cons.injEq] at h0
    simp only [List.all_cons, Bool.and_eq_true] at hp
    simp only [takeB, Bool.and_eq_true] at ht
    rw [show (i :: r).length + f = (r.length + f) + 1 by simp only [List.length_cons]; omega]
    simp only [wpQuiet] at h
    split at h
    · rename_i hw
      obtain ⟨v, hv, hr⟩ := h
      refine wpAnyH_take (i := i) (oi := o) (v := v) h0.1 hsel ht.1.1 ht.1.2 (fun c a w => hQ c a _ _ w) (Or.inl ⟨hw, fun w' hw' => ?_⟩) hC (takes hsel hQ hC r L _ _ h0.2 hp.2 ht.2 hr hK)
      have h1 := hv w' hw'
      unfold Oper.quietAt at h1
      cases hx : (execOp a.eval o).run P w' with
      | ok n w1 =>
        obtain ⟨u, rfl⟩ := plain_value hp.1 hx
        rw [hx] at h1
        simp only [Oper.quietUpon] at h1
        rw [h1.1, h1.2]
      | halt x w1 => rw [hx] at h1; simp only [Oper.quietUpon] at h1
    · rename_i hw
      exact wpAnyH_take (i := i) (oi := o) (v := undef) h0.1 hsel ht.1.1 ht.1.2 (fun c a w => hQ c a _ _ w) (Or.inr ⟨by simpa using hw, rfl⟩) hC (takes hsel hQ hC r L _ _ h0.2 hp.2 ht.2 h hK)

/-- Behind the one operation of the head that acts. -/
def AfterOne (P : Program) (ops1 ops : Array Oper) (C : World → Prop) (Q : Exit → Act → World → Prop) (L2 : List Oper) (o : Oper) : Exit → Act → World → Prop
  | .normal, a, w => C w ∧ wpQuiet P ops1 C (fun a3 => wpList P ops Q [o] a3 w) L2 a
  | e, a, w => Q e a w

/-- A REGION THAT DRAWS ITS ORDER AND HOLDS ONE OPERATION THAT ACTS (number c), beside operations that only look (is1 ahead of it, is2 behind it), and a last one that waits for all. -/
theorem wp_region_one {id : Nat} {a : Act} {w : World} {C : World → Prop} {lh : List Oper} {o oc : Oper} (c : Nat) (is1 is2 : List Nat) {L1 L2 : List Oper} (hm : P.follows .mixedOrders = true) (hB : snocB .any lh o = true) (hsel : Region.noSelect lh.toArray = true)
    (h1 : is1.map (fun i => lh.toArray[i]?) = L1.map some) (hc : lh.toArray[c]? = some oc) (h2 : is2.map (fun i => lh.toArray[i]?) = L2.map some) (hp1 : L1.all plainB = true) (hp2 : L2.all plainB = true)
    (ht1 : takeB .any lh.toArray is1 (Array.replicate lh.length false) = true) (hr1 : Region.ready .any lh.toArray (takenL is1 (Array.replicate lh.length false)) = [c])
    (ht2 : takeB .any lh.toArray is2 ((takenL is1 (Array.replicate lh.length false)).setIfInBounds c true) = true)
    (hr2 : Region.ready .any lh.toArray (takenL is2 ((takenL is1 (Array.replicate lh.length false)).setIfInBounds c true)) = [])
    (hlen : lh.length = is1.length + (is2.length + 0 + 1)) (hQ : ∀ c (a : Act) d v w, Q (.panic c) (a.put d v) w → Q (.panic c) a w) (hC : C w.drew)
    (h : wpQuiet P lh.toArray C (fun a1 => wpList P lh.toArray (AfterOne P lh.toArray (lh ++ [o]).toArray C Q L2 o) [oc] a1 w.drew) L1 a) : (Code.region id (lh ++ [o]).toArray true).wp P Q a w := by
  refine wp_region_snoc hm hB (wpAny_of_held (S := C) _ _ _ _ ?_)
  have hQ' : ∀ c (a : Act) d v w, Behind P (lh ++ [o]).toArray Q o (.panic c) (a.put d v) w → Behind P (lh ++ [o]).toArray Q o (.panic c) a w := fun c a d v w => hQ c a d v w
  rw [show lh.length = is1.length + (is2.length + 0 + 1) from hlen]
  rw [hlen] at ht1 hr1 ht2 hr2
  have hC' : C { w with drawn := w.drawn + 1 } := hC
  refine takes hsel hQ' hC' is1 L1 _ a h1 hp1 ht1 h fun a1 ha1 => ?_
  refine wpAnyH_all hr1 (by simp) fun i hi => ?_
  obtain rfl : i = c := by simpa using hi
  have fin : ∀ a2 w2, AfterOne P lh.toArray (lh ++ [o]).toArray C Q L2 o .normal a2 w2 → C w2 ∧ wpAnyH P .any lh.toArray (Behind P (lh ++ [o]).toArray Q o) C (is2.length + 0) ((takenL is1 (Array.replicate (is1.length + (is2.length + 0 + 1)) false)).setIfInBounds i true) a2 w2 := fun a2 w2 h3 =>
    ⟨h3.1, takes hsel hQ' h3.1 is2 L2 _ a2 h2 hp2 ht2 h3.2 fun a3 h4 => wpAnyH_done hr2 h4 _⟩
  have turn : ∀ e a w, e ≠ .normal → AfterOne P lh.toArray (lh ++ [o]).toArray C Q L2 o e a w → Behind P (lh ++ [o]).toArray Q o e a w := fun e a w he h => by
    cases e <;> first | exact absurd rfl he | exact h
  unfold wpOp
  simp only [hc]
  simp only [wpList] at ha1
  split at ha1
  · rename_i hw
    simp only [hw, if_true]
    rcases ha1 with h3 | ⟨h3, a', w', h4⟩
    · exact .inl (upon_turn turn fin h3)
    · exact .inr ⟨h3, a', w', h4⟩
  · rename_i hw
    simp only [hw]
    exact fin _ _ ha1

/-- The head only looks, and draws; the last operation acts. -/
theorem wp_region_lastC {id : Nat} {a : Act} {w : World} {C : World → Prop} {lh : List Oper} {o : Oper} (hm : P.follows .mixedOrders = true) (hB : snocB .any lh o = true) (hX : Region.lexB .any lh.toArray = true) (hC : C { w with drawn := w.drawn + 1 })
    (h : wpQuiet P lh.toArray C (fun a' => ∀ w', C w' → wpList P (lh ++ [o]).toArray Q [o] a' w') lh a) : (Code.region id (lh ++ [o]).toArray true).wp P Q a w := by
  refine wp_region_snoc hm hB ?_
  simp only [Region.lexB, Bool.and_eq_true] at hX
  have h2 : wpAnyQ P .any lh.toArray C (fun a' => ∀ w', C w' → wpList P (lh ++ [o]).toArray Q [o] a' w') lh.length (Array.replicate lh.length false) a :=
    wpAnyQ_lex (C := C) (md := .any) hX.1 lh 0 _ a (by simp) (by simpa using hX.2) h
  exact wpAny_of_quiet (C := C) (Q := fun a' => ∀ w', C w' → wpList P (lh ++ [o]).toArray Q [o] a' w') (Q' := Behind P (lh ++ [o]).toArray Q o) (fun a' w' hw' h => h w' hw') _ _ _ _ hC h2

theorem wp_region_last {id : Nat} {a : Act} {w : World} {l : List Oper} {o : Oper} (n : Nat) (hm : P.follows .mixedOrders = true) (hl : l.take n ++ [o] = l) (hB : snocB .any (l.take n) o = true) (hX : Region.lexB .any (l.take n).toArray = true)
    (h : wpQuiet P (l.take n).toArray (fun w' => ∃ n, w' = w.drewN n) (fun a' => ∀ w', (∃ n, w' = w.drewN n) → wpList P l.toArray Q [o] a' w') (l.take n) a) : (Code.region id l.toArray true).wp P Q a w := by
  have h2 := wp_region_lastC (id := id) (a := a) (w := w) (Q := Q) (C := fun w' => ∃ n, w' = w.drewN n) hm hB hX ⟨1, rfl⟩ (by rw [hl]; exact h)
  rw [hl] at h2
  exact h2

/-- 'wp_region_one', the operations written out. -/
theorem wp_region_one_lit {id : Nat} {a : Act} {w : World} {C : World → Prop} {l : List Oper} {o oc : Oper} (n c : Nat) (is1 is2 : List Nat) (hm : P.follows .mixedOrders = true) (hl : l.take n ++ [o] = l) (hc : (l.take n).toArray[c]? = some oc)
    (hB : snocB .any (l.take n) o = true) (hsel : Region.noSelect (l.take n).toArray = true)
    (h1 : is1.map (fun i => (l.take n).toArray[i]?) = (is1.filterMap fun i => l[i]?).map some) (h2 : is2.map (fun i => (l.take n).toArray[i]?) = (is2.filterMap fun i => l[i]?).map some)
    (hp1 : (is1.filterMap fun i => l[i]?).all plainB = true) (hp2 : (is2.filterMap fun i => l[i]?).all plainB = true)
    (ht1 : takeB .any (l.take n).toArray is1 (Array.replicate (l.take n).length false) = true) (hr1 : Region.ready .any (l.take n).toArray (takenL is1 (Array.replicate (l.take n).length false)) = [c])
    (ht2 : takeB .any (l.take n).toArray is2 ((takenL is1 (Array.replicate (l.take n).length false)).setIfInBounds c true) = true)
    (hr2 : Region.ready .any (l.take n).toArray (takenL is2 ((takenL is1 (Array.replicate (l.take n).length false)).setIfInBounds c true)) = [])
    (hlen : (l.take n).length = is1.length + (is2.length + 0 + 1)) (hQ : ∀ c (a : Act) d v w, Q (.panic c) (a.put d v) w → Q (.panic c) a w) (hC : C w.drew)
    (h : wpQuiet P (l.take n).toArray C (fun a1 => wpList P (l.take n).toArray (AfterOne P (l.take n).toArray l.toArray C Q (is2.filterMap fun i => l[i]?) o) [oc] a1 w.drew) (is1.filterMap fun i => l[i]?) a) : (Code.region id l.toArray true).wp P Q a w := by
  have := wp_region_one (id := id) (a := a) (w := w) (Q := Q) (C := C) (lh := l.take n) (o := o) (oc := oc) c is1 is2 hm hB hsel h1 hc h2 hp1 hp2 ht1 hr1 ht2 hr2 hlen hQ hC (by rw [hl]; exact h)
  rw [hl] at this
  exact this

/-- The class of the worlds that have grown. -/
theorem grown_drew (w : World) : ∃ p : GrownBy, w.drew = Sort.grow (w.drewN p.n) p.os := ⟨⟨1, #[]⟩, by rw [Sort.grow_empty]; rfl⟩
end
end Go.Proofs.YbulkbyweFmt
