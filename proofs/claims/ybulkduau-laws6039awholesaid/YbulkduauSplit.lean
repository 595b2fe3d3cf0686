/-
  A REGION THAT DRAWS ITS ORDER: FIRST WHAT ONLY READS (one quiet walk, 'pre'), THEN A TAIL THAT CAN GO IN ONE ORDER ALONE (a plain walk, 'tail').
  'pre' and 'tail' are lists of the operations' numbers. A Bool over the region ('splitB') holds that whatever order the tape picks, it comes to this one.
  No project text.
-/
import Derived.OrdersHeld
import Derived.BigQuiet
import Derived.Deep.Quiet
import Derived.WalkKit
namespace Go.Split
section
variable {P : Program} {ops : Array Oper} {Q : Exit → Act → World → Prop} {md : Region.Mode} {C : World → Prop} {t : Nat}

/-- In state 'a' the operation 'o' leaves 'v' in its temporary and the world as it was: in every world that meets R, or ('aw' false) in whatever world. -/
def YT (P : Program) (ops : Array Oper) (R : World → Prop) (aw : Bool) (o : Oper) (v : Value) (a : Act) : Prop :=
  (Region.wanted o (yielded ops a.tmps) = true ∧ ∀ w, (aw = true → R w) → o.quietAt P a (fun w' => w' = w) w v) ∨
  (Region.wanted o (yielded ops a.tmps) = false ∧ v = undef)

theorem YT.wpOp {R : World → Prop} {aw : Bool} {i : Nat} {o : Oper} {v : Value} {a : Act} (hi : ops[i]? = some o) (hy : YT P ops R aw o v a)
    {K : Act → World → Prop} {w : World} (hS : aw = true → R w) (h : K (a.put o.dst v) w) : wpOp P ops Q i K a w := by
  unfold Go.wpOp
  simp only [hi]
  rcases hy with ⟨hw, hv⟩ | ⟨hw, rfl⟩
  · simp only [hw, if_true]
    exact .inl (Oper.wp_of_quiet (C := fun w' => w' = w) (K := fun a' => a' = a.put o.dst v) rfl (fun a' w' hw' ha => by rw [ha, hw']; exact h) ⟨v, fun w' hw' => by rw [hw']; exact hv w hS, rfl⟩)
  · simp only [hw, Bool.false_eq_true, if_false]; exact h

theorem YT.of_same {R : World → Prop} {aw : Bool} {o : Oper} {v : Value} {a a' : Act} (hy : YT P ops R aw o v a) (he : execOp a'.eval o = execOp a.eval o)
    (hw : Region.wanted o (yielded ops a'.tmps) = Region.wanted o (yielded ops a.tmps)) : YT P ops R aw o v a' := by
  unfold YT Oper.quietAt at *
  rw [he, hw]
  exact hy

theorem wpOp_putT {R : World → Prop} {aw : Bool} {j : Nat} {oi oj : Oper} {v : Value} (hj : ops[j]? = some oj) (hap : oi.apart ops oj = true)
    (hsi : ∀ cs b, oi.op ≠ .select cs b) (hsj : ∀ cs b, oj.op ≠ .select cs b)
    (hQ : ∀ c a w, Q (.panic c) (a.put oi.dst v) w → Q (.panic c) a w) {K : Act → World → Prop} {a : Act} {w : World}
    (hy : YT P ops R aw oi v a) (h : wpOp P ops Q j K (a.put oi.dst v) w) :
    wpOp P ops Q j (fun a' w' => YT P ops R aw oi v a' ∧ K (a'.put oi.dst v) w') a w := by
  obtain ⟨h1, h2, h3⟩ := Oper.apart_spec hap
  have keep : ∀ (a : Act), YT P ops R aw oi v a → ∀ u, YT P ops R aw oi v (a.put oj.dst u) := fun a hy u =>
    hy.of_same (execOp_put oi hsi a oj.dst u h3) (wanted_put oi a oj.dst u h3)
  have keepD : ∀ d, YT P ops R aw oi v { a with defers := d :: a.defers } := fun d => hy.of_same rfl rfl
  unfold wpOp at *
  simp only [hj] at *
  rw [wanted_put oj a oi.dst v h1] at h
  split
  · rename_i hw
    simp only [hw, if_true] at h
    rcases h with h | ⟨hasks, hlets⟩
    case inr => exact .inr ⟨by unfold Oper.asks at *; rw [execOp_put oj hsj a oi.dst v h1] at hasks; exact hasks, hlets⟩
    refine .inl ?_
    unfold Oper.wp at *
    rw [execOp_put oj hsj a oi.dst v h1] at h
    generalize (execOp a.eval oj).run P w = r at *
    cases r with
    | ok n w' =>
      cases n <;> simp only [Oper.upon] at h ⊢
      case value u => exact ⟨keep a hy u, by rw [← Act.put_comm a v u h2]; exact h⟩
      case skip => exact ⟨keep a hy _, by rw [← Act.put_comm a v undef h2]; exact h⟩
      case defer d =>
        refine ⟨keep _ (keepD d) _, ?_⟩
        rw [← Act.put_comm _ v undef h2, ← Act.put_defers]
        exact h
      case enter f args =>
        refine Calls.mono h fun e w'' he => ?_
        cases e with
        | returned u => exact ⟨keep a hy u, by rw [← Act.put_comm a v u h2]; exact he⟩
        | panicked c => exact hQ _ _ _ he
        | outgrown => exact he
      case row row args => exact Rows.mono h fun u w'' he => ⟨keep a hy u, by rw [← Act.put_comm a v u h2]; exact he⟩
    | halt x w' =>
      cases x <;> simp only [Oper.upon] at h ⊢
      case panic u => exact hQ _ _ _ h
  · rename_i hw
    simp only [hw] at h
    exact ⟨keep a hy _, by rw [← Act.put_comm a v undef h2]; exact h⟩

/-- Whatever order is picked from here on; as long as number 't' has not come up the world meets R. -/
def wpAnyT (P : Program) (md : Region.Mode) (ops : Array Oper) (Q : Exit → Act → World → Prop) (R : World → Prop) (t : Nat) : Nat → Array Bool → Act → World → Prop
  | 0, listed, a, w => Region.ready md ops listed = [] ∧ Q .normal a w
  | fuel + 1, listed, a, w =>
    (Region.ready md ops listed = [] → Q .normal a w) ∧
    ∀ i ∈ Region.ready md ops listed, wpOp P ops Q i (fun a' w' => ((listed.setIfInBounds i true).getD t true = false → R w') ∧ wpAnyT P md ops Q R t fuel (listed.setIfInBounds i true) a' w') a w

theorem wpAny_of_T {R : World → Prop} : ∀ (fuel : Nat) (listed : Array Bool) (a : Act) (w : World), wpAnyT P md ops Q R t fuel listed a w → wpAny P md ops Q fuel listed a w
  | 0, _, _, _, h => h
  | fuel + 1, _, _, _, h => ⟨h.1, fun i hi => wpOp_mono (fun a' w' h' => wpAny_of_T fuel _ a' w' h'.2) (h.2 i hi)⟩

/-- Whoever has come up has had before it all that it waits for. -/
def Closed (md : Region.Mode) (ops : Array Oper) (listed : Array Bool) : Prop :=
  ∀ j o, ops[j]? = some o → listed.getD j true = true → ∀ e ∈ o.after, Region.binds md e = true → listed.getD e.on false = true

theorem Closed.start (md : Region.Mode) (ops : Array Oper) : Closed md ops (Array.replicate ops.size false) := by
  intro j o ho hj
  have hlt : j < ops.size := (Array.getElem?_eq_some_iff.1 ho).1
  simp [hlt] at hj

theorem Closed.step {listed : Array Bool} (h : Closed md ops listed) {i : Nat} (hi : i ∈ Region.ready md ops listed) : Closed md ops (listed.setIfInBounds i true) := by
  intro j o ho hj e he hb
  obtain ⟨_, oi, hoi, hall⟩ := mem_ready.1 hi
  by_cases hij : i = j
  · subst hij
    rw [ho] at hoi
    obtain rfl := Option.some.inj hoi
    exact getD_set_true (hall e he hb)
  · rw [getD_set_ne true hij] at hj
    exact getD_set_true (h j o ho hj e he hb)

/-- Number 'j' waits for number 'i', straight or through others. -/
def reachB (md : Region.Mode) (ops : Array Oper) (i : Nat) : Nat → Nat → Bool
  | 0, j => j == i
  | n + 1, j => j == i || match ops[j]? with
    | some o => o.after.any fun e => Region.binds md e && reachB md ops i n e.on
    | none => false

theorem reachB_spec {i : Nat} {listed : Array Bool} (hc : Closed md ops listed) (hi : listed.getD i true = false) : ∀ (n j : Nat), reachB md ops i n j = true → listed.getD j true = false
  | 0, j, h => by
    simp [reachB] at h; subst h; exact hi
  | n + 1, j, h => by
    simp only [reachB, Bool.or_eq_true, beq_iff_eq] at h
    rcases h with rfl | h
    · exact hi
    · cases ho : ops[j]? with
      | none => simp [ho] at h
      | some o =>
        simp only [ho, Array.any_eq_true, Bool.and_eq_true] at h
        obtain ⟨k, hk, hb, hr⟩ := h
        have h1 := reachB_spec hc hi n _ hr
        cases hj : listed.getD j true with
        | false => rfl
        | true =>
          have h2 := hc j o ho hj _ (Array.getElem_mem hk) hb
          rw [Array.getD_eq_getD_getElem?] at h1 h2
          cases hx : listed[(o.after[k]).on]? <;> rw [hx] at h1 h2 <;> simp_all

theorem wpAnyT_first {R : World → Prop} {aw : Bool} {i : Nat} {oi : Oper} {v : Value} (hi : ops[i]? = some oi) (hsel : ∀ (j : Nat) (o : Oper) cs b, ops[j]? = some o → o.op ≠ .select cs b)
    (hQ : ∀ c a w, Q (.panic c) (a.put oi.dst v) w → Q (.panic c) a w) (hit : i ≠ t)
    (haw : aw = true → ∀ L, Closed md ops L → L.getD i true = false → L.getD t true = false) :
    ∀ (fuel : Nat) (listed : Array Bool) (a : Act) (w : World), Closed md ops listed →
      (∀ j oj, ops[j]? = some oj → j ≠ i → listed.getD j true = false → (∀ e ∈ oj.after, Region.binds md e = true → e.on ≠ i) → oi.apart ops oj = true) →
      i ∈ Region.ready md ops listed → YT P ops R aw oi v a → (listed.getD t true = false → R w) →
      wpAnyT P md ops Q R t fuel (listed.setIfInBounds i true) (a.put oi.dst v) w → wpAnyT P md ops Q R t (fuel + 1) listed a w := by
  intro fuel
  induction fuel with
  | zero =>
    intro listed a w hcl _ hr hy hS H
    refine ⟨fun h => (by rw [h] at hr; cases hr), fun j hj => ?_⟩
    by_cases hji : j = i
    · subst hji
      exact hy.wpOp hi (fun h => hS (haw h listed hcl (mem_ready.1 hr).1)) ⟨by rw [getD_set_ne true hit]; exact hS, H⟩
    · have := ready_mono hj hji
      rw [H.1] at this
      cases this
  | succ fuel ih =>
    intro listed a w hcl hfree hr hy hS H
    refine ⟨fun h => (by rw [h] at hr; cases hr), fun j hj => ?_⟩
    by_cases hji : j = i
    · subst hji
      exact hy.wpOp hi (fun h => hS (haw h listed hcl (mem_ready.1 hr).1)) ⟨by rw [getD_set_ne true hit]; exact hS, H⟩
    · have h1 := H.2 j (ready_mono hj hji)
      obtain ⟨hjun, oj, hoj, hall⟩ := mem_ready.1 hj
      have hnot : ∀ e ∈ oj.after, Region.binds md e = true → e.on ≠ i := fun e he hb heq => by
        have h1 := hall e he hb
        have h0 := (mem_ready.1 hr).1
        rw [heq] at h1
        rcases Nat.lt_or_ge i listed.size with h' | h'
        · simp [h'] at h0 h1; rw [h0] at h1; cases h1
        · simp [Array.getElem?_eq_none h'] at h1
      have h2 := wpOp_putT hoj (hfree j oj hoj hji hjun hnot) (fun cs b => hsel i oi cs b hi) (fun cs b => hsel j oj cs b hoj) hQ hy h1
      have hfree' : ∀ k ok, ops[k]? = some ok → k ≠ i → (listed.setIfInBounds j true).getD k true = false →
          (∀ e ∈ ok.after, Region.binds md e = true → e.on ≠ i) → oi.apart ops ok = true := fun k ok hk hki hun hno => by
        refine hfree k ok hk hki ?_ hno
        by_cases hjk : j = k
        · subst hjk; exact hjun
        · rw [getD_set_ne true hjk] at hun; exact hun
      refine wpOp_mono (fun a' w' h3 => ?_) h2
      obtain ⟨hy', hS', hH'⟩ := h3
      rw [Array.setIfInBounds_comm _ _ (fun e => hji e.symm)] at hS' hH'
      rw [getD_set_ne true hit] at hS'
      exact ⟨hS', ih (listed.setIfInBounds j true) a' w' (hcl.step hj) hfree' (ready_mono hr (Ne.symm hji)) hy' hS' hH'⟩

/-- The Bool over the region: 'pre': each may be taken now, whoever comes before it is apart from it, and it is a mere copy or the tail's head waits for it. -/
def preB (md : Region.Mode) (ops : Array Oper) (t : Nat) : List Nat → Array Bool → Bool
  | [], _ => true
  | i :: r, L => (Region.ready md ops L).contains i && Region.free md ops L i && i != t &&
      (reachB md ops i ops.size t || (match ops[i]? with | some o => (match o.op with | .move _ => true | _ => false) && o.guard.isNone | none => false)) && preB md ops t r (L.setIfInBounds i true)
/-- 'tail': none but this one can come up. -/
def tailB (md : Region.Mode) (ops : Array Oper) : List Nat → Array Bool → Bool
  | [], L => (Region.ready md ops L).isEmpty
  | k :: r, L => (Region.ready md ops L == [k]) && tailB md ops r (L.setIfInBounds k true)
def marksOf (L : Array Bool) (l : List Nat) : Array Bool := l.foldl (fun L i => L.setIfInBounds i true) L
def midB (md : Region.Mode) (ops : Array Oper) : List Nat → Array Bool → Bool
  | [], _ => true
  | k :: r, L => (Region.ready md ops L == [k]) && midB md ops r (L.setIfInBounds k true)
def splitRB (ops : Array Oper) (pre mid : List Nat) (t : Nat) (tail : List Nat) : Bool :=
  Region.noSelect ops && preB .any ops t pre (Array.replicate ops.size false) && midB .any ops mid (marksOf (Array.replicate ops.size false) pre) && mid.all (· != t) &&
  tailB .any ops (t :: tail) (marksOf (marksOf (Array.replicate ops.size false) pre) mid) && (pre.length + (mid.length + (t :: tail).length) == ops.size) && decide (t < ops.size)
def splitB (ops : Array Oper) (pre : List Nat) (t : Nat) (tail : List Nat) : Bool :=
  Region.noSelect ops && preB .any ops t pre (Array.replicate ops.size false) && tailB .any ops (t :: tail) (marksOf (Array.replicate ops.size false) pre) && (pre.length + (t :: tail).length == ops.size) && decide (t < ops.size)

theorem wpAnyT_tail {R : World → Prop} : ∀ (tail : List Nat) (l : List Oper) (L : Array Bool) (a : Act) (w : World), tail.map (ops[·]?) = l.map some → L.getD t true = true → tailB md ops tail L = true →
    wpList P ops Q l a w → wpAnyT P md ops Q R t tail.length L a w
  | [], l, L, a, w, hl, _, hB, h => by
    have : l = [] := by cases l <;> simp_all
    subst this
    exact ⟨by simpa [tailB] using hB, h⟩
  | k :: r, l, L, a, w, hl, ht, hB, h => by
    cases l with
    | nil => simp at hl
    | cons o l =>
      simp only [List.map_cons, List.cons.injEq] at hl
      simp only [tailB, Bool.and_eq_true, beq_iff_eq] at hB
      refine ⟨fun h0 => (by rw [hB.1] at h0; cases h0), fun i hi => ?_⟩
      rw [hB.1] at hi
      obtain rfl : i = k := by simpa using hi
      have htt : (L.setIfInBounds i true).getD t true = true := by
        by_cases e : i = t
        · subst e
          simp [Array.getElem?_setIfInBounds]
          split <;> simp_all
        · rw [getD_set_ne true e]; exact ht
      unfold wpOp
      simp only [hl.1]
      unfold wpList at h
      split
      · rename_i hw
        rw [if_pos hw] at h
        rcases h with h | h
        · exact .inl (Oper.wp_mono (fun a' w' h' => ⟨fun e => (by rw [htt] at e; cases e), wpAnyT_tail r l _ a' w' hl.2 htt hB.2 h'⟩) h)
        · exact .inr h
      · rename_i hw
        rw [if_neg hw] at h
        exact ⟨fun e => (by rw [htt] at e; cases e), wpAnyT_tail r l _ _ w hl.2 htt hB.2 h⟩

theorem wpAnyT_head {R : World → Prop} (tail : List Nat) (l : List Oper) (L : Array Bool) (a : Act) (w : World) (hl : (t :: tail).map (ops[·]?) = l.map some) (hlt : t < L.size) (hB : tailB md ops (t :: tail) L = true)
    (h : wpList P ops Q l a w) : wpAnyT P md ops Q R t (t :: tail).length L a w := by
  cases l with
  | nil => simp at hl
  | cons o l =>
    simp only [List.map_cons, List.cons.injEq] at hl
    simp only [tailB, Bool.and_eq_true, beq_iff_eq] at hB
    refine ⟨fun h0 => (by rw [hB.1] at h0; cases h0), fun i hi => ?_⟩
    rw [hB.1] at hi
    obtain rfl : i = t := by simpa using hi
    have htt : (L.setIfInBounds i true).getD i true = true := by simp [hlt]
    unfold wpOp
    simp only [hl.1]
    unfold wpList at h
    split
    · rename_i hw
      rw [if_pos hw] at h
      rcases h with h | h
      · exact .inl (Oper.wp_mono (fun a' w' h' => ⟨fun e => (by rw [htt] at e; cases e), wpAnyT_tail tail l _ a' w' hl.2 htt hB.2 h'⟩) h)
      · exact .inr h
    · rename_i hw
      rw [if_neg hw] at h
      exact ⟨fun e => (by rw [htt] at e; cases e), wpAnyT_tail tail l _ _ w hl.2 htt hB.2 h⟩

theorem wpAnyT_pre {w0 : World} (hs : Region.noSelect ops = true) (hQ : ∀ c (a : Act) d v w, Q (.panic c) (a.put d v) w → Q (.panic c) a w) {fuel : Nat} {R : Act → Prop} :
    ∀ (pre : List Nat) (l : List Oper) (L : Array Bool) (a : Act), pre.map (ops[·]?) = l.map some → Closed md ops L → L.getD t true = false → preB md ops t pre L = true →
      wpQuiet P ops (fun w' => w' = w0) R l a → (∀ a', R a' → wpAnyT P md ops Q (fun w' => w' = w0) t fuel (marksOf L pre) a' w0) → wpAnyT P md ops Q (fun w' => w' = w0) t (pre.length + fuel) L a w0
  | [], l, L, a, hl, _, _, _, h, hR => by
    have : l = [] := by cases l <;> simp_all
    subst this
    simpa [marksOf] using hR a h
  | i :: r, l, L, a, hl, hcl, ht, hB, h, hR => by
    cases l with
    | nil => simp at hl
    | cons o l =>
      simp only [List.map_cons, List.cons.injEq] at hl
      simp only [preB, Bool.and_eq_true, bne_iff_ne] at hB
      obtain ⟨⟨⟨⟨hr, hf⟩, hne⟩, haw⟩, hB'⟩ := hB
      have hr' : i ∈ Region.ready md ops L := by simpa using hr
      have hq : ∃ v, YT P ops (fun w' => w' = w0) (reachB md ops i ops.size t) o v a ∧ wpQuiet P ops (fun w' => w' = w0) R l (a.put o.dst v) := by
        unfold wpQuiet at h
        by_cases hw : Region.wanted o (yielded ops a.tmps) = true
        · rw [if_pos hw] at h
          obtain ⟨v, h1, h2⟩ := h
          refine ⟨v, .inl ⟨hw, fun w hww => ?_⟩, h2⟩
          cases hre : reachB md ops i ops.size t with
          | true => obtain rfl := hww hre; exact h1 w rfl
          | false =>
            rw [hre] at haw
            simp only [Bool.false_or, hl.1, Bool.and_eq_true] at haw
            have hmv : ∃ x, o.op = .move x := by
              have h3 := haw.1
              revert h3
              cases o.op <;> simp
            obtain ⟨x, hx⟩ := hmv
            have h4 := h1 w0 rfl
            have e1 : ∀ w : World, (execOp a.eval o).run P w = .ok (.value (a.eval x)) w := fun w => by simp [execOp, hx]
            unfold Oper.quietAt at h4 ⊢
            rw [e1] at h4 ⊢
            exact ⟨rfl, h4.2⟩
        · rw [if_neg hw] at h
          exact ⟨undef, .inr ⟨by simpa using hw, rfl⟩, h⟩
      obtain ⟨v, hy, hn⟩ := hq
      have hlen : (i :: r).length + fuel = (r.length + fuel) + 1 := by simp; omega
      rw [hlen]
      refine wpAnyT_first (aw := reachB md ops i ops.size t) hl.1 (Region.noSelect_spec hs) (fun c a w => hQ c a _ _ w) hne (fun haw' L' hc' hi' => reachB_spec hc' hi' _ _ haw') (r.length + fuel) L a w0 hcl (Region.free_spec hl.1 hf) hr' hy (fun _ => rfl) ?_
      refine wpAnyT_pre hs hQ r l _ _ hl.2 (hcl.step hr') ?_ hB' hn hR
      rw [getD_set_ne true hne]; exact ht

theorem size_marksOf : ∀ (l : List Nat) (L : Array Bool), (marksOf L l).size = L.size
  | [], _ => rfl
  | i :: r, L => by
    have := size_marksOf r (L.setIfInBounds i true)
    simpa [marksOf] using this

/-- THE LAW. -/
theorem wp_region_split {id : Nat} {a : Act} {w : World} (hm : P.follows .mixedOrders = true) (pre : List Nat) (t : Nat) (tail : List Nat) (hB : splitB ops pre t tail = true) (l1 l2 : List Oper)
    (h1 : pre.map (ops[·]?) = l1.map some) (h2 : (t :: tail).map (ops[·]?) = l2.map some) (hQ : ∀ c (a : Act) d v w, Q (.panic c) (a.put d v) w → Q (.panic c) a w)
    (h : wpQuiet P ops (fun w' => w' = w.drew) (fun a' => wpList P ops Q l2 a' w.drew) l1 a) : (Code.region id ops true).wp P Q a w := by
  simp only [splitB, Bool.and_eq_true, beq_iff_eq, decide_eq_true_eq] at hB
  obtain ⟨⟨⟨⟨hs, hp⟩, ht⟩, hlen⟩, hlt⟩ := hB
  refine wp_region_any hm (wpAny_of_T (R := fun w' => w' = w.drew) (t := t) _ _ _ _ ?_)
  rw [← hlen]
  have hst : (Array.replicate (pre.length + (t :: tail).length) false : Array Bool) = Array.replicate ops.size false := by rw [hlen]
  rw [hst]
  exact wpAnyT_pre hs hQ pre l1 _ a h1 (Closed.start _ _) (by simp [hlt]) hp h (fun a' h' => wpAnyT_head tail l2 _ a' _ h2 (by rw [size_marksOf]; simpa using hlt) ht h')

theorem map_filterMap : ∀ (l : List Nat), (l.all fun i => decide (i < ops.size)) = true → l.map (ops[·]?) = (l.filterMap (ops[·]?)).map some
  | [], _ => rfl
  | i :: r, h => by
    simp only [List.all_cons, Bool.and_eq_true, decide_eq_true_eq] at h
    have e : ops[i]? = some ops[i] := by simp [h.1]
    rw [List.map_cons, List.filterMap_cons_some e, List.map_cons, ← map_filterMap r h.2, e]

/-- THE LAW, as it is used: 'refine wp_region_cut mixed [0, 1, ..] t [..] (by kernel_rfl) (by kernel_rfl) (fun _ _ _ _ _ h => h) ?_', then the two lists are written out by 'simp only [List.filterMap_cons, ..]'. -/
theorem wp_region_cut {id : Nat} {a : Act} {w : World} (hm : P.follows .mixedOrders = true) (pre : List Nat) (t : Nat) (tail : List Nat) (hB : splitB ops pre t tail = true)
    (hI : ((pre ++ t :: tail).all fun i => decide (i < ops.size)) = true) (hQ : ∀ c (a : Act) d v w, Q (.panic c) (a.put d v) w → Q (.panic c) a w)
    (h : wpQuiet P ops (fun w' => w' = w.drew) (fun a' => wpList P ops Q ((t :: tail).filterMap (ops[·]?)) a' w.drew) (pre.filterMap (ops[·]?)) a) : (Code.region id ops true).wp P Q a w := by
  rw [List.all_append, Bool.and_eq_true] at hI
  exact wp_region_split hm pre t tail hB _ _ (map_filterMap pre hI.1) (map_filterMap (t :: tail) hI.2) hQ h

/-! ### The same with a condition R on the world in the place of the one world: 'pre' is taken under R; 'mid': none other can come up, and behind each R is shown anew; then the tail. -/

/-- The walk of 'pre': each yields its value in every world that meets R, and leaves it. -/
def wpTake (P : Program) (ops : Array Oper) (R : World → Prop) (K : Act → Prop) : List Oper → Act → Prop
  | [], a => K a
  | o :: r, a => if Region.wanted o (yielded ops a.tmps) then ∃ v, (∀ w, R w → (execOp a.eval o).run P w = .ok (.value v) w) ∧ wpTake P ops R K r (a.put o.dst v) else wpTake P ops R K r (a.put o.dst undef)

theorem wpAnyR_pre {R : World → Prop} (hs : Region.noSelect ops = true) (hQ : ∀ c (a : Act) d v w, Q (.panic c) (a.put d v) w → Q (.panic c) a w) {fuel : Nat} {K : Act → Prop} {w : World} (hR : R w) :
    ∀ (pre : List Nat) (l : List Oper) (L : Array Bool) (a : Act), pre.map (ops[·]?) = l.map some → Closed md ops L → L.getD t true = false → preB md ops t pre L = true →
      wpTake P ops R K l a → (∀ a', K a' → wpAnyT P md ops Q R t fuel (marksOf L pre) a' w) → wpAnyT P md ops Q R t (pre.length + fuel) L a w
  | [], l, L, a, hl, _, _, _, h, hK => by
    have : l = [] := by cases l <;> simp_all
    subst this
    simpa [marksOf] using hK a h
  | i :: r, l, L, a, hl, hcl, ht, hB, h, hK => by
    cases l with
    | nil => simp at hl
    | cons o l =>
      simp only [List.map_cons, List.cons.injEq] at hl
      simp only [preB, Bool.and_eq_true, bne_iff_ne] at hB
      obtain ⟨⟨⟨⟨hr, hf⟩, hne⟩, haw⟩, hB'⟩ := hB
      have hr' : i ∈ Region.ready md ops L := by simpa using hr
      have hq : ∃ v, YT P ops R (reachB md ops i ops.size t) o v a ∧ wpTake P ops R K l (a.put o.dst v) := by
        unfold wpTake at h
        by_cases hw : Region.wanted o (yielded ops a.tmps) = true
        · rw [if_pos hw] at h
          obtain ⟨v, h1, h2⟩ := h
          refine ⟨v, .inl ⟨hw, fun w1 hww => ?_⟩, h2⟩
          unfold Oper.quietAt
          cases hre : reachB md ops i ops.size t with
          | true => rw [h1 w1 (hww hre)]; exact ⟨rfl, rfl⟩
          | false =>
            rw [hre] at haw
            simp only [Bool.false_or, hl.1, Bool.and_eq_true] at haw
            have hmv : ∃ x, o.op = .move x := by
              have h3 := haw.1
              revert h3
              cases o.op <;> simp
            obtain ⟨x, hx⟩ := hmv
            have h4 := h1 w hR
            have e1 : ∀ w : World, (execOp a.eval o).run P w = .ok (.value (a.eval x)) w := fun w => by simp [execOp, hx]
            rw [e1] at h4 ⊢
            simp at h4
            exact ⟨rfl, h4⟩
        · rw [if_neg hw] at h
          exact ⟨undef, .inr ⟨by simpa using hw, rfl⟩, h⟩
      obtain ⟨v, hy, hn⟩ := hq
      have hlen : (i :: r).length + fuel = (r.length + fuel) + 1 := by simp; omega
      rw [hlen]
      refine wpAnyT_first (aw := reachB md ops i ops.size t) hl.1 (Region.noSelect_spec hs) (fun c a w => hQ c a _ _ w) hne (fun haw' L' hc' hi' => reachB_spec hc' hi' _ _ haw') (r.length + fuel) L a w hcl (Region.free_spec hl.1 hf) hr' hy (fun _ => hR) ?_
      refine wpAnyR_pre hs hQ hR r l _ _ hl.2 (hcl.step hr') ?_ hB' hn hK
      rw [getD_set_ne true hne]; exact ht

/-- Behind an operation of 'mid': R anew, and what follows. -/
def midQ (Q : Exit → Act → World → Prop) (R : World → Prop) (K : Act → World → Prop) : Exit → Act → World → Prop
  | .normal, a, w => R w ∧ K a w
  | e, a, w => Q e a w
/-- The walk of 'mid'. -/
def wpMids (P : Program) (ops : Array Oper) (Q : Exit → Act → World → Prop) (R : World → Prop) (K : Act → World → Prop) : List Oper → Act → World → Prop
  | [], a, w => K a w
  | o :: r, a, w => wpList P ops (midQ Q R (wpMids P ops Q R K r)) [o] a w

theorem wp_midQ {R : World → Prop} {K K' : Act → World → Prop} {o : Oper} {a : Act} {w : World} (hk : ∀ a w, R w → K a w → K' a w) (h : o.wp P a w (wpList P ops (midQ Q R K) []) (midQ Q R K)) : o.wp P a w K' Q := by
  have hn : ∀ a w, wpList P ops (midQ Q R K) [] a w → K' a w := fun a w h => hk a w h.1 h.2
  unfold Oper.wp at *
  generalize (execOp a.eval o).run P w = r at *
  cases r with
  | ok n w' =>
    cases n <;> simp only [Oper.upon] at h ⊢ <;>
      first
        | exact hn _ _ h
        | exact Calls.mono h (fun e w'' he => by cases e <;> first | exact hn _ _ he | exact he)
        | exact Rows.mono h (fun _ _ he => hn _ _ he)
  | halt x w' => cases x <;> simp only [Oper.upon] at h ⊢ <;> exact h

theorem wpAnyR_mid {R : World → Prop} {fuel : Nat} {K : Act → World → Prop} : ∀ (mid : List Nat) (l : List Oper) (L : Array Bool) (a : Act) (w : World), mid.map (ops[·]?) = l.map some → mid.all (· != t) = true → midB md ops mid L = true →
    wpMids P ops Q R K l a w → (∀ a' w', K a' w' → wpAnyT P md ops Q R t fuel (marksOf L mid) a' w') → R w → wpAnyT P md ops Q R t (mid.length + fuel) L a w
  | [], l, L, a, w, hl, _, _, h, hK, _ => by
    have : l = [] := by cases l <;> simp_all
    subst this
    simpa [marksOf] using hK a w h
  | k :: r, l, L, a, w, hl, hne, hB, h, hK, hR => by
    cases l with
    | nil => simp at hl
    | cons o l =>
      simp only [List.map_cons, List.cons.injEq] at hl
      simp only [midB, Bool.and_eq_true, beq_iff_eq] at hB
      simp only [List.all_cons, Bool.and_eq_true, bne_iff_ne] at hne
      have hlen : (k :: r).length + fuel = (r.length + fuel) + 1 := by simp; omega
      rw [hlen]
      refine ⟨fun h0 => (by rw [hB.1] at h0; cases h0), fun i hi => ?_⟩
      rw [hB.1] at hi
      obtain rfl : i = k := by simpa using hi
      have hK' : ∀ a' w', K a' w' → wpAnyT P md ops Q R t fuel (marksOf (L.setIfInBounds i true) r) a' w' := hK
      unfold wpOp
      simp only [hl.1]
      unfold wpMids wpList at h
      split
      · rename_i hw
        rw [if_pos hw] at h
        rcases h with h | ⟨h1, h2⟩
        · exact .inl (wp_midQ (fun a' w' hR' h' => ⟨fun _ => hR', wpAnyR_mid r l _ a' w' hl.2 hne.2 hB.2 h' hK' hR'⟩) h)
        · exact .inr ⟨h1, h2⟩
      · rename_i hw
        rw [if_neg hw] at h
        exact ⟨fun _ => h.1, wpAnyR_mid r l _ _ w hl.2 hne.2 hB.2 h.2 hK' h.1⟩

/-- THE LAW, with R. -/
theorem wp_region_cutR {id : Nat} {a : Act} {w : World} (hm : P.follows .mixedOrders = true) (pre mid : List Nat) (t : Nat) (tail : List Nat) (hB : splitRB ops pre mid t tail = true)
    (hI : ((pre ++ mid ++ t :: tail).all fun i => decide (i < ops.size)) = true) (hQ : ∀ c (a : Act) d v w, Q (.panic c) (a.put d v) w → Q (.panic c) a w) (R : World → Prop) (hR : R w.drew)
    (h : wpTake P ops R (fun a' => wpMids P ops Q R (fun a'' w'' => wpList P ops Q ((t :: tail).filterMap (ops[·]?)) a'' w'') (mid.filterMap (ops[·]?)) a' w.drew) (pre.filterMap (ops[·]?)) a) : (Code.region id ops true).wp P Q a w := by
  rw [List.all_append, List.all_append, Bool.and_eq_true, Bool.and_eq_true] at hI
  simp only [splitRB, Bool.and_eq_true, beq_iff_eq, decide_eq_true_eq] at hB
  obtain ⟨⟨⟨⟨⟨⟨hs, hp⟩, hmd⟩, hnt⟩, ht⟩, hlen⟩, hlt⟩ := hB
  refine wp_region_any hm (wpAny_of_T (R := R) (t := t) _ _ _ _ ?_)
  rw [← hlen]
  have hst : (Array.replicate (pre.length + (mid.length + (t :: tail).length)) false : Array Bool) = Array.replicate ops.size false := by rw [hlen]
  rw [hst]
  refine wpAnyR_pre hs hQ hR pre _ _ a (map_filterMap pre hI.1.1) (Closed.start _ _) (by simp [hlt]) hp h (fun a' h' => ?_)
  refine wpAnyR_mid mid _ _ a' _ (map_filterMap mid hI.1.2) hnt hmd h' (fun a'' w'' h'' => ?_) hR
  exact wpAnyT_head tail _ _ a'' _ (map_filterMap (t :: tail) hI.2) (by rw [size_marksOf, size_marksOf]; simpa using hlt) ht h''

theorem wt_nil {R : World → Prop} {K : Act → Prop} {a : Act} (h : K a) : wpTake P ops R K [] a := h
/-- One operation of 'pre' by its run equation. -/
theorem wt_run {R : World → Prop} {K : Act → Prop} {rest : List Oper} {op : Oper} {a : Act} (o : Op) (_ : op.op = o) (hw : Region.wanted op (yielded ops a.tmps) = true) (v : Value) (hrun : ∀ w, R w → (execOp a.eval op).run P w = .ok (.value v) w)
    (h : wpTake P ops R K rest (a.put op.dst v)) : wpTake P ops R K (op :: rest) a := by
  unfold wpTake
  rw [if_pos hw]
  exact ⟨v, hrun, h⟩
theorem wt_load {R : World → Prop} {K : Act → Prop} {rest : List Oper} {op : Oper} {a : Act} (ty : TypeId) (x : Operand) (ho : op.op = .load ty x) (hw : Region.wanted op (yielded ops a.tmps) = true) (p v : Value) (hx : a.eval x = p) (hrun : ∀ w, R w → (Instr.loadAt ty p).run P w = .ok v w)
    (h : wpTake P ops R K rest (a.put op.dst v)) : wpTake P ops R K (op :: rest) a :=
  wt_run _ ho hw v (fun w hw => by simp only [execOp, ho, hx, Sem.run_bind, hrun w hw, Result.andThen_ok, Sem.run_pure]) h
theorem wt_field {R : World → Prop} {K : Act → Prop} {rest : List Oper} {op : Oper} {a : Act} (ty : TypeId) (x : Operand) (f : Nat) (ho : op.op = .fieldAddr ty x f) (hw : Region.wanted op (yielded ops a.tmps) = true) (p v : Value) (hx : a.eval x = p) (hrun : ∀ w, (Instr.fieldAt ty p f).run P w = .ok v w)
    (h : wpTake P ops R K rest (a.put op.dst v)) : wpTake P ops R K (op :: rest) a :=
  wt_run _ ho hw v (fun w _ => by simp only [execOp, ho, hx, Sem.run_bind, hrun w, Result.andThen_ok, Sem.run_pure]) h
theorem wt_index {R : World → Prop} {K : Act → Prop} {rest : List Oper} {op : Oper} {a : Act} (ty : TypeId) (x y : Operand) (ho : op.op = .indexAddr ty x y) (hw : Region.wanted op (yielded ops a.tmps) = true) (p q v : Value) (hx : a.eval x = p) (hy : a.eval y = q) (hrun : ∀ w, (Instr.indexAt ty p q).run P w = .ok v w)
    (h : wpTake P ops R K rest (a.put op.dst v)) : wpTake P ops R K (op :: rest) a :=
  wt_run _ ho hw v (fun w _ => by simp only [execOp, ho, hx, hy, Sem.run_bind, hrun w, Result.andThen_ok, Sem.run_pure]) h
theorem wt_move {R : World → Prop} {K : Act → Prop} {rest : List Oper} {op : Oper} {a : Act} (x : Operand) (ho : op.op = .move x) (hw : Region.wanted op (yielded ops a.tmps) = true) (h : wpTake P ops R K rest (a.put op.dst (a.eval x))) : wpTake P ops R K (op :: rest) a :=
  wt_run _ ho hw _ (fun w _ => by simp only [execOp, ho, Sem.run_pure]) h
theorem wt_nilCheck {R : World → Prop} {K : Act → Prop} {rest : List Oper} {op : Oper} {a : Act} (x : Operand) (ho : op.op = .nilCheck x) (hw : Region.wanted op (yielded ops a.tmps) = true) (ad : Addr) (hx : a.eval x = .pointer (some ad)) (h : wpTake P ops R K rest (a.put op.dst (.pointer (some ad)))) : wpTake P ops R K (op :: rest) a :=
  wt_run _ ho hw _ (fun w _ => by simp only [execOp, ho, hx, Sem.run_pure]) h

/-- In the quiet walk of 'pre': a load by its run equation. -/
theorem ws_load {W : World} {R : Act → Prop} {rest : List Oper} {op : Oper} {a : Act} (t : TypeId) (x : Operand) (ho : op.op = .load t x) (hw : Region.wanted op (yielded ops a.tmps) = true) (p v : Value) (hx : a.eval x = p) (hrun : (Instr.loadAt t p).run P W = .ok v W)
    (h : wpQuiet P ops (fun w' => w' = W) R rest (a.put op.dst v)) : wpQuiet P ops (fun w' => w' = W) R (op :: rest) a :=
  wpQuiet_step fun K hK => by
    rw [if_pos hw]
    refine ⟨v, ?_, hK _ h⟩
    rintro w1 rfl
    unfold Oper.quietAt
    simp only [execOp, ho, hx, Sem.run_bind, hrun, Result.andThen_ok, Sem.run_pure]
    exact ⟨rfl, rfl⟩
end
end Go.Split
