/-
  A REGION THAT DRAWS: reads, then what comes one by one, then TWO THAT COME IN EITHER ORDER, then the tail.
-/
import Derived.Test.YbulkdufcEng2
namespace Go.Split
open Go.Proofs.Ybulkdufc
section
variable {P : Program} {ops : Array Oper} {md : Region.Mode} {Q : Exit → Act → World → Prop} {t : Nat}
theorem wpOp_mid {R : World → Prop} {K K' : Act → World → Prop} {i : Nat} {o : Oper} {a : Act} {w : World} (hi : ops[i]? = some o) (hk : ∀ a' w', R w' → K a' w' → K' a' w') (h : wpList P ops (midQ Q R K) [o] a w) : wpOp P ops Q i K' a w := by
  unfold wpOp
  simp only [hi]
  unfold wpList at h
  split
  · rename_i hw
    rw [if_pos hw] at h
    rcases h with h | ⟨h1, h2⟩
    · exact .inl (wp_midQ hk h)
    · exact .inr ⟨h1, h2⟩
  · rename_i hw
    rw [if_neg hw] at h
    exact hk _ _ h.1 h.2
theorem wpAnyR_pair {R : World → Prop} {fuel : Nat} {K : Act → World → Prop} {p q : Nat} {op oq : Oper} {L L2 : Array Bool} {a : Act} {w : World} (hp : ops[p]? = some op) (hq : ops[q]? = some oq) (hpt : p ≠ t) (hqt : q ≠ t)
    (hr : Region.ready md ops L = [p, q]) (hr1 : Region.ready md ops (L.setIfInBounds p true) = [q]) (hr2 : Region.ready md ops (L.setIfInBounds q true) = [p])
    (e1 : (L.setIfInBounds p true).setIfInBounds q true = L2) (e2 : (L.setIfInBounds q true).setIfInBounds p true = L2)
    (h1 : wpMids P ops Q R K [op, oq] a w) (h2 : wpMids P ops Q R K [oq, op] a w) (hK : ∀ a' w', K a' w' → wpAnyT P md ops Q R t fuel L2 a' w') : wpAnyT P md ops Q R t (fuel + 2) L a w := by
  have hf : ∀ k : Nat, [k].length + fuel = fuel + 1 := fun k => by simp; omega
  refine ⟨fun h0 => (by rw [hr] at h0; cases h0), fun i hi => ?_⟩
  rw [hr] at hi
  rcases (by simpa using hi : i = p ∨ i = q) with rfl | rfl
  · refine wpOp_mid hp (fun a' w' hR' h' => ⟨fun _ => hR', ?_⟩) h1
    rw [← hf q]
    exact wpAnyR_mid [q] [oq] _ a' w' (by simp [hq]) (by simp [hqt]) (by simp [midB, hr1]) h' (fun a'' w'' hk => by rw [show marksOf (L.setIfInBounds i true) [q] = L2 from e1]; exact hK a'' w'' hk) hR'
  · refine wpOp_mid hq (fun a' w' hR' h' => ⟨fun _ => hR', ?_⟩) h2
    rw [← hf p]
    exact wpAnyR_mid [p] [op] _ a' w' (by simp [hp]) (by simp [hpt]) (by simp [midB, hr2]) h' (fun a'' w'' hk => by rw [show marksOf (L.setIfInBounds i true) [p] = L2 from e2]; exact hK a'' w'' hk) hR'
def splitPB (ops : Array Oper) (pre mid : List Nat) (p q : Nat) (mid2 : List Nat) (t : Nat) (tail : List Nat) (M L2 : Array Bool) : Bool :=
  Region.noSelect ops && preB .any ops t pre (Array.replicate ops.size false) && midB .any ops mid (marksOf (Array.replicate ops.size false) pre) && mid.all (· != t) &&
  tailB .any ops (t :: tail) (marksOf L2 mid2) && (pre.length + (mid.length + ((mid2.length + (t :: tail).length) + 2)) == ops.size) && decide (t < L2.size) &&
  (marksOf (marksOf (Array.replicate ops.size false) pre) mid == M) && (Region.ready .any ops M == [p, q]) && (Region.ready .any ops (M.setIfInBounds p true) == [q]) && (Region.ready .any ops (M.setIfInBounds q true) == [p]) &&
  ((M.setIfInBounds p true).setIfInBounds q true == L2) && ((M.setIfInBounds q true).setIfInBounds p true == L2) && (p != t) && (q != t) && decide (t < ops.size) && mid2.all (· != t) && midB .any ops mid2 L2
/-- What follows the two. -/
def wpAfter (P : Program) (ops : Array Oper) (Q : Exit → Act → World → Prop) (R : World → Prop) (mid2 : List Nat) (t : Nat) (tail : List Nat) (a : Act) (w : World) : Prop :=
  R w ∧ wpMids P ops Q R (fun a'' w'' => wpList P ops Q ((t :: tail).filterMap (ops[·]?)) a'' w'') (mid2.filterMap (ops[·]?)) a w
theorem wp_region_cutP {id : Nat} {a : Act} {w : World} (hm : P.follows .mixedOrders = true) (pre mid : List Nat) (p q : Nat) (mid2 : List Nat) (t : Nat) (tail : List Nat) (M L2 : Array Bool) (op oq : Oper) (hp : ops[p]? = some op) (hq : ops[q]? = some oq) (hB : splitPB ops pre mid p q mid2 t tail M L2 = true)
    (hI : ((pre ++ mid ++ t :: tail).all fun i => decide (i < ops.size)) = true) (hI2 : (mid2.all fun i => decide (i < ops.size)) = true) (hQ : ∀ c (a : Act) d v w, Q (.panic c) (a.put d v) w → Q (.panic c) a w) (R : World → Prop) (hR : R w.drew)
    (h : wpTake P ops R (fun a' => wpMids P ops Q R (fun a1 w1 => wpMids P ops Q R (wpAfter P ops Q R mid2 t tail) [op, oq] a1 w1 ∧ wpMids P ops Q R (wpAfter P ops Q R mid2 t tail) [oq, op] a1 w1)
      (mid.filterMap (ops[·]?)) a' w.drew) (pre.filterMap (ops[·]?)) a) : (Code.region id ops true).wp P Q a w := by
  rw [List.all_append, List.all_append, Bool.and_eq_true, Bool.and_eq_true] at hI
  simp only [splitPB, Bool.and_eq_true, beq_iff_eq, decide_eq_true_eq, bne_iff_ne] at hB
  obtain ⟨⟨⟨⟨⟨⟨⟨⟨⟨⟨⟨⟨⟨⟨⟨⟨⟨hs, hpre⟩, hmd⟩, hnt⟩, ht⟩, hlen⟩, hlt⟩, hM⟩, hr⟩, hr1⟩, hr2⟩, e1⟩, e2⟩, hpt⟩, hqt⟩, hlt0⟩, hnt2⟩, hmd2⟩ := hB
  refine wp_region_any hm (wpAny_of_T (R := R) (t := t) _ _ _ _ ?_)
  have hlen' : ops.size = pre.length + (mid.length + ((mid2.length + (t :: tail).length) + 2)) := hlen.symm
  conv => arg 7; rw [hlen']
  refine wpAnyR_pre hs hQ hR pre _ _ a (map_filterMap pre hI.1.1) (Closed.start _ _) (by simp [hlt0]) hpre h (fun a' h' => ?_)
  refine wpAnyR_mid mid _ _ a' _ (map_filterMap mid hI.1.2) hnt hmd h' (fun a'' w'' h'' => ?_) hR
  rw [hM]
  refine wpAnyR_pair hp hq hpt hqt hr hr1 hr2 e1 e2 h''.1 h''.2 (fun a3 w3 h3 => ?_)
  exact wpAnyR_mid mid2 _ _ a3 w3 (map_filterMap mid2 hI2) hnt2 hmd2 h3.2 (fun a4 w4 h4 => wpAnyT_head tail _ _ a4 _ (map_filterMap (t :: tail) hI.2) (by rw [size_marksOf]; exact hlt) ht h4) h3.1
end
end Go.Split
namespace Go.Proofs.Ybulkdufc
open Go.RowKit Go.Split
theorem cL_cutP {ops : Array Oper} {Q : Exit → Act → World → Prop} {s : Nat → Value} {w : World} {id : Nat} (pre mid : List Nat) (p q : Nat) (mid2 : List Nat) (t : Nat) (tail : List Nat) (M L2 : Array Bool) (R : World → Prop) (hR : R w.drew) {op oq : Oper}
    (h : tL Yba.prog ops R (fun a' => wpMids Yba.prog ops Q R (fun a1 w1 => wpMids Yba.prog ops Q R (wpAfter Yba.prog ops Q R mid2 t tail) [op, oq] a1 w1 ∧ wpMids Yba.prog ops Q R (wpAfter Yba.prog ops Q R mid2 t tail) [oq, op] a1 w1)
      (mid.filterMap (ops[·]?)) a' w.drew) (pre.filterMap (ops[·]?)) s)
    (hp : ops[p]? = some op := by rfl) (hq : ops[q]? = some oq := by rfl)
    (hQ : ∀ c (a : Act) d v w, Q (.panic c) (a.put d v) w → Q (.panic c) a w := by intro c a d v w h; cases d <;> exact h)
    (hB : splitPB ops pre mid p q mid2 t tail M L2 = true := by kernel_rfl) (hI : ((pre ++ mid ++ t :: tail).all fun i => decide (i < ops.size)) = true := by kernel_rfl) (hI2 : (mid2.all fun i => decide (i < ops.size)) = true := by kernel_rfl) : cL Yba.prog (.region id ops true) Q s w := fun a F =>
  wp_region_cutP mixed pre mid p q mid2 t tail M L2 op oq hp hq hB hI hI2 hQ R hR (h a F)
theorem mids_both {ops : Array Oper} {Q : Exit → Act → World → Prop} {s : Nat → Value} {w : World} {R : World → Prop} {K1 K2 : Act → World → Prop} (h1 : ∀ a, Fr a s → K1 a w) (h2 : ∀ a, Fr a s → K2 a w) (a : Act) (F : Fr a s) : wpMids Yba.prog ops Q R (fun a w => K1 a w ∧ K2 a w) [] a w := ⟨h1 a F, h2 a F⟩
theorem mids_after {ops : Array Oper} {Q : Exit → Act → World → Prop} {s : Nat → Value} {w : World} {R : World → Prop} {mid2 : List Nat} {t : Nat} {tail : List Nat} (hR : R w)
    (h : ∀ a, Fr a s → wpMids Yba.prog ops Q R (fun a'' w'' => wpList Yba.prog ops Q ((t :: tail).filterMap (ops[·]?)) a'' w'') (mid2.filterMap (ops[·]?)) a w) (a : Act) (F : Fr a s) : wpMids Yba.prog ops Q R (wpAfter Yba.prog ops Q R mid2 t tail) [] a w := ⟨hR, h a F⟩
end Go.Proofs.Ybulkdufc
